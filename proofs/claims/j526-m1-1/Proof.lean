import JvmDerived
import JvmDerived.Pilot.@@N@@Statement
import JvmDerived.Pilot.@@N@@Code
set_option linter.unusedVariables false
set_option linter.unusedSimpArgs false
namespace Jvm.RoadKit
open Sem ClassFile Op Lib Jvm.Stand Jvm.Free Jvm.LawKit
section New
variable {p : Program} {l : Launch} {e : Env} {R : Room} {s : State} {m : MethodId} {args : Array Value} {below : List Frame} {meth : Method} {c : Code} {T : State} {locs : List Loc} {cells slots : Nat}
theorem retI (X : Stand p l e R s m args below meth c T locs cells slots) (hx : p.tables.exec = Jvm.exec) {pc : Nat} {Ls : Array Slot} {z : Int32} {rest : List Value} (hret : meth.sig.returnType = some .int) (hd : decode c.code pc = .ok (.ireturn, 1)) {fs : List Frame}
    (hl : ∀ (f : JFrame) (acts : List Action), f.method = m → f.locked = none → f.entered = [] → (doReturn e (T.setTop f) acts (some (.int z))).1 = T.setFrames fs) : Steps p.tables e below (T.setTop (mkF m pc Ls (.int z :: rest))) (T.setFrames fs) := by
  have hm' : T.vm.method? m = some meth := X.method'
  have hn : narrow .int (.int z) = .int z := rfl
  show Steps p.tables e below (T.setTop { method := m, pc := pc, locals := Ls, stack := _ :: rest, locked := none }) _
  jvm_step X.here [X.here.top, hx, hd, hm', hret, hn]
  first | (intro acts; rw [hl _ acts rfl rfl rfl]) | rw [hl _ _ rfl rfl rfl]
  exact Steps.refl _
end New
end Jvm.RoadKit
namespace Jvm.Pilot.@@N@@
open Jvm Jvm.ClassFile Sem Op Lib Jvm.Free Jvm.Stand Jvm.LawKit Jvm.RoadKit Bundle Jvm.Pilot.@@N@@.Jvm.D

theorem wi {Z : State} {a0 : Array Value} (hw : ∀ d ∈ tables_1, d.before a0 Z = true) (i : Nat) {d : Jvm.Cond} (h : tables_1[i]? = some d) : d.before a0 Z = true := hw d (List.mem_of_getElem? h)
section OwnKit
variable {p : Program} {l : Launch} {e : Env} {R : Room} {s : State} {m : MethodId} {args : Array Value} {below : List Frame} {meth : Method} {c : Code} {bs : ByteArray} {st : State} {n0 cells slots : Nat} {P P' : Heap → Prop} {pc pc' : Nat} {L L' : Array Slot} {S S' : List Value} {Z : State} {a0 : Array Value} {own : String}
/-- where a walk stands: some state T reached from st, with what is known of its heap -/
def Sit (p : Program) (l : Launch) (e : Env) (R : Room) (s : State) (m : MethodId) (args : Array Value) (below : List Frame) (meth : Method) (c : Code) (bs : ByteArray) (st : State) (n0 cells slots : Nat) (P : Heap → Prop) (pc : Nat) (L : Array Slot) (S : List Value) : Prop :=
  ∃ (T : State) (locs : List Loc) (k n : Nat), Stand p l e R s m args below meth c T locs k n ∧ k ≤ cells ∧ n ≤ slots ∧ Fr n0 locs ∧ n0 ≤ s.heap.size ∧ P T.heap ∧ p.tables.exec = Jvm.exec ∧ c.code = bs ∧ ∀ t, Steps p.tables e below (T.setTop (mkF m pc L S)) t → Steps p.tables e below st t
theorem Sit.go (h : Sit p l e R s m args below meth c bs st n0 cells slots P pc L S)
    (f : ∀ T locs k n, Stand p l e R s m args below meth c T locs k n → p.tables.exec = Jvm.exec → c.code = bs → P T.heap → ∀ t, Steps p.tables e below (T.setTop (mkF m pc' L' S')) t → Steps p.tables e below (T.setTop (mkF m pc L S)) t) :
    Sit p l e R s m args below meth c bs st n0 cells slots P pc' L' S' := by
  obtain ⟨T, locs, k, n, X, q1, q2, q3, q4, q5, hx, hby, q⟩ := h
  exact ⟨T, locs, k, n, X, q1, q2, q3, q4, q5, hx, hby, fun t z => q t (f T locs k n X hx hby q5 t z)⟩
theorem Sit.mono (h : Sit p l e R s m args below meth c bs st n0 cells slots P pc L S) (f : ∀ hh, P hh → P' hh) : Sit p l e R s m args below meth c bs st n0 cells slots P' pc L S := by
  obtain ⟨T, locs, k, n, X, q1, q2, q3, q4, q5, r⟩ := h
  exact ⟨T, locs, k, n, X, q1, q2, q3, q4, f _ q5, r⟩
theorem Sit.bound {cells' slots' : Nat} (h : Sit p l e R s m args below meth c bs st n0 cells slots P pc L S) (h1 : cells ≤ cells') (h2 : slots ≤ slots') : Sit p l e R s m args below meth c bs st n0 cells' slots' P pc L S := by
  obtain ⟨T, locs, k, n, X, q1, q2, r⟩ := h
  exact ⟨T, locs, k, n, X, Nat.le_trans q1 h1, Nat.le_trans q2 h2, r⟩
theorem Sit.facts (h : Sit p l e R s m args below meth c bs st n0 cells slots P pc L S) : ∃ hh, P hh := by
  obtain ⟨T, locs, k, n, X, q1, q2, q3, q4, q5, r⟩ := h
  exact ⟨_, q5⟩
theorem Sit.ex {α : Type} {Q : α → Heap → Prop} (h : Sit p l e R s m args below meth c bs st n0 cells slots (fun hh => ∃ x, Q x hh) pc L S) : ∃ x, Sit p l e R s m args below meth c bs st n0 cells slots (Q x) pc L S := by
  obtain ⟨T, locs, k, n, X, q1, q2, q3, q4, ⟨x, q5⟩, r⟩ := h
  exact ⟨x, T, locs, k, n, X, q1, q2, q3, q4, q5, r⟩
theorem Sit.size (h : Sit p l e R s m args below meth c bs st n0 cells slots P pc L S) : Sit p l e R s m args below meth c bs st n0 cells slots (fun hh => P hh ∧ n0 ≤ hh.size) pc L S := by
  obtain ⟨T, locs, k, n, X, q1, q2, q3, q4, q5, r⟩ := h
  exact ⟨T, locs, k, n, X, q1, q2, q3, q4, ⟨q5, Nat.le_trans q4 X.same.2.1⟩, r⟩
/-! plain steps -/
theorem Sit.iload {k : Nat} {v : Int32} (h : Sit p l e R s m args below meth c bs st n0 cells slots P pc L S) (hd : decode bs pc = .ok (.iload k, 2)) (hl : L[k]? = some (.val (.int v))) (hp : pc + 2 = pc') : Sit p l e R s m args below meth c bs st n0 cells slots P pc' L (.int v :: S) := by
  subst hp; exact h.go fun T _ _ _ X hx hby _ t z => XS.iload X.here hx rfl (hb hby hd) hl z
theorem Sit.iloadN {k : Fin 4} {v : Int32} (h : Sit p l e R s m args below meth c bs st n0 cells slots P pc L S) (hd : decode bs pc = .ok (.iload_n k, 1)) (hl : L[k.val]? = some (.val (.int v))) (hp : pc + 1 = pc') : Sit p l e R s m args below meth c bs st n0 cells slots P pc' L (.int v :: S) := by
  subst hp; exact h.go fun T _ _ _ X hx hby _ t z => XS.iloadN X.here hx rfl (hb hby hd) hl z
theorem Sit.lload {k : Nat} {v : Int64} (h : Sit p l e R s m args below meth c bs st n0 cells slots P pc L S) (hd : decode bs pc = .ok (.lload k, 2)) (hl : L[k]? = some (.val (.long v))) (hp : pc + 2 = pc') : Sit p l e R s m args below meth c bs st n0 cells slots P pc' L (.long v :: S) := by
  subst hp; exact h.go fun T _ _ _ X hx hby _ t z => XS.lload X.here hx rfl (hb hby hd) hl z
theorem Sit.lloadN {k : Fin 4} {v : Int64} (h : Sit p l e R s m args below meth c bs st n0 cells slots P pc L S) (hd : decode bs pc = .ok (.lload_n k, 1)) (hl : L[k.val]? = some (.val (.long v))) (hp : pc + 1 = pc') : Sit p l e R s m args below meth c bs st n0 cells slots P pc' L (.long v :: S) := by
  subst hp; exact h.go fun T _ _ _ X hx hby _ t z => XS.lloadN X.here hx rfl (hb hby hd) hl z
theorem Sit.aload {k : Nat} {v : Addr} (h : Sit p l e R s m args below meth c bs st n0 cells slots P pc L S) (hd : decode bs pc = .ok (.aload k, 2)) (hl : L[k]? = some (.val (.ref v))) (hp : pc + 2 = pc') : Sit p l e R s m args below meth c bs st n0 cells slots P pc' L (.ref v :: S) := by
  subst hp; exact h.go fun T _ _ _ X hx hby _ t z => XS.aload X.here hx rfl (hb hby hd) hl rfl z
theorem Sit.aloadN {k : Fin 4} {v : Addr} (h : Sit p l e R s m args below meth c bs st n0 cells slots P pc L S) (hd : decode bs pc = .ok (.aload_n k, 1)) (hl : L[k.val]? = some (.val (.ref v))) (hp : pc + 1 = pc') : Sit p l e R s m args below meth c bs st n0 cells slots P pc' L (.ref v :: S) := by
  subst hp; exact h.go fun T _ _ _ X hx hby _ t z => XS.aloadN X.here hx rfl (hb hby hd) hl rfl z
theorem Sit.istore {k : Nat} {v : Int32} (L' : Array Slot) (h : Sit p l e R s m args below meth c bs st n0 cells slots P pc L (.int v :: S)) (hd : decode bs pc = .ok (.istore k, 2)) (hl : storeLocals L k (.int v) = some L') (hp : pc + 2 = pc') : Sit p l e R s m args below meth c bs st n0 cells slots P pc' L' S := by
  subst hp; exact h.go fun T _ _ _ X hx hby _ t z => XS.istore X.here hx rfl (hb hby hd) rfl hl z
theorem Sit.istoreN {k : Fin 4} {v : Int32} (L' : Array Slot) (h : Sit p l e R s m args below meth c bs st n0 cells slots P pc L (.int v :: S)) (hd : decode bs pc = .ok (.istore_n k, 1)) (hl : storeLocals L k.val (.int v) = some L') (hp : pc + 1 = pc') : Sit p l e R s m args below meth c bs st n0 cells slots P pc' L' S := by
  subst hp; exact h.go fun T _ _ _ X hx hby _ t z => XS.istoreN X.here hx rfl (hb hby hd) rfl hl z
theorem Sit.lstore {k : Nat} {v : Int64} (L' : Array Slot) (h : Sit p l e R s m args below meth c bs st n0 cells slots P pc L (.long v :: S)) (hd : decode bs pc = .ok (.lstore k, 2)) (hl : storeLocals L k (.long v) = some L') (hp : pc + 2 = pc') : Sit p l e R s m args below meth c bs st n0 cells slots P pc' L' S := by
  subst hp; exact h.go fun T _ _ _ X hx hby _ t z => XS.lstore X.here hx rfl (hb hby hd) rfl hl z
theorem Sit.lstoreN {k : Fin 4} {v : Int64} (L' : Array Slot) (h : Sit p l e R s m args below meth c bs st n0 cells slots P pc L (.long v :: S)) (hd : decode bs pc = .ok (.lstore_n k, 1)) (hl : storeLocals L k.val (.long v) = some L') (hp : pc + 1 = pc') : Sit p l e R s m args below meth c bs st n0 cells slots P pc' L' S := by
  subst hp; exact h.go fun T _ _ _ X hx hby _ t z => XS.lstoreN X.here hx rfl (hb hby hd) rfl hl z
theorem Sit.astore {k : Nat} {v : Addr} (L' : Array Slot) (h : Sit p l e R s m args below meth c bs st n0 cells slots P pc L (.ref v :: S)) (hd : decode bs pc = .ok (.astore k, 2)) (hl : storeLocals L k (.ref v) = some L') (hp : pc + 2 = pc') : Sit p l e R s m args below meth c bs st n0 cells slots P pc' L' S := by
  subst hp; exact h.go fun T _ _ _ X hx hby _ t z => XS.astore X.here hx rfl (hb hby hd) rfl rfl hl z
theorem Sit.astoreN {k : Fin 4} {v : Addr} (L' : Array Slot) (h : Sit p l e R s m args below meth c bs st n0 cells slots P pc L (.ref v :: S)) (hd : decode bs pc = .ok (.astore_n k, 1)) (hl : storeLocals L k.val (.ref v) = some L') (hp : pc + 1 = pc') : Sit p l e R s m args below meth c bs st n0 cells slots P pc' L' S := by
  subst hp; exact h.go fun T _ _ _ X hx hby _ t z => XS.astoreN X.here hx rfl (hb hby hd) rfl rfl hl z
theorem Sit.iconst {i : Int} (v : Int32) (h : Sit p l e R s m args below meth c bs st n0 cells slots P pc L S) (hd : decode bs pc = .ok (.iconst i, 1)) (hv : Int32.ofInt i = v) (hp : pc + 1 = pc') : Sit p l e R s m args below meth c bs st n0 cells slots P pc' L (.int v :: S) := by
  subst hp hv; exact h.go fun T _ _ _ X hx hby _ t z => XS.iconst X.here hx rfl (hb hby hd) z
theorem Sit.bipush {i : Int} (v : Int32) (h : Sit p l e R s m args below meth c bs st n0 cells slots P pc L S) (hd : decode bs pc = .ok (.bipush i, 2)) (hv : (Int8.ofInt i).toInt32 = v) (hp : pc + 2 = pc') : Sit p l e R s m args below meth c bs st n0 cells slots P pc' L (.int v :: S) := by
  subst hp hv; exact h.go fun T _ _ _ X hx hby _ t z => XS.bipush X.here hx rfl (hb hby hd) z
theorem Sit.sipush {i : Int} (v : Int32) (h : Sit p l e R s m args below meth c bs st n0 cells slots P pc L S) (hd : decode bs pc = .ok (.sipush i, 3)) (hv : (Int16.ofInt i).toInt32 = v) (hp : pc + 3 = pc') : Sit p l e R s m args below meth c bs st n0 cells slots P pc' L (.int v :: S) := by
  subst hp hv; exact h.go fun T _ _ _ X hx hby _ t z => XS.sipush X.here hx rfl (hb hby hd) z
theorem Sit.lconst {k : Fin 2} (v : Int64) (h : Sit p l e R s m args below meth c bs st n0 cells slots P pc L S) (hd : decode bs pc = .ok (.lconst k, 1)) (hv : Int64.ofNat k = v) (hp : pc + 1 = pc') : Sit p l e R s m args below meth c bs st n0 cells slots P pc' L (.long v :: S) := by
  subst hp hv; exact h.go fun T _ _ _ X hx hby _ t z => XS.lconst X.here hx rfl (hb hby hd) z
theorem Sit.ldc {index : Nat} {v : Int32} (h : Sit p l e R s m args below meth c bs st n0 cells slots P pc L S) (hZ : Z.Warmed39 s.vm) (hown : s.vm.findClass own = some m.cls) (w : (Cond.constant own index v).before a0 Z = true) (hd : decode bs pc = .ok (.ldc index, 2)) (hp : pc + 2 = pc') : Sit p l e R s m args below meth c bs st n0 cells slots P pc' L (.int v :: S) := by
  subst hp; exact h.go fun T _ _ _ X hx hby _ t z => X.ldcInt hx hown (mvT hZ w) (g := mkF m pc L S) rfl (hb hby hd) t z
theorem Sit.ldcw {index : Nat} {v : Int32} (h : Sit p l e R s m args below meth c bs st n0 cells slots P pc L S) (hZ : Z.Warmed39 s.vm) (hown : s.vm.findClass own = some m.cls) (w : (Cond.constant own index v).before a0 Z = true) (hd : decode bs pc = .ok (.ldc_w index, 3)) (hp : pc + 3 = pc') : Sit p l e R s m args below meth c bs st n0 cells slots P pc' L (.int v :: S) := by
  subst hp; exact h.go fun T _ _ _ X hx hby _ t z => X.ldcwInt hx hown (mvT hZ w) (g := mkF m pc L S) rfl (hb hby hd) t z
theorem Sit.ldc2 {index : Nat} {v : Int64} (h : Sit p l e R s m args below meth c bs st n0 cells slots P pc L S) (hZ : Z.Warmed39 s.vm) (hown : s.vm.findClass own = some m.cls) (w : (Cond.constantLong own index v).before a0 Z = true) (hd : decode bs pc = .ok (.ldc2_w index, 3)) (hp : pc + 3 = pc') : Sit p l e R s m args below meth c bs st n0 cells slots P pc' L (.long v :: S) := by
  subst hp; exact h.go fun T _ _ _ X hx hby _ t z => X.ldc2Long hx hown (mvT hZ w) (g := mkF m pc L S) rfl (hb hby hd) t z
/-! Java's shifts on longs and >>> on ints -/
def ushr32 (x y : Int32) : Int32 := (x.toUInt32 >>> (y &&& 31).toUInt32).toInt32
def shl64 (x : Int64) (y : Int32) : Int64 := x <<< (y &&& 0x3f).toInt64
def ushr64 (x : Int64) (y : Int32) : Int64 := (x.toUInt64 >>> (y &&& 0x3f).toInt64.toUInt64).toInt64
def lcmp3 (x y : Int64) : Int32 := if x > y then 1 else if x = y then 0 else -1
theorem Sit.iadd {x : Int32} {y : Int32} (h : Sit p l e R s m args below meth c bs st n0 cells slots P pc L (.int y :: .int x :: S)) (hd : decode bs pc = .ok (.iadd, 1)) (hp : pc + 1 = pc') : Sit p l e R s m args below meth c bs st n0 cells slots P pc' L (.int (x + y) :: S) := by
  subst hp; exact h.go fun T _ _ _ X hx hby _ t z => XS.iadd X.here hx rfl (hb hby hd) rfl z
theorem Sit.isub {x : Int32} {y : Int32} (h : Sit p l e R s m args below meth c bs st n0 cells slots P pc L (.int y :: .int x :: S)) (hd : decode bs pc = .ok (.isub, 1)) (hp : pc + 1 = pc') : Sit p l e R s m args below meth c bs st n0 cells slots P pc' L (.int (x - y) :: S) := by
  subst hp; exact h.go fun T _ _ _ X hx hby _ t z => XS.isub X.here hx rfl (hb hby hd) rfl z
theorem Sit.imul {x : Int32} {y : Int32} (h : Sit p l e R s m args below meth c bs st n0 cells slots P pc L (.int y :: .int x :: S)) (hd : decode bs pc = .ok (.imul, 1)) (hp : pc + 1 = pc') : Sit p l e R s m args below meth c bs st n0 cells slots P pc' L (.int (x * y) :: S) := by
  subst hp; exact h.go fun T _ _ _ X hx hby _ t z => XS.imul X.here hx rfl (hb hby hd) rfl z
theorem Sit.iand {x : Int32} {y : Int32} (h : Sit p l e R s m args below meth c bs st n0 cells slots P pc L (.int y :: .int x :: S)) (hd : decode bs pc = .ok (.iand, 1)) (hp : pc + 1 = pc') : Sit p l e R s m args below meth c bs st n0 cells slots P pc' L (.int (x &&& y) :: S) := by
  subst hp; exact h.go fun T _ _ _ X hx hby _ t z => XS.iand X.here hx rfl (hb hby hd) rfl z
theorem Sit.ior {x : Int32} {y : Int32} (h : Sit p l e R s m args below meth c bs st n0 cells slots P pc L (.int y :: .int x :: S)) (hd : decode bs pc = .ok (.ior, 1)) (hp : pc + 1 = pc') : Sit p l e R s m args below meth c bs st n0 cells slots P pc' L (.int (x ||| y) :: S) := by
  subst hp; exact h.go fun T _ _ _ X hx hby _ t z => XS.ior X.here hx rfl (hb hby hd) rfl z
theorem Sit.ixor {x : Int32} {y : Int32} (h : Sit p l e R s m args below meth c bs st n0 cells slots P pc L (.int y :: .int x :: S)) (hd : decode bs pc = .ok (.ixor, 1)) (hp : pc + 1 = pc') : Sit p l e R s m args below meth c bs st n0 cells slots P pc' L (.int (x ^^^ y) :: S) := by
  subst hp; exact h.go fun T _ _ _ X hx hby _ t z => XS.ixor X.here hx rfl (hb hby hd) rfl z
theorem Sit.ishl {x : Int32} {y : Int32} (h : Sit p l e R s m args below meth c bs st n0 cells slots P pc L (.int y :: .int x :: S)) (hd : decode bs pc = .ok (.ishl, 1)) (hp : pc + 1 = pc') : Sit p l e R s m args below meth c bs st n0 cells slots P pc' L (.int (x <<< (y &&& 31)) :: S) := by
  subst hp; exact h.go fun T _ _ _ X hx hby _ t z => XS.ishl X.here hx rfl (hb hby hd) rfl z
theorem Sit.ishr {x : Int32} {y : Int32} (h : Sit p l e R s m args below meth c bs st n0 cells slots P pc L (.int y :: .int x :: S)) (hd : decode bs pc = .ok (.ishr, 1)) (hp : pc + 1 = pc') : Sit p l e R s m args below meth c bs st n0 cells slots P pc' L (.int (x >>> (y &&& 31)) :: S) := by
  subst hp; exact h.go fun T _ _ _ X hx hby _ t z => XS.ishr X.here hx rfl (hb hby hd) rfl z
theorem Sit.iushr {x : Int32} {y : Int32} (h : Sit p l e R s m args below meth c bs st n0 cells slots P pc L (.int y :: .int x :: S)) (hd : decode bs pc = .ok (.iushr, 1)) (hp : pc + 1 = pc') : Sit p l e R s m args below meth c bs st n0 cells slots P pc' L (.int (ushr32 x y) :: S) := by
  subst hp; exact h.go fun T _ _ _ X hx hby _ t z => XS.iushr X.here hx rfl (hb hby hd) rfl z
theorem Sit.ladd {x : Int64} {y : Int64} (h : Sit p l e R s m args below meth c bs st n0 cells slots P pc L (.long y :: .long x :: S)) (hd : decode bs pc = .ok (.ladd, 1)) (hp : pc + 1 = pc') : Sit p l e R s m args below meth c bs st n0 cells slots P pc' L (.long (x + y) :: S) := by
  subst hp; exact h.go fun T _ _ _ X hx hby _ t z => XS.ladd X.here hx rfl (hb hby hd) rfl z
theorem Sit.lsub {x : Int64} {y : Int64} (h : Sit p l e R s m args below meth c bs st n0 cells slots P pc L (.long y :: .long x :: S)) (hd : decode bs pc = .ok (.lsub, 1)) (hp : pc + 1 = pc') : Sit p l e R s m args below meth c bs st n0 cells slots P pc' L (.long (x - y) :: S) := by
  subst hp; exact h.go fun T _ _ _ X hx hby _ t z => XS.lsub X.here hx rfl (hb hby hd) rfl z
theorem Sit.lmul {x : Int64} {y : Int64} (h : Sit p l e R s m args below meth c bs st n0 cells slots P pc L (.long y :: .long x :: S)) (hd : decode bs pc = .ok (.lmul, 1)) (hp : pc + 1 = pc') : Sit p l e R s m args below meth c bs st n0 cells slots P pc' L (.long (x * y) :: S) := by
  subst hp; exact h.go fun T _ _ _ X hx hby _ t z => XS.lmul X.here hx rfl (hb hby hd) rfl z
theorem Sit.land {x : Int64} {y : Int64} (h : Sit p l e R s m args below meth c bs st n0 cells slots P pc L (.long y :: .long x :: S)) (hd : decode bs pc = .ok (.land, 1)) (hp : pc + 1 = pc') : Sit p l e R s m args below meth c bs st n0 cells slots P pc' L (.long (x &&& y) :: S) := by
  subst hp; exact h.go fun T _ _ _ X hx hby _ t z => XS.land X.here hx rfl (hb hby hd) rfl z
theorem Sit.lor {x : Int64} {y : Int64} (h : Sit p l e R s m args below meth c bs st n0 cells slots P pc L (.long y :: .long x :: S)) (hd : decode bs pc = .ok (.lor, 1)) (hp : pc + 1 = pc') : Sit p l e R s m args below meth c bs st n0 cells slots P pc' L (.long (x ||| y) :: S) := by
  subst hp; exact h.go fun T _ _ _ X hx hby _ t z => XS.lor X.here hx rfl (hb hby hd) rfl z
theorem Sit.lxor {x : Int64} {y : Int64} (h : Sit p l e R s m args below meth c bs st n0 cells slots P pc L (.long y :: .long x :: S)) (hd : decode bs pc = .ok (.lxor, 1)) (hp : pc + 1 = pc') : Sit p l e R s m args below meth c bs st n0 cells slots P pc' L (.long (x ^^^ y) :: S) := by
  subst hp; exact h.go fun T _ _ _ X hx hby _ t z => XS.lxor X.here hx rfl (hb hby hd) rfl z
theorem Sit.lshl {x : Int64} {y : Int32} (h : Sit p l e R s m args below meth c bs st n0 cells slots P pc L (.int y :: .long x :: S)) (hd : decode bs pc = .ok (.lshl, 1)) (hp : pc + 1 = pc') : Sit p l e R s m args below meth c bs st n0 cells slots P pc' L (.long (shl64 x y) :: S) := by
  subst hp; exact h.go fun T _ _ _ X hx hby _ t z => XS.lshl X.here hx rfl (hb hby hd) rfl z
theorem Sit.lushr {x : Int64} {y : Int32} (h : Sit p l e R s m args below meth c bs st n0 cells slots P pc L (.int y :: .long x :: S)) (hd : decode bs pc = .ok (.lushr, 1)) (hp : pc + 1 = pc') : Sit p l e R s m args below meth c bs st n0 cells slots P pc' L (.long (ushr64 x y) :: S) := by
  subst hp; exact h.go fun T _ _ _ X hx hby _ t z => XS.lushr X.here hx rfl (hb hby hd) rfl z
theorem Sit.lcmp {x : Int64} {y : Int64} (h : Sit p l e R s m args below meth c bs st n0 cells slots P pc L (.long y :: .long x :: S)) (hd : decode bs pc = .ok (.lcmp, 1)) (hp : pc + 1 = pc') : Sit p l e R s m args below meth c bs st n0 cells slots P pc' L (.int (lcmp3 x y) :: S) := by
  subst hp; exact h.go fun T _ _ _ X hx hby _ t z => XS.lcmp X.here hx rfl (hb hby hd) rfl z
theorem Sit.i2l {x : Int32} (h : Sit p l e R s m args below meth c bs st n0 cells slots P pc L (.int x :: S)) (hd : decode bs pc = .ok (.i2l, 1)) (hp : pc + 1 = pc') : Sit p l e R s m args below meth c bs st n0 cells slots P pc' L (.long (x.toInt64) :: S) := by
  subst hp; exact h.go fun T _ _ _ X hx hby _ t z => XS.i2l X.here hx rfl (hb hby hd) rfl z
theorem Sit.l2i {x : Int64} (h : Sit p l e R s m args below meth c bs st n0 cells slots P pc L (.long x :: S)) (hd : decode bs pc = .ok (.l2i, 1)) (hp : pc + 1 = pc') : Sit p l e R s m args below meth c bs st n0 cells slots P pc' L (.int (x.toInt32) :: S) := by
  subst hp; exact h.go fun T _ _ _ X hx hby _ t z => XS.l2i X.here hx rfl (hb hby hd) rfl z
theorem Sit.i2b {x : Int32} (h : Sit p l e R s m args below meth c bs st n0 cells slots P pc L (.int x :: S)) (hd : decode bs pc = .ok (.i2b, 1)) (hp : pc + 1 = pc') : Sit p l e R s m args below meth c bs st n0 cells slots P pc' L (.int (x.toInt8.toInt32) :: S) := by
  subst hp; exact h.go fun T _ _ _ X hx hby _ t z => XS.i2b X.here hx rfl (hb hby hd) rfl z
theorem Sit.ineg {x : Int32} (h : Sit p l e R s m args below meth c bs st n0 cells slots P pc L (.int x :: S)) (hd : decode bs pc = .ok (.ineg, 1)) (hp : pc + 1 = pc') : Sit p l e R s m args below meth c bs st n0 cells slots P pc' L (.int (-x) :: S) := by
  subst hp; exact h.go fun T _ _ _ X hx hby _ t z => XS.ineg X.here hx rfl (hb hby hd) rfl z
theorem Sit.idiv {x y : Int32} (h : Sit p l e R s m args below meth c bs st n0 cells slots P pc L (.int y :: .int x :: S)) (hd : decode bs pc = .ok (.idiv, 1)) (hy : y ≠ 0) (hp : pc + 1 = pc') : Sit p l e R s m args below meth c bs st n0 cells slots P pc' L (.int (x / y) :: S) := by
  subst hp; exact h.go fun T _ _ _ X hx hby _ t z => XS.idiv X.here hx rfl (hb hby hd) rfl hy z
theorem Sit.irem {x y : Int32} (h : Sit p l e R s m args below meth c bs st n0 cells slots P pc L (.int y :: .int x :: S)) (hd : decode bs pc = .ok (.irem, 1)) (hy : y ≠ 0) (hp : pc + 1 = pc') : Sit p l e R s m args below meth c bs st n0 cells slots P pc' L (.int (x % y) :: S) := by
  subst hp; exact h.go fun T _ _ _ X hx hby _ t z => iremM X hx rfl (hb hby hd) rfl hy z
theorem Sit.lrem {x y : Int64} (h : Sit p l e R s m args below meth c bs st n0 cells slots P pc L (.long y :: .long x :: S)) (hd : decode bs pc = .ok (.lrem, 1)) (hy : y ≠ 0) (hp : pc + 1 = pc') : Sit p l e R s m args below meth c bs st n0 cells slots P pc' L (.long (x % y) :: S) := by
  subst hp; rw [← lrem_mod]; exact h.go fun T _ _ _ X hx hby _ t z => XS.lrem X.here hx rfl (hb hby hd) rfl hy z
theorem Sit.iinc {k : Nat} {i : Int} {x : Int32} (v : Int32) (L' : Array Slot) (h : Sit p l e R s m args below meth c bs st n0 cells slots P pc L S) (hd : decode bs pc = .ok (.iinc k i, 3)) (hl : L[k]? = some (.val (.int x))) (hv : x + Int32.ofInt i = v) (hl' : storeLocals L k (.int v) = some L') (hp : pc + 3 = pc') : Sit p l e R s m args below meth c bs st n0 cells slots P pc' L' S := by
  subst hp hv; exact h.go fun T _ _ _ X hx hby _ t z => XS.iinc X.here hx rfl (hb hby hd) hl hl' z
theorem Sit.dup {x : Value} (h : Sit p l e R s m args below meth c bs st n0 cells slots P pc L (x :: S)) (hd : decode bs pc = .ok (.dup, 1)) (hc : x.category = 1) (hp : pc + 1 = pc') : Sit p l e R s m args below meth c bs st n0 cells slots P pc' L (x :: x :: S) := by
  subst hp; exact h.go fun T _ _ _ X hx hby _ t z => XS.dup X.here hx rfl (hb hby hd) rfl hc z
theorem Sit.dupX1 {x y : Value} (h : Sit p l e R s m args below meth c bs st n0 cells slots P pc L (x :: y :: S)) (hd : decode bs pc = .ok (.dup_x1, 1)) (hc : x.category = 1) (hc' : y.category = 1) (hp : pc + 1 = pc') : Sit p l e R s m args below meth c bs st n0 cells slots P pc' L (x :: y :: x :: S) := by
  subst hp; exact h.go fun T _ _ _ X hx hby _ t z => XS.dupX1 X.here hx rfl (hb hby hd) rfl hc hc' z
theorem Sit.dup2 {x y : Value} (h : Sit p l e R s m args below meth c bs st n0 cells slots P pc L (x :: y :: S)) (hd : decode bs pc = .ok (.dup2, 1)) (hc : x.category = 1) (hc' : y.category = 1) (hp : pc + 1 = pc') : Sit p l e R s m args below meth c bs st n0 cells slots P pc' L (x :: y :: x :: y :: S) := by
  subst hp; exact h.go fun T _ _ _ X hx hby _ t z => Jvm.Free.XT.dup2 X.here hx rfl (hb hby hd) rfl hc hc' z
theorem Sit.pop {x : Value} (h : Sit p l e R s m args below meth c bs st n0 cells slots P pc L (x :: S)) (hd : decode bs pc = .ok (.pop, 1)) (hc : x.category = 1) (hp : pc + 1 = pc') : Sit p l e R s m args below meth c bs st n0 cells slots P pc' L S := by
  subst hp; exact h.go fun T _ _ _ X hx hby _ t z => XS.pop X.here hx rfl (hb hby hd) rfl hc z
theorem Sit.goto {o : Int} (h : Sit p l e R s m args below meth c bs st n0 cells slots P pc L S) (hd : decode bs pc = .ok (.goto o, 3)) (ho : 0 ≤ (pc : Int) + o) (hp : ((pc : Int) + o).toNat = pc') : Sit p l e R s m args below meth c bs st n0 cells slots P pc' L S :=
  h.go fun T _ _ _ X hx hby _ t z => XS.goto X.here hx rfl (pc0 := pc) rfl (hb hby hd) ho hp z
theorem Sit.ifY {cd : ClassFile.Cond} {x : Int32} {o : Int} (h : Sit p l e R s m args below meth c bs st n0 cells slots P pc L (.int x :: S)) (hd : decode bs pc = .ok (.ifCond cd o, 3)) (hc : if_icmp.holds cd x 0 = true) (ho : 0 ≤ (pc : Int) + o) (hp : ((pc : Int) + o).toNat = pc') : Sit p l e R s m args below meth c bs st n0 cells slots P pc' L S :=
  h.go fun T _ _ _ X hx hby _ t z => XS.ifYes X.here hx rfl (pc0 := pc) rfl (hb hby hd) rfl ((if0 _ _).trans hc) ho hp z
theorem Sit.ifN {cd : ClassFile.Cond} {x : Int32} {o : Int} (h : Sit p l e R s m args below meth c bs st n0 cells slots P pc L (.int x :: S)) (hd : decode bs pc = .ok (.ifCond cd o, 3)) (hc : if_icmp.holds cd x 0 = false) (hp : pc + 3 = pc') : Sit p l e R s m args below meth c bs st n0 cells slots P pc' L S := by
  subst hp; exact h.go fun T _ _ _ X hx hby _ t z => XS.ifNo X.here hx rfl (hb hby hd) rfl ((if0 _ _).trans hc) z
theorem Sit.icmpY {cd : ClassFile.Cond} {x y : Int32} {o : Int} (h : Sit p l e R s m args below meth c bs st n0 cells slots P pc L (.int y :: .int x :: S)) (hd : decode bs pc = .ok (.if_icmp cd o, 3)) (hc : if_icmp.holds cd x y = true) (ho : 0 ≤ (pc : Int) + o) (hp : ((pc : Int) + o).toNat = pc') : Sit p l e R s m args below meth c bs st n0 cells slots P pc' L S :=
  h.go fun T _ _ _ X hx hby _ t z => XS.icmpYes X.here hx rfl (pc0 := pc) rfl (hb hby hd) rfl hc ho hp z
theorem Sit.icmpN {cd : ClassFile.Cond} {x y : Int32} {o : Int} (h : Sit p l e R s m args below meth c bs st n0 cells slots P pc L (.int y :: .int x :: S)) (hd : decode bs pc = .ok (.if_icmp cd o, 3)) (hc : if_icmp.holds cd x y = false) (hp : pc + 3 = pc') : Sit p l e R s m args below meth c bs st n0 cells slots P pc' L S := by
  subst hp; exact h.go fun T _ _ _ X hx hby _ t z => XS.icmpNo X.here hx rfl (hb hby hd) rfl hc z
/-! comparisons as facts on whole numbers -/
def cmpP : ClassFile.Cond → Int32 → Int32 → Prop
  | .eq, x, y => x.toInt = y.toInt
  | .ne, x, y => x.toInt ≠ y.toInt
  | .lt, x, y => x.toInt < y.toInt
  | .ge, x, y => y.toInt ≤ x.toInt
  | .gt, x, y => y.toInt < x.toInt
  | .le, x, y => x.toInt ≤ y.toInt
theorem cmpP_holds (cd : ClassFile.Cond) (x y : Int32) : if_icmp.holds cd x y = true ↔ cmpP cd x y := by
  cases cd <;> simp [if_icmp.holds, cmpP, Int32.lt_iff_toInt_lt, Int32.le_iff_toInt_le, Int32.toInt_inj]
theorem cmpT {cd : ClassFile.Cond} {x y : Int32} (h : cmpP cd x y) : if_icmp.holds cd x y = true := (cmpP_holds cd x y).mpr h
theorem cmpF {cd : ClassFile.Cond} {x y : Int32} (h : ¬ cmpP cd x y) : if_icmp.holds cd x y = false := by
  rw [← Bool.not_eq_true, cmpP_holds]; exact h
def cmpZ : ClassFile.Cond → Int32 → Prop
  | .eq, x => x.toInt = 0
  | .ne, x => x.toInt ≠ 0
  | .lt, x => x.toInt < 0
  | .ge, x => 0 ≤ x.toInt
  | .gt, x => 0 < x.toInt
  | .le, x => x.toInt ≤ 0
theorem cmpT0 {cd : ClassFile.Cond} {x : Int32} (h : cmpZ cd x) : if_icmp.holds cd x 0 = true := cmpT (by cases cd <;> exact h)
theorem cmpF0 {cd : ClassFile.Cond} {x : Int32} (h : ¬ cmpZ cd x) : if_icmp.holds cd x 0 = false := cmpF (by cases cd <;> exact h)
def cmpJ : ClassFile.Cond → Int64 → Int64 → Prop
  | .eq, x, y => x = y
  | .ne, x, y => ¬ x = y
  | .lt, x, y => x.toInt < y.toInt
  | .ge, x, y => y.toInt ≤ x.toInt
  | .gt, x, y => y.toInt < x.toInt
  | .le, x, y => x.toInt ≤ y.toInt
theorem lc_iff (cd : ClassFile.Cond) (x y : Int64) : if_icmp.holds cd (lcmp3 x y) 0 = true ↔ cmpJ cd x y := by
  rw [cmpP_holds]
  obtain ⟨h1, h2, h3⟩ := c_lcmp x y
  have e : lcmp3 x y = lcmpW x y := rfl
  rw [e]
  have z : (0 : Int32).toInt = 0 := rfl
  have q : x = y ↔ x.toInt = y.toInt := Int64.toInt_inj.symm
  rcases Int.lt_trichotomy x.toInt y.toInt with h | h | h
  · have := h1 h; cases cd <;> simp only [cmpP, cmpJ, z, q] <;> omega
  · have := h2 h; cases cd <;> simp only [cmpP, cmpJ, z, q] <;> omega
  · have := h3 h; cases cd <;> simp only [cmpP, cmpJ, z, q] <;> omega
theorem lcT {cd : ClassFile.Cond} {x y : Int64} (h : cmpJ cd x y) : if_icmp.holds cd (lcmp3 x y) 0 = true := (lc_iff cd x y).mpr h
theorem lcF {cd : ClassFile.Cond} {x y : Int64} (h : ¬ cmpJ cd x y) : if_icmp.holds cd (lcmp3 x y) 0 = false := by
  rw [← Bool.not_eq_true, lc_iff]; exact h
theorem eqT {x y : Int32} (h : x = y) : if_icmp.holds .eq x y = true := (teq h).1
theorem eqF {x y : Int32} (h : ¬ x = y) : if_icmp.holds .eq x y = false := (feq h).1
theorem neT {x y : Int32} (h : ¬ x = y) : if_icmp.holds .ne x y = true := (feq h).2
theorem neF {x y : Int32} (h : x = y) : if_icmp.holds .ne x y = false := (teq h).2
/-! leaving -/
def Out (p : Program) (e : Env) (below : List Frame) (s st : State) (n0 cells slots : Nat) (Q : Option Value → Heap → Prop) : Prop :=
  ∃ s₂ o, Steps p.tables e below st s₂ ∧ s₂.status = .running ∧ Ended s₂ below o ∧ ∃ v L, o = .returned v ∧ (Fr n0 L ∧ Q v s₂.heap) ∧ FrameEnd s o s₂ L cells slots
theorem Out.mk {T : State} {locs : List Loc} {k n : Nat} {v : Option Value} {Q : Option Value → Heap → Prop} (X : Stand p l e R s m args below meth c T locs k n) (q1 : k ≤ cells) (q2 : n ≤ slots) (q3 : Fr n0 locs) (hQ : Q v T.heap) (hv : meth.sig.returnType = none → v = none) (hlk : meth.locks = false)
    (hst : ∀ fs : List Frame, (∀ (f : JFrame) (acts : List Action), f.method = m → f.locked = none → f.entered = [] → (doReturn e (T.setTop f) acts v).1 = T.setFrames fs) → Steps p.tables e below st (T.setFrames fs)) : Out p e below s st n0 cells slots Q := by
  obtain ⟨fs, hr, hrun, hended, hW, hsame⟩ := X.leave (v := v) hv hlk
  exact ⟨_, _, hst fs hr, hrun, hended, _, _, rfl, ⟨q3, hQ⟩, ⟨_, rfl⟩, hW, hsame.mono q1 q2⟩
theorem Sit.retI {z : Int32} {Q : Option Value → Heap → Prop} (h : Sit p l e R s m args below meth c bs st n0 cells slots P pc L (.int z :: S)) (hd : decode bs pc = .ok (.ireturn, 1)) (hret : meth.sig.returnType = some .int) (hlk : meth.locks = false) (hQ : ∀ hh, P hh → Q (some (.int z)) hh) : Out p e below s st n0 cells slots Q := by
  obtain ⟨T, locs, k, n, X, q1, q2, q3, q4, q5, hx, hby, q⟩ := h
  exact Out.mk X q1 q2 q3 (hQ _ q5) (fun h => by rw [hret] at h; cases h) hlk fun fs hr => q _ (Jvm.RoadKit.retI X hx hret (hb hby hd) hr)
theorem Sit.retZ {z : Int32} {Q : Option Value → Heap → Prop} (h : Sit p l e R s m args below meth c bs st n0 cells slots P pc L (.int z :: S)) (hd : decode bs pc = .ok (.ireturn, 1)) (hret : meth.sig.returnType = some .boolean) (hlk : meth.locks = false) (hQ : ∀ hh, P hh → Q (some (.int (z &&& 1))) hh) : Out p e below s st n0 cells slots Q := by
  obtain ⟨T, locs, k, n, X, q1, q2, q3, q4, q5, hx, hby, q⟩ := h
  exact Out.mk X q1 q2 q3 (hQ _ q5) (fun h => by rw [hret] at h; cases h) hlk fun fs hr => q _ (retN X hx (t := .boolean) hret (by simp) (hb hby hd) hr)
theorem Sit.retJ {z : Int64} {Q : Option Value → Heap → Prop} (h : Sit p l e R s m args below meth c bs st n0 cells slots P pc L [.long z]) (hd : decode bs pc = .ok (.lreturn, 1)) (hret : meth.sig.returnType = some .long) (hlk : meth.locks = false) (hQ : ∀ hh, P hh → Q (some (.long z)) hh) : Out p e below s st n0 cells slots Q := by
  obtain ⟨T, locs, k, n, X, q1, q2, q3, q4, q5, hx, hby, q⟩ := h
  exact Out.mk X q1 q2 q3 (hQ _ q5) (fun h => by rw [hret] at h; cases h) hlk fun fs hr => q _ (X.lreturnOut hx hret (hb hby hd) hr)
theorem Sit.retV {Q : Option Value → Heap → Prop} (h : Sit p l e R s m args below meth c bs st n0 cells slots P pc L []) (hd : decode bs pc = .ok (.return_, 1)) (hret : meth.sig.returnType = none) (hlk : meth.locks = false) (hQ : ∀ hh, P hh → Q none hh) : Out p e below s st n0 cells slots Q := by
  obtain ⟨T, locs, k, n, X, q1, q2, q3, q4, q5, hx, hby, q⟩ := h
  exact Out.mk X q1 q2 q3 (hQ _ q5) (fun _ => rfl) hlk fun fs hr => q _ (X.returnOut hx hret (hb hby hd) hr)
theorem Sit.retA {z : Addr} {t : FieldType} {Q : Option Value → Heap → Prop} (h : Sit p l e R s m args below meth c bs st n0 cells slots P pc L [.ref z]) (hd : decode bs pc = .ok (.areturn, 1)) (hret : meth.sig.returnType = some t) (ht : t.isReference = true) (hlk : meth.locks = false) (hQ : ∀ hh, P hh → Q (some (.ref z)) hh) : Out p e below s st n0 cells slots Q := by
  obtain ⟨T, locs, k, n, X, q1, q2, q3, q4, q5, hx, hby, q⟩ := h
  exact Out.mk X q1 q2 q3 (hQ _ q5) (fun h => by rw [hret] at h; cases h) hlk fun fs hr => q _ (X.areturnOut hx rfl hret ht (hb hby hd) hr)
/-! a method's contract -/
abbrev Met1 (l : Launch) (y : MethodName) (bytes : ByteArray) (maxL : Nat) (ret : Option FieldType) (ws : List Jvm.Cond) (rm : Room) (Z : State) (as : Array Value) (h0 : Heap) (n0 : Nat) (Q : Option Value → Heap → Prop) : Prop :=
  MetFree l y (head1 (Jvm.Cond.code y bytes maxL ret :: ws) rm) (fun a U => a = as ∧ Z.Warmed39 U.vm ∧ U.heap = h0) (fun _ _ _ _ _ => True) (fun _ U o U' => ∃ v L, o = .returned v ∧ (Fr n0 L ∧ Q v U'.heap) ∧ FrameEnd U o U' L rm.cells rm.slots)
theorem Met1.of {y : MethodName} {bytes : ByteArray} {maxL : Nat} {ret : Option FieldType} {ws : List Jvm.Cond} {rm : Room} {as : Array Value} {h0 : Heap} {Q : Option Value → Heap → Prop} {L0 : Array Slot} (hpn : plainFor y = true) (hef : ∀ m, entryFrame m as maxL = mkF m 0 L0 []) (Z0 : n0 ≤ h0.size)
    (body : ∀ p e s m below meth c st, Sit p l e rm s m as below meth c bytes st n0 0 0 (fun h => h = h0) 0 L0 [] → Z.Warmed39 s.vm → s.vm.findClass y.cls = some m.cls → meth.sig.returnType = ret → meth.locks = false → meth.name = y.name → c.maxLocals = maxL → Out p e below s st n0 rm.cells rm.slots Q) : Met1 l y bytes maxL ret ws rm Z as h0 n0 Q := by
  refine MetFree.of_bodySF hpn hisR ?_
  intro p e s m args below meth c s₁ Bd hml0 hP hK
  obtain ⟨rfl, hZ, hh⟩ := hP
  have e0 : s₁.heap = h0 := by rw [← hh, Bd.state]; rfl
  exact body p e s m below meth c _ ⟨s₁, [], 0, 0, Stand.of_body Bd, Nat.le_refl _, Nat.le_refl _, Fr.nil n0, by rw [hh]; exact Z0, e0, Bd.exec, Bd.bytes, fun t k => castTop (hef m) k⟩ hZ (findClass_of_methodNamed Bd.named) Bd.returns Bd.notSynchronized (name_of_methodNamed Bd.named Bd.method).1 hml0
theorem Met1.mono {y : MethodName} {bytes : ByteArray} {maxL : Nat} {ret : Option FieldType} {ws : List Jvm.Cond} {rm : Room} {as : Array Value} {h0 : Heap} {Q Q' : Option Value → Heap → Prop} (h : Met1 l y bytes maxL ret ws rm Z as h0 n0 Q) (f : ∀ v hh, Q v hh → Q' v hh) : Met1 l y bytes maxL ret ws rm Z as h0 n0 Q' := by
  intro p e ha hc hk s m args below hf happ hP hK
  obtain ⟨n, o, h1, h2, h3, v, L, h4, ⟨h5, h6⟩, h7⟩ := h p e ha hc hk s m args below hf happ hP hK
  exact ⟨n, o, h1, h2, h3, v, L, h4, ⟨h5, f _ _ h6⟩, h7⟩
/-! a static call by its contract -/
theorem Sit.callS {index : Nat} {y : MethodName} {bytes : ByteArray} {maxL maxO : Nat} {ret : Option FieldType} {rm : Room} {Q : Option Value → Heap → Prop} {W : Nat} (argsL rest : List Value) (h : Sit p l e R s m args below meth c bs st n0 cells slots P pc L (argsL.reverse ++ rest)) (hZ : Z.Warmed39 s.vm) (hown : s.vm.findClass own = some m.cls)
    (w1 : (Cond.methodLink own index y).before a0 Z = true) (w2 : (Cond.static y).before a0 Z = true) (w3 : (Cond.initialized y.cls).before a0 Z = true) (w4 : (Cond.code y bytes maxL ret).before a0 Z = true) (hy : y.cls ≠ "java/lang/invoke/MethodHandle" ∧ y.cls ≠ "java/lang/invoke/VarHandle")
    (hM : ∀ h0, P h0 → n0 ≤ h0.size → Met1 l y bytes maxL ret [] rm Z argsL.toArray h0 n0 Q) (hml : c.maxLocals = maxO) (hsz : L.size = maxO) (hlen : ∀ sig, parseMethodDescriptor y.desc = some sig → argsL.length = sig.parameters.length) (hd : decode bs pc = .ok (.invokestatic index, 3)) (hW : 2 * 0 + (rest.map fun v => v.category).sum ≤ W)
    (hf : rm.frames + 1 ≤ R.frames) (hl : W + (maxL + 11) + rm.locals ≤ R.locals) (hcl : cells + rm.cells ≤ R.cells) (hsl : slots + rm.slots ≤ R.slots) (hp : pc + 3 = pc') :
    ∃ v : Option Value, Sit p l e R s m args below meth c bs st n0 (cells + rm.cells) (slots + rm.slots) (fun hh => Q v hh) pc' L (v.toList ++ rest) := by
  subst hp
  obtain ⟨T, locs, k, n, X, q1, q2, q3, q4, q5, hx, hby, q⟩ := h
  obtain ⟨v, _, ⟨T2, L2, k2, n2⟩, -, X2, ⟨Lc2, ⟨hN2, hQ2⟩, l2, y2, z2⟩, st2⟩ := Jvm.LawKit.callS X hx (y := y) hown (mvT hZ w1) (mvT hZ w2) (mvT hZ w3) (mvT hZ w4) hy (backOf (W := W) (Q := fun v hh L => Fr n0 L ∧ Q v hh) (hM T.heap q5 (Nat.le_trans q4 X.same.2.1)) hZ w4 w3 hf hl) (g := mkF m pc L (argsL.reverse ++ rest)) rfl (by rw [hml]; exact hsz) (argsL := argsL) (rest := rest) hlen rfl hW (hb hby hd) (fun _ _ => ⟨rfl, rfl, Nat.le_trans (Nat.add_le_add_right q1 _) hcl, Nat.le_trans (Nat.add_le_add_right q2 _) hsl⟩)
  dsimp only [Pt.U, Pt.locs, Pt.cells, Pt.slots] at X2 l2 y2 z2 st2 hQ2
  subst l2 y2 z2
  exact ⟨v, T2, _, _, _, X2, Nat.add_le_add_right q1 _, Nat.add_le_add_right q2 _, Fr.app q3 hN2, q4, hQ2, hx, hby, fun t z => q t (st2 t z)⟩
end OwnKit

section OwnBits
theorem ushr64_bv (x : Int64) (y : Int32) : (ushr64 x y).toBitVec = x.toBitVec >>> (y.toBitVec.toNat % 64) := by
  have h1 : (y &&& 0x3f).toBitVec.toNat = y.toBitVec.toNat % 64 := by
    show (y.toBitVec &&& (0x3f : Int32).toBitVec).toNat = _
    rw [BitVec.toNat_and]
    show y.toBitVec.toNat &&& 63 = _
    exact Nat.and_two_pow_sub_one_eq_mod _ 6
  have h2 : (y &&& 0x3f).toInt64.toBitVec.toNat = y.toBitVec.toNat % 64 := by
    show ((y &&& 0x3f).toBitVec.signExtend 64).toNat = _
    have hm : (y &&& 0x3f).toBitVec.msb = false := by
      rw [BitVec.msb_eq_false_iff_two_mul_lt, h1]; omega
    rw [BitVec.signExtend_eq_setWidth_of_msb_false hm, BitVec.toNat_setWidth, h1]; omega
  show x.toBitVec >>> ((y &&& 0x3f).toInt64.toBitVec % 64) = _
  rw [BitVec.ushiftRight_eq', BitVec.toNat_umod, h2]
  show x.toBitVec >>> (y.toBitVec.toNat % 64 % 64) = _
  rw [Nat.mod_mod]
theorem shl64_bv (x : Int64) (y : Int32) : (shl64 x y).toBitVec = x.toBitVec <<< (y.toBitVec.toNat % 64) := by
  have h1 : (y &&& 0x3f).toBitVec.toNat = y.toBitVec.toNat % 64 := by
    show (y.toBitVec &&& (0x3f : Int32).toBitVec).toNat = _
    rw [BitVec.toNat_and]
    show y.toBitVec.toNat &&& 63 = _
    exact Nat.and_two_pow_sub_one_eq_mod _ 6
  have hm : (y &&& 0x3f).toBitVec.msb = false := by
    rw [BitVec.msb_eq_false_iff_two_mul_lt, h1]; omega
  have h2 : (y &&& 0x3f).toInt64.toBitVec.toNat = y.toBitVec.toNat % 64 := by
    show ((y &&& 0x3f).toBitVec.signExtend 64).toNat = _
    rw [BitVec.signExtend_eq_setWidth_of_msb_false hm, BitVec.toNat_setWidth, h1]; omega
  have h3 : (y &&& 0x3f).toInt64.toBitVec.msb = false := by
    rw [BitVec.msb_eq_false_iff_two_mul_lt, h2]; omega
  have h4 : ((y &&& 0x3f).toInt64.toBitVec.smod 64).toNat = y.toBitVec.toNat % 64 := by
    rw [BitVec.smod_eq, h3]
    show ((y &&& 0x3f).toInt64.toBitVec.umod 64).toNat = _
    rw [BitVec.umod_eq, BitVec.toNat_umod, h2]
    show y.toBitVec.toNat % 64 % 64 = _
    rw [Nat.mod_mod]
  show x.toBitVec <<< ((y &&& 0x3f).toInt64.toBitVec.smod 64) = _
  rw [BitVec.shiftLeft_eq', h4]
theorem ushr32_bv (x y : Int32) : (ushr32 x y).toBitVec = x.toBitVec >>> (y.toBitVec.toNat % 32) := by
  have h1 : (y &&& 31).toBitVec.toNat = y.toBitVec.toNat % 32 := by
    show (y.toBitVec &&& (31 : Int32).toBitVec).toNat = _
    rw [BitVec.toNat_and]
    show y.toBitVec.toNat &&& 31 = _
    exact Nat.and_two_pow_sub_one_eq_mod _ 5
  show x.toBitVec >>> ((y &&& 31).toBitVec % 32) = _
  rw [BitVec.ushiftRight_eq', BitVec.toNat_umod, h1]
  show x.toBitVec >>> (y.toBitVec.toNat % 32 % 32) = _
  rw [Nat.mod_mod]
theorem shl32_bv (x y : Int32) : (x <<< (y &&& 31)).toBitVec = x.toBitVec <<< (y.toBitVec.toNat % 32) := by
  show x.toBitVec <<< ((y &&& 31).toBitVec.smod 32) = _
  rw [BitVec.shiftLeft_eq', sm32 y _ rfl]
end OwnBits

section OwnHeap
variable {p : Program} {l : Launch} {e : Env} {R : Room} {s : State} {m : MethodId} {args : Array Value} {below : List Frame} {meth : Method} {c : Code} {bs : ByteArray} {st : State} {n0 cells slots : Nat} {P P' : Heap → Prop} {pc pc' : Nat} {L L' : Array Slot} {S S' : List Value} {Z : State} {a0 : Array Value} {own : String} {hh hh' : Heap} {a b : Addr} {ty : FieldType} {vs : List Value} {v w : Value} {j : Nat}
/-- an array and its components -/
def AV (Z : State) (h : Heap) (a : Addr) (ty : FieldType) (vs : List Value) : Prop := ∃ cl : Cell, Arr Z h a cl ty ∧ cl.slots.toList = vs
theorem AV.lt (A : AV Z hh a ty vs) : a < hh.size := by obtain ⟨cl, A, -⟩ := A; exact A.lt
theorem AV.ext (A : AV Z hh a ty vs) (E : Ext hh hh') : AV Z hh' a ty vs := by obtain ⟨cl, A, r⟩ := A; exact ⟨cl, A.ext E, r⟩
theorem AV.other (A : AV Z hh a ty vs) (X : Wr hh hh' b j v) (q : a ≠ b) : AV Z hh' a ty vs := by obtain ⟨cl, A, r⟩ := A; exact ⟨cl, A.other X q, r⟩
theorem AV.keep {ws : List Addr} (A : AV Z hh a ty vs) (K : Keep hh hh' ws) (q : a ∉ ws) : AV Z hh' a ty vs := by obtain ⟨cl, A, r⟩ := A; exact ⟨cl, ⟨K.2.1 a cl A.1 q, A.2⟩, r⟩
theorem AV.set (A : AV Z hh a ty vs) (X : Wr hh hh' a j v) : AV Z hh' a ty (vs.set j v) := by
  obtain ⟨cl, A, rfl⟩ := A
  exact ⟨_, A.same X, by simp [Cell.setSlot]⟩
theorem AV.new {k : ClassId} {n : Int32} (A : Arr Z hh a (newA k ty n) ty) : AV Z hh a ty (List.replicate n.toNatClampNeg (defaultValue ty)) := ⟨_, A, by simp [newA]⟩
theorem AV.uniq {us : List Value} (A : AV Z hh a ty vs) (B : AV Z hh a ty us) : vs = us := by
  obtain ⟨c1, A, rfl⟩ := A
  obtain ⟨c2, B, rfl⟩ := B
  cases A.1.symm.trans B.1; rfl
theorem clamp_of {x : Int32} {i : Nat} (h : x.toInt = (i : Int)) : x.toNatClampNeg = i := by
  show x.toInt.toNat = i
  omega
theorem nlt0 {x : Int32} (h : 0 ≤ x.toInt) : ¬ x < 0 := by rw [Int32.lt_iff_toInt_lt]; show ¬ x.toInt < 0; omega
theorem AV.inb {cl : Cell} {x : Int32} (hx : 0 ≤ x.toInt) (r : cl.slots.toList = vs) (h : x.toNatClampNeg < vs.length) : ¬ (x < 0 ∨ cl.slots.size ≤ x.toNatClampNeg) := by
  rintro (q | q)
  · exact nlt0 hx q
  · subst r; simp at h; omega
theorem Sit.alen {n : Nat} (v : Int32) (h : Sit p l e R s m args below meth c bs st n0 cells slots P pc L (.ref a :: S)) (hZ : Z.Warmed39 s.vm) (hP : ∀ hh, P hh → ∃ vs, AV Z hh a ty vs ∧ vs.length = n) (hd : decode bs pc = .ok (.arraylength, 1)) (hv : n.toInt32 = v) (hp : pc + 1 = pc') : Sit p l e R s m args below meth c bs st n0 cells slots P pc' L (.int v :: S) := by
  subst hp hv
  refine h.go fun T _ _ _ X hx hby hT t z => ?_
  obtain ⟨vs, ⟨cl, A, r⟩, rfl⟩ := hP _ hT
  refine X.arraylength hx A.1 (State.isArrayOf_alike hZ.alike A.2.1) (g := mkF m pc L (.ref a :: S)) rfl rfl (hb hby hd) t ?_
  have e : cl.slots.size = vs.length := by rw [← r]; simp
  rw [e]; exact z
theorem Sit.iaload {x v : Int32} (h : Sit p l e R s m args below meth c bs st n0 cells slots P pc L (.int x :: .ref a :: S)) (hZ : Z.Warmed39 s.vm) (hx0 : 0 ≤ x.toInt) (hP : ∀ hh, P hh → ∃ vs, AV Z hh a .int vs ∧ vs[x.toNatClampNeg]? = some (.int v)) (hd : decode bs pc = .ok (.iaload, 1)) (hp : pc + 1 = pc') : Sit p l e R s m args below meth c bs st n0 cells slots P pc' L (.int v :: S) := by
  subst hp
  refine h.go fun T _ _ _ X hx hby hT t z => ?_
  obtain ⟨vs, ⟨cl, A, r⟩, q⟩ := hP _ hT
  exact X.iaload hx A.1 (State.isArrayOf_alike hZ.alike A.2.1) A.2.2 (AV.inb hx0 r (List.getElem?_eq_some_iff.mp q).1) (by subst r; simpa using q) (g := mkF m pc L (.int x :: .ref a :: S)) rfl rfl (hb hby hd) t z
theorem Sit.laload {x : Int32} {v : Int64} (h : Sit p l e R s m args below meth c bs st n0 cells slots P pc L (.int x :: .ref a :: S)) (hZ : Z.Warmed39 s.vm) (hx0 : 0 ≤ x.toInt) (hP : ∀ hh, P hh → ∃ vs, AV Z hh a .long vs ∧ vs[x.toNatClampNeg]? = some (.long v)) (hd : decode bs pc = .ok (.laload, 1)) (hp : pc + 1 = pc') : Sit p l e R s m args below meth c bs st n0 cells slots P pc' L (.long v :: S) := by
  subst hp
  refine h.go fun T _ _ _ X hx hby hT t z => ?_
  obtain ⟨vs, ⟨cl, A, r⟩, q⟩ := hP _ hT
  exact X.laload hx A.1 (State.isArrayOf_alike hZ.alike A.2.1) A.2.2 (AV.inb hx0 r (List.getElem?_eq_some_iff.mp q).1) (by subst r; simpa using q) (g := mkF m pc L (.int x :: .ref a :: S)) rfl rfl (hb hby hd) t z
theorem Sit.baload {x v : Int32} (h : Sit p l e R s m args below meth c bs st n0 cells slots P pc L (.int x :: .ref a :: S)) (hZ : Z.Warmed39 s.vm) (hx0 : 0 ≤ x.toInt) (hP : ∀ hh, P hh → ∃ vs, AV Z hh a .byte vs ∧ vs[x.toNatClampNeg]? = some (.int v)) (hd : decode bs pc = .ok (.baload, 1)) (hp : pc + 1 = pc') : Sit p l e R s m args below meth c bs st n0 cells slots P pc' L (.int v :: S) := by
  subst hp
  refine h.go fun T _ _ _ X hx hby hT t z => ?_
  obtain ⟨vs, ⟨cl, A, r⟩, q⟩ := hP _ hT
  exact X.baloadBytes hx A.1 (State.isArrayOf_alike hZ.alike A.2.1) A.2.2 (AV.inb hx0 r (List.getElem?_eq_some_iff.mp q).1) (by subst r; simpa using q) (g := mkF m pc L (.int x :: .ref a :: S)) rfl rfl (hb hby hd) t z
/-- a step that writes one slot of a new cell -/
theorem Sit.wr {sl : Nat} (h : Sit p l e R s m args below meth c bs st n0 cells slots P pc L S) (ha : n0 ≤ a) (hP' : ∀ hh hh', P hh → Wr hh hh' a sl v → P' hh')
    (f : ∀ T locs k n, Stand p l e R s m args below meth c T locs k n → p.tables.exec = Jvm.exec → c.code = bs → P T.heap → ∃ T' h', Stand p l e R s m args below meth c T' (locs ++ [⟨a, sl⟩]) k n ∧ T'.heap = h' ∧ Wr T.heap h' a sl v ∧ ∀ t, Steps p.tables e below (T'.setTop (mkF m pc' L' S')) t → Steps p.tables e below (T.setTop (mkF m pc L S)) t) :
    Sit p l e R s m args below meth c bs st n0 cells slots P' pc' L' S' := by
  obtain ⟨T, locs, k, n, X, q1, q2, q3, q4, q5, hx, hby, q⟩ := h
  obtain ⟨T', h', X', rfl, hW, stp⟩ := f T locs k n X hx hby q5
  exact ⟨T', _, k, n, X', q1, q2, Fr.snoc X' q3 ha, q4, hP' _ _ q5 hW, hx, hby, fun t z => q t (stp t z)⟩
theorem Sit.iastore {x i : Int32} (h : Sit p l e R s m args below meth c bs st n0 cells slots P pc L (.int x :: .int i :: .ref a :: S)) (hZ : Z.Warmed39 s.vm) (ha : n0 ≤ a) (hx0 : 0 ≤ i.toInt) (hP : ∀ hh, P hh → ∃ vs, AV Z hh a .int vs ∧ i.toNatClampNeg < vs.length) (hP' : ∀ hh hh', P hh → Wr hh hh' a i.toNatClampNeg (.int x) → P' hh') (hd : decode bs pc = .ok (.iastore, 1)) (hp : pc + 1 = pc') : Sit p l e R s m args below meth c bs st n0 cells slots P' pc' L S := by
  subst hp
  refine h.wr ha hP' fun T _ _ _ X hx hby hT => ?_
  obtain ⟨vs, ⟨cl, A, r⟩, q⟩ := hP _ hT
  exact stI X hx hZ rfl A (j := i) (AV.inb hx0 r q) (g := mkF m pc L (.int x :: .int i :: .ref a :: S)) rfl rfl (hb hby hd)
theorem Sit.lastore {x : Int64} {i : Int32} (h : Sit p l e R s m args below meth c bs st n0 cells slots P pc L (.long x :: .int i :: .ref a :: S)) (hZ : Z.Warmed39 s.vm) (ha : n0 ≤ a) (hx0 : 0 ≤ i.toInt) (hP : ∀ hh, P hh → ∃ vs, AV Z hh a .long vs ∧ i.toNatClampNeg < vs.length) (hP' : ∀ hh hh', P hh → Wr hh hh' a i.toNatClampNeg (.long x) → P' hh') (hd : decode bs pc = .ok (.lastore, 1)) (hp : pc + 1 = pc') : Sit p l e R s m args below meth c bs st n0 cells slots P' pc' L S := by
  subst hp
  refine h.wr ha hP' fun T _ _ _ X hx hby hT => ?_
  obtain ⟨vs, ⟨cl, A, r⟩, q⟩ := hP _ hT
  exact stJ X hx hZ rfl A (j := i) (AV.inb hx0 r q) (g := mkF m pc L (.long x :: .int i :: .ref a :: S)) rfl rfl (hb hby hd)
theorem Sit.bastore {x i : Int32} (h : Sit p l e R s m args below meth c bs st n0 cells slots P pc L (.int x :: .int i :: .ref a :: S)) (hZ : Z.Warmed39 s.vm) (ha : n0 ≤ a) (hx0 : 0 ≤ i.toInt) (hP : ∀ hh, P hh → ∃ vs, AV Z hh a .byte vs ∧ i.toNatClampNeg < vs.length) (hP' : ∀ hh hh', P hh → Wr hh hh' a i.toNatClampNeg (.int x.toInt8.toInt32) → P' hh') (hd : decode bs pc = .ok (.bastore, 1)) (hp : pc + 1 = pc') : Sit p l e R s m args below meth c bs st n0 cells slots P' pc' L S := by
  subst hp
  refine h.wr ha hP' fun T _ _ _ X hx hby hT => ?_
  obtain ⟨vs, ⟨cl, A, r⟩, q⟩ := hP _ hT
  exact stB X hx hZ rfl A (j := i) (AV.inb hx0 r q) (g := mkF m pc L (.int x :: .int i :: .ref a :: S)) rfl rfl (hb hby hd)
/-- a step that makes one cell -/
theorem Sit.mk1 {d : Nat} {F : Addr → Heap → Heap → Prop} {P' : Addr → Heap → Prop} {S' : Addr → List Value} (h : Sit p l e R s m args below meth c bs st n0 cells slots P pc L S) (hP' : ∀ hh hh' a, P hh → a = hh.size → Ext hh hh' → F a hh hh' → P' a hh')
    (f : ∀ T locs k n, Stand p l e R s m args below meth c T locs k n → k ≤ cells → n ≤ slots → p.tables.exec = Jvm.exec → c.code = bs → P T.heap → ∃ T' h', Stand p l e R s m args below meth c T' locs (k + 1) (n + d) ∧ T'.heap = h' ∧ Ext T.heap h' ∧ F T.heap.size T.heap h' ∧ ∀ t, Steps p.tables e below (T'.setTop (mkF m pc' L' (S' T.heap.size))) t → Steps p.tables e below (T.setTop (mkF m pc L S)) t) :
    ∃ a, n0 ≤ a ∧ Sit p l e R s m args below meth c bs st n0 (cells + 1) (slots + d) (P' a) pc' L' (S' a) := by
  obtain ⟨T, locs, k, n, X, q1, q2, q3, q4, q5, hx, hby, q⟩ := h
  obtain ⟨T', h', X', rfl, hE, hF, stp⟩ := f T locs k n X q1 q2 hx hby q5
  exact ⟨T.heap.size, Nat.le_trans q4 X.same.2.1, T', _, _, _, X', Nat.add_le_add_right q1 _, Nat.add_le_add_right q2 _, q3, q4, hP' _ _ _ q5 rfl hE hF, hx, hby, fun t z => q t (stp t z)⟩
theorem Sit.newarr {n : Int32} {aty : ArrayType} {P' : Addr → Heap → Prop} (cap : Nat) (h : Sit p l e R s m args below meth c bs st n0 cells slots P pc L (.int n :: S)) (hZ : Z.Warmed39 s.vm) (w : (Cond.arrayClass (newarray.typeOf aty)).before a0 Z = true) (hn : 0 ≤ n.toInt) (hcap : n.toNatClampNeg ≤ cap) (hB : cap * 8 ≤ 536870912) (hc : cells + 1 ≤ R.cells) (hl : slots + cap ≤ R.slots)
    (hP' : ∀ hh hh' a, P hh → a = hh.size → Ext hh hh' → AV Z hh' a (newarray.typeOf aty) (List.replicate n.toNatClampNeg (defaultValue (newarray.typeOf aty))) → P' a hh') (hd : decode bs pc = .ok (.newarray aty, 2)) (hp : pc + 2 = pc') : ∃ a, n0 ≤ a ∧ Sit p l e R s m args below meth c bs st n0 (cells + 1) (slots + cap) (P' a) pc' L (.ref a :: S) := by
  subst hp
  refine h.mk1 (F := fun a _ hh' => AV Z hh' a (newarray.typeOf aty) (List.replicate n.toNatClampNeg (defaultValue (newarray.typeOf aty)))) (S' := fun a => .ref a :: S) hP' fun T locs k i X q1 q2 hx hby hT => ?_
  obtain ⟨T', h', cA, X', e', E', A', st'⟩ := newP X hx hZ w rfl (g := mkF m pc L (.int n :: S)) rfl (hb hby hd) rfl (nlt0 hn) hcap hB (Nat.le_trans (Nat.add_le_add_right q1 1) hc) (Nat.le_trans (Nat.add_le_add_right q2 cap) hl)
  exact ⟨T', h', X', e', E', AV.new A', st'⟩
end OwnHeap


section OwnT
def LF (Z : State) (hh : Heap) (a : Addr) (F : Nat → Int64) : Prop := AV Z hh a .long ((List.range 64).map fun i => .long (F i))
theorem LF.congr {Z : State} {hh : Heap} {a : Addr} {F G : Nat → Int64} (A : LF Z hh a F) (h : ∀ i, i < 64 → F i = G i) : LF Z hh a G := by
  have e : (List.range 64).map (fun i => Value.long (F i)) = (List.range 64).map fun i => .long (G i) := List.map_congr_left fun i hi => by rw [h i (List.mem_range.mp hi)]
  unfold LF at A ⊢
  rw [← e]; exact A
theorem LF.get {F : Nat → Int64} {t : Nat} (h : t < 64) : ((List.range 64).map fun i => Value.long (F i))[t]? = some (.long (F t)) := by
  rw [List.getElem?_map, List.getElem?_range h]; rfl
def upd (F : Nat → Int64) (t : Nat) (v : Int64) : Nat → Int64 := fun i => if i = t then v else F i
theorem LF.set {Z : State} {hh hh' : Heap} {a : Addr} {F : Nat → Int64} {t : Nat} {v : Int64} (A : LF Z hh a F) (X : Wr hh hh' a t (.long v)) (ht : t < 64) : LF Z hh' a (upd F t v) := by
  have q := AV.set A X
  have e : ((List.range 64).map fun i => Value.long (F i)).set t (.long v) = (List.range 64).map fun i => .long (upd F t v i) := by
    apply List.ext_getElem?
    intro i
    by_cases hi : i < 64
    · rw [LF.get hi]
      by_cases e : t = i
      · subst e
        rw [List.getElem?_set_self (by simpa using hi), upd, if_pos rfl]
      · rw [List.getElem?_set_ne e, LF.get hi, upd, if_neg (fun x => e x.symm)]
    · rw [List.getElem?_eq_none (by simpa using hi), List.getElem?_eq_none (by simpa using hi)]
  unfold LF
  rw [← e]; exact q
def bit (x : Int64) (j : Nat) : Bool := x.toBitVec.getLsbD j
theorem bit_ext {x y : Int64} (h : ∀ j, j < 64 → bit x j = bit y j) : x = y := by
  apply Int64.toBitVec_inj.mp
  exact BitVec.eq_of_getLsbD_eq h
theorem bit_xor (x y : Int64) (j : Nat) : bit (x ^^^ y) j = (bit x j ^^ bit y j) := by
  show (x.toBitVec ^^^ y.toBitVec).getLsbD j = _
  rw [BitVec.getLsbD_xor]; rfl
theorem bit_and (x y : Int64) (j : Nat) : bit (x &&& y) j = (bit x j && bit y j) := by
  show (x.toBitVec &&& y.toBitVec).getLsbD j = _
  rw [BitVec.getLsbD_and]; rfl
theorem bit_or (x y : Int64) (j : Nat) : bit (x ||| y) j = (bit x j || bit y j) := by
  show (x.toBitVec ||| y.toBitVec).getLsbD j = _
  rw [BitVec.getLsbD_or]; rfl
theorem bit_ushr (x : Int64) (q : Int32) (n : Nat) (h : q.toBitVec.toNat % 64 = n) (j : Nat) : bit (ushr64 x q) j = bit x (n + j) := by
  unfold bit
  rw [ushr64_bv, h, BitVec.getLsbD_ushiftRight]
theorem bit_shl (x : Int64) (q : Int32) (n : Nat) (h : q.toBitVec.toNat % 64 = n) (j : Nat) (hj : j < 64) : bit (shl64 x q) j = (decide (n ≤ j) && bit x (j - n)) := by
  unfold bit
  rw [shl64_bv, h, BitVec.getLsbD_shiftLeft]
  by_cases q : j < n
  · have : ¬ n ≤ j := by omega
    simp [q, this]
  · have : n ≤ j := by omega
    simp [q, this, hj]
/-! one stage -/
def swp (x y low : Int64) (hv : Int32) : Int64 := (ushr64 x hv ^^^ y) &&& low
def topF (x y low : Int64) (hv : Int32) : Int64 := x ^^^ shl64 (swp x y low hv) hv
def botF (x y low : Int64) (hv : Int32) : Int64 := y ^^^ swp x y low hv
def stg (s : Nat) (low : Int64) (hv : Int32) (F : Nat → Int64) (i : Nat) : Int64 := if i.testBit s = true then botF (F (i - 2 ^ s)) (F i) low hv else topF (F i) (F (i + 2 ^ s)) low hv
def clr (s i : Nat) : Nat := if i.testBit s = true then i - 2 ^ s else i
def inr (s : Nat) (low : Int64) (hv : Int32) (F : Nat → Int64) (t i : Nat) : Int64 := if clr s i < t then stg s low hv F i else F i
theorem fin_bits : ∀ s : Fin 6, ∀ j : Fin 64, (j.val.testBit s.val = true → 2 ^ s.val ≤ j.val ∧ (j.val - 2 ^ s.val).testBit s.val = false) ∧ (j.val.testBit s.val = false → 2 ^ s.val ≤ j.val → (j.val - 2 ^ s.val).testBit s.val = true) ∧ (j.val.testBit s.val = false → j.val + 2 ^ s.val < 64 ∧ (j.val + 2 ^ s.val).testBit s.val = true) := by decide +kernel
theorem fin_next : ∀ s : Fin 6, ∀ t : Fin 64, t.val.testBit s.val = false → (Int32.ofNat t.val ||| Int32.ofNat (2 ^ s.val)) = Int32.ofNat (t.val + 2 ^ s.val) ∧ ((Int32.ofNat (t.val + 2 ^ s.val) + (1 : Int32)) &&& (Int32.ofNat (2 ^ s.val) ^^^ (-1 : Int32))) = Int32.ofNat (clr s.val (t.val + 2 ^ s.val + 1)) ∧ t.val < clr s.val (t.val + 2 ^ s.val + 1) ∧ clr s.val (t.val + 2 ^ s.val + 1) ≤ 64 ∧ (clr s.val (t.val + 2 ^ s.val + 1)).testBit s.val = false := by decide +kernel
theorem fin_step : ∀ s : Fin 6, ∀ t : Fin 64, t.val.testBit s.val = false → ∀ i : Fin 64, (clr s.val i.val < clr s.val (t.val + 2 ^ s.val + 1) ↔ (clr s.val i.val < t.val ∨ i.val = t.val ∨ i.val = t.val + 2 ^ s.val)) := by decide +kernel
theorem fin_clr : ∀ s : Fin 6, ∀ t : Fin 64, t.val.testBit s.val = false → clr s.val t.val = t.val ∧ clr s.val (t.val + 2 ^ s.val) = t.val := by decide +kernel
theorem fin_all : ∀ s : Fin 6, ∀ i : Fin 64, clr s.val i.val < 64 := by decide +kernel
theorem fin_hv : ∀ s : Fin 6, (Int32.ofNat (2 ^ s.val)).toBitVec.toNat % 64 = 2 ^ s.val := by decide +kernel
/-- the turn: what the two stores leave is the next state -/
theorem turn {s : Nat} (hs : s < 6) {t : Nat} (ht : t < 64) (hb : t.testBit s = false) (low : Int64) (hv : Int32) (F : Nat → Int64) :
    ∀ i, i < 64 → upd (upd (inr s low hv F t) t (topF (F t) (F (t + 2 ^ s)) low hv)) (t + 2 ^ s) (botF (F t) (F (t + 2 ^ s)) low hv) i = inr s low hv F (clr s (t + 2 ^ s + 1)) i := by
  intro i hi
  have h1 := fin_step ⟨s, hs⟩ ⟨t, ht⟩ hb ⟨i, hi⟩
  have h2 := (fin_bits ⟨s, hs⟩ ⟨t, ht⟩).2.2 hb
  simp only at h1 h2
  unfold upd
  by_cases e1 : i = t + 2 ^ s
  · rw [if_pos e1, inr, if_pos (h1.mpr (Or.inr (Or.inr e1))), stg, e1, if_pos h2.2, Nat.add_sub_cancel]
  · rw [if_neg e1]
    by_cases e2 : i = t
    · rw [if_pos e2, inr, if_pos (h1.mpr (Or.inr (Or.inl e2))), stg, e2, if_neg (by rw [hb]; decide)]
    · rw [if_neg e2, inr, inr]
      by_cases e3 : clr s i < t
      · rw [if_pos e3, if_pos (h1.mpr (Or.inl e3))]
      · rw [if_neg e3, if_neg fun x => (h1.mp x).elim e3 fun y => y.elim e2 e1]
theorem inr_self {s : Nat} (hs : s < 6) {t : Nat} (ht : t < 64) (hb : t.testBit s = false) (low : Int64) (hv : Int32) (F : Nat → Int64) : inr s low hv F t t = F t ∧ inr s low hv F t (t + 2 ^ s) = F (t + 2 ^ s) := by
  have h := fin_clr ⟨s, hs⟩ ⟨t, ht⟩ hb
  simp only at h
  constructor
  · rw [inr, h.1, if_neg (Nat.lt_irrefl t)]
  · rw [inr, h.2, if_neg (Nat.lt_irrefl t)]
theorem inr_zero {s : Nat} (low : Int64) (hv : Int32) (F : Nat → Int64) (i : Nat) : inr s low hv F 0 i = F i := by rw [inr, if_neg (Nat.not_lt_zero _)]
theorem inr_end {s : Nat} (hs : s < 6) (low : Int64) (hv : Int32) (F : Nat → Int64) (i : Nat) (hi : i < 64) : inr s low hv F 64 i = stg s low hv F i := by rw [inr, if_pos (fin_all ⟨s, hs⟩ ⟨i, hi⟩)]
/-- the stage on bits: the two bits of weight 2^s change places -/
def sw (s : Nat) (ij : Nat × Nat) : Nat × Nat := if ij.1.testBit s = ij.2.testBit s then ij else if ij.1.testBit s = true then (ij.1 - 2 ^ s, ij.2 + 2 ^ s) else (ij.1 + 2 ^ s, ij.2 - 2 ^ s)
theorem bit_swp {s : Nat} (hs : s < 6) {low : Int64} {hv : Int32} (e : hv = Int32.ofNat (2 ^ s)) (hl : ∀ j, j < 64 → bit low j = !(j.testBit s)) (x y : Int64) (j : Nat) (hj : j < 64) : bit (swp x y low hv) j = ((bit x (2 ^ s + j) ^^ bit y j) && !(j.testBit s)) := by
  rw [swp, bit_and, bit_xor, hl j hj, bit_ushr x hv (2 ^ s) (by rw [e]; exact fin_hv ⟨s, hs⟩)]
theorem bit_stg {s : Nat} (hs : s < 6) {low : Int64} {hv : Int32} (e : hv = Int32.ofNat (2 ^ s)) (hl : ∀ j, j < 64 → bit low j = !(j.testBit s)) (F : Nat → Int64) (i j : Nat) (hi : i < 64) (hj : j < 64) : bit (stg s low hv F i) j = bit (F (sw s (i, j)).1) (sw s (i, j)).2 := by
  obtain ⟨q1, q2, q3⟩ := fin_bits ⟨s, hs⟩ ⟨j, hj⟩
  simp only at q1 q2 q3
  have hpos : 0 < 2 ^ s := Nat.two_pow_pos s
  cases hbi : i.testBit s <;> cases hbj : j.testBit s
  · rw [stg, if_neg (by rw [hbi]; decide), topF, bit_xor, bit_shl _ hv (2 ^ s) (by rw [e]; exact fin_hv ⟨s, hs⟩) _ hj]
    have e1 : sw s (i, j) = (i, j) := by simp [sw, hbi, hbj]
    rw [e1]
    by_cases h : 2 ^ s ≤ j
    · rw [bit_swp hs e hl _ _ _ (by omega), q2 hbj h]; simp
    · simp [h]
  · rw [stg, if_neg (by rw [hbi]; decide), topF, bit_xor, bit_shl _ hv (2 ^ s) (by rw [e]; exact fin_hv ⟨s, hs⟩) _ hj]
    have e1 : sw s (i, j) = (i + 2 ^ s, j - 2 ^ s) := by simp [sw, hbi, hbj]
    have h := q1 hbj
    rw [e1, bit_swp hs e hl _ _ _ (by omega), h.2]
    have e2 : 2 ^ s + (j - 2 ^ s) = j := by omega
    rw [e2]
    simp [h.1]
  · rw [stg, if_pos hbi, botF, bit_xor, bit_swp hs e hl _ _ _ hj, hbj]
    have e1 : sw s (i, j) = (i - 2 ^ s, j + 2 ^ s) := by simp [sw, hbi, hbj]
    rw [e1, Nat.add_comm (2 ^ s) j]
    simp only
    cases bit (F i) j <;> cases bit (F (i - 2 ^ s)) (j + 2 ^ s) <;> rfl
  · rw [stg, if_pos hbi, botF, bit_xor, bit_swp hs e hl _ _ _ hj, hbj]
    have e1 : sw s (i, j) = (i, j) := by simp [sw, hbi, hbj]
    rw [e1]; simp
theorem fin_sw : ∀ s : Fin 6, ∀ i : Fin 64, ∀ j : Fin 64, (sw s.val (i.val, j.val)).1 < 64 ∧ (sw s.val (i.val, j.val)).2 < 64 := by decide +kernel
theorem fin_tr : ∀ i : Fin 64, ∀ j : Fin 64, sw 5 (sw 4 (sw 3 (sw 2 (sw 1 (sw 0 (i.val, j.val)))))) = (j.val, i.val) := by decide +kernel
def low0 : Int64 := 6148914691236517205
def low1 : Int64 := 3689348814741910323
def low2 : Int64 := 1085102592571150095
def low3 : Int64 := 71777214294589695
def low4 : Int64 := 281470681808895
def low5 : Int64 := 4294967295
theorem lo0 : ∀ j, j < 64 → bit low0 j = !(j.testBit 0) := fun j hj => (by decide +kernel : ∀ j : Fin 64, bit low0 j.val = !(j.val.testBit 0)) ⟨j, hj⟩
theorem lo1 : ∀ j, j < 64 → bit low1 j = !(j.testBit 1) := fun j hj => (by decide +kernel : ∀ j : Fin 64, bit low1 j.val = !(j.val.testBit 1)) ⟨j, hj⟩
theorem lo2 : ∀ j, j < 64 → bit low2 j = !(j.testBit 2) := fun j hj => (by decide +kernel : ∀ j : Fin 64, bit low2 j.val = !(j.val.testBit 2)) ⟨j, hj⟩
theorem lo3 : ∀ j, j < 64 → bit low3 j = !(j.testBit 3) := fun j hj => (by decide +kernel : ∀ j : Fin 64, bit low3 j.val = !(j.val.testBit 3)) ⟨j, hj⟩
theorem lo4 : ∀ j, j < 64 → bit low4 j = !(j.testBit 4) := fun j hj => (by decide +kernel : ∀ j : Fin 64, bit low4 j.val = !(j.val.testBit 4)) ⟨j, hj⟩
theorem lo5 : ∀ j, j < 64 → bit low5 j = !(j.testBit 5) := fun j hj => (by decide +kernel : ∀ j : Fin 64, bit low5 j.val = !(j.val.testBit 5)) ⟨j, hj⟩
def trn (F : Nat → Int64) : Nat → Int64 := stg 0 low0 1 (stg 1 low1 2 (stg 2 low2 4 (stg 3 low3 8 (stg 4 low4 16 (stg 5 low5 32 F)))))
theorem swl {s : Nat} (hs : s < 6) {ij : Nat × Nat} (h : ij.1 < 64 ∧ ij.2 < 64) : (sw s ij).1 < 64 ∧ (sw s ij).2 < 64 := fin_sw ⟨s, hs⟩ ⟨ij.1, h.1⟩ ⟨ij.2, h.2⟩
theorem bs {s : Nat} (hs : s < 6) {low : Int64} {hv : Int32} (e : hv = Int32.ofNat (2 ^ s)) (hl : ∀ j, j < 64 → bit low j = !(j.testBit s)) (F : Nat → Int64) (ij : Nat × Nat) (h : ij.1 < 64 ∧ ij.2 < 64) : bit (stg s low hv F ij.1) ij.2 = bit (F (sw s ij).1) (sw s ij).2 := bit_stg hs e hl F ij.1 ij.2 h.1 h.2
theorem trn_bit (F : Nat → Int64) (i j : Nat) (hi : i < 64) (hj : j < 64) : bit (trn F i) j = bit (F j) i := by
  have h0 : (i, j).1 < 64 ∧ (i, j).2 < 64 := ⟨hi, hj⟩
  have h1 := swl (s := 0) (by decide) h0
  have h2 := swl (s := 1) (by decide) h1
  have h3 := swl (s := 2) (by decide) h2
  have h4 := swl (s := 3) (by decide) h3
  have h5 := swl (s := 4) (by decide) h4
  have q := fin_tr ⟨i, hi⟩ ⟨j, hj⟩
  simp only at q
  show bit (trn F (i, j).1) (i, j).2 = _
  rw [trn, bs (by decide) (by decide) lo0 _ _ h0, bs (by decide) (by decide) lo1 _ _ h1, bs (by decide) (by decide) lo2 _ _ h2, bs (by decide) (by decide) lo3 _ _ h3, bs (by decide) (by decide) lo4 _ _ h4, bs (by decide) (by decide) lo5 _ _ h5, q]
/-! columns -/
def clF (x y z : Int64) (r1 r2 r3 c : Int32) : Int64 := (shl64 (ushr64 x c &&& (1 : Int64)) r1 ||| shl64 (ushr64 y c &&& (1 : Int64)) r2) ||| shl64 (ushr64 z c &&& (1 : Int64)) r3
theorem bit_one (j : Nat) : bit (1 : Int64) j = decide (j = 0) := by
  show (1#64).getLsbD j = _
  rw [BitVec.getLsbD_one]; simp
theorem bit_col (x : Int64) {r c : Int32} {rn cn : Nat} (hr : r.toBitVec.toNat % 64 = rn) (hc : c.toBitVec.toNat % 64 = cn) (j : Nat) (hj : j < 64) : bit (shl64 (ushr64 x c &&& (1 : Int64)) r) j = (decide (j = rn) && bit x cn) := by
  rw [bit_shl _ r rn hr j hj, bit_and, bit_ushr x c cn hc, bit_one]
  by_cases e : j = rn
  · subst e; simp
  · by_cases q : rn ≤ j
    · have : ¬ j - rn = 0 := by omega
      simp [e, this]
    · simp [e, q]
theorem col_eq {F G : Nat → Int64} (hG : ∀ i j, i < 64 → j < 64 → bit (G i) j = bit (F j) i) {r1 r2 r3 c : Int32} {n1 n2 n3 cn : Nat} (h1 : r1.toBitVec.toNat % 64 = n1) (h2 : r2.toBitVec.toNat % 64 = n2) (h3 : r3.toBitVec.toNat % 64 = n3) (hc : c.toBitVec.toNat % 64 = cn) (hz : ∀ j, j ≠ n1 → j ≠ n2 → j ≠ n3 → F j = 0) :
    G cn = clF (F n1) (F n2) (F n3) r1 r2 r3 c := by
  apply bit_ext
  intro j hj
  have l : cn < 64 := by omega
  rw [hG cn j l hj, clF, bit_or, bit_or, bit_col _ h1 hc j hj, bit_col _ h2 hc j hj, bit_col _ h3 hc j hj]
  have z0 : bit (0 : Int64) cn = false := by
    show (0#64).getLsbD cn = false
    rw [BitVec.getLsbD_zero]
  have hx : bit (F j) cn = true → (j = n1 ∨ j = n2 ∨ j = n3) := fun h => Classical.byContradiction fun q => by
    have z := hz j (fun e => q (Or.inl e)) (fun e => q (Or.inr (Or.inl e))) (fun e => q (Or.inr (Or.inr e)))
    rw [z, z0] at h
    exact absurd h (by decide)
  have kk : ∀ n : Nat, (decide (j = n) && bit (F n) cn) = (decide (j = n) && bit (F j) cn) := fun n => by
    by_cases e : j = n
    · rw [e]
    · simp [e]
  rw [kk n1, kk n2, kk n3]
  cases hX : bit (F j) cn with
  | false => simp
  | true => rcases hx hX with e | e | e <;> simp [e]
theorem m63 (x : Int32) : ∃ n : Nat, (x &&& (63 : Int32)).toInt = (n : Int) ∧ n < 64 ∧ (x &&& (63 : Int32)).toBitVec.toNat % 64 = n := by
  have h : (x &&& (63 : Int32)).toInt = x.toInt % 64 := c_mask x 63 6 (by decide) (by decide)
  have e : (x &&& (63 : Int32)).toInt = (x &&& (63 : Int32)).toBitVec.toInt := rfl
  refine ⟨(x &&& (63 : Int32)).toInt.toNat, by omega, by omega, ?_⟩
  rw [BitVec.toInt_eq_toNat_cond] at e
  split at e <;> omega
theorem ofNat_int {t : Nat} (h : t ≤ 64) : (Int32.ofNat t).toInt = (t : Int) := Int32.toInt_ofNat_of_lt (by omega)
end OwnT

theorem pd_0 : parseMethodDescriptor "(JJJIIII)J" = some ⟨[.long, .long, .long, .int, .int, .int, .int], some .long⟩ := by decide +kernel
theorem pd_1 : parseMethodDescriptor "([J)V" = some ⟨[(.array .long)], none⟩ := by decide +kernel
theorem pn_rmC : plainName "com/example/planesift/planesift/BitMatrixTransposePinLaw" = true := by first | (simp [plainName, overriddenIn]; done) | decide +kernel
theorem d1_0 : decode method_3_code 0 = .ok (.lload_n 0, 1) := by decide +kernel
theorem d1_1 : decode method_3_code 1 = .ok (.iload 9, 2) := by decide +kernel
theorem d1_3 : decode method_3_code 3 = .ok (.lushr, 1) := by decide +kernel
theorem d1_4 : decode method_3_code 4 = .ok (.lconst 1, 1) := by decide +kernel
theorem d1_5 : decode method_3_code 5 = .ok (.land, 1) := by decide +kernel
theorem d1_6 : decode method_3_code 6 = .ok (.iload 6, 2) := by decide +kernel
theorem d1_8 : decode method_3_code 8 = .ok (.lshl, 1) := by decide +kernel
theorem d1_9 : decode method_3_code 9 = .ok (.lload_n 2, 1) := by decide +kernel
theorem d1_10 : decode method_3_code 10 = .ok (.iload 9, 2) := by decide +kernel
theorem d1_12 : decode method_3_code 12 = .ok (.lushr, 1) := by decide +kernel
theorem d1_13 : decode method_3_code 13 = .ok (.lconst 1, 1) := by decide +kernel
theorem d1_14 : decode method_3_code 14 = .ok (.land, 1) := by decide +kernel
theorem d1_15 : decode method_3_code 15 = .ok (.iload 7, 2) := by decide +kernel
theorem d1_17 : decode method_3_code 17 = .ok (.lshl, 1) := by decide +kernel
theorem d1_18 : decode method_3_code 18 = .ok (.lor, 1) := by decide +kernel
theorem d1_19 : decode method_3_code 19 = .ok (.lload 4, 2) := by decide +kernel
theorem d1_21 : decode method_3_code 21 = .ok (.iload 9, 2) := by decide +kernel
theorem d1_23 : decode method_3_code 23 = .ok (.lushr, 1) := by decide +kernel
theorem d1_24 : decode method_3_code 24 = .ok (.lconst 1, 1) := by decide +kernel
theorem d1_25 : decode method_3_code 25 = .ok (.land, 1) := by decide +kernel
theorem d1_26 : decode method_3_code 26 = .ok (.iload 8, 2) := by decide +kernel
theorem d1_28 : decode method_3_code 28 = .ok (.lshl, 1) := by decide +kernel
theorem d1_29 : decode method_3_code 29 = .ok (.lor, 1) := by decide +kernel
theorem d1_30 : decode method_3_code 30 = .ok (.lreturn, 1) := by decide +kernel
theorem ef_rmC (m : MethodId) (x : Int64) (y : Int64) (z : Int64) (r1 : Int32) (r2 : Int32) (r3 : Int32) (c0 : Int32) : entryFrame m #[(.long x), (.long y), (.long z), (.int r1), (.int r2), (.int r3), (.int c0)] 10 = mkF m 0 #[.val (.long x), .second, .val (.long y), .second, .val (.long z), .second, .val (.int r1), .val (.int r2), .val (.int r3), .val (.int c0)] [] := by first | (simp [entryFrame, mkF, argsToLocals, Value.category]; done) | rfl
set_option maxRecDepth 65536 in
set_option maxHeartbeats 40000000 in
theorem rmC (l : Launch) (Z : State) (a0 : Array Value) (hw : ∀ d ∈ tables_1, d.before a0 Z = true) (wcs : List Jvm.Cond) (x : Int64) (y : Int64) (z : Int64) (r1 : Int32) (r2 : Int32) (r3 : Int32) (c0 : Int32)  (h0 : Heap) (n0 : Nat) (Z0 : n0 ≤ h0.size)  : Met1 l (⟨"com/example/planesift/planesift/BitMatrixTransposePinLaw", "column", "(JJJIIII)J"⟩ : MethodName) method_3_code 10 (some .long) wcs ({ frames := 0, cells := 0, slots := 0, locals := 0 } : Room) Z #[(.long x), (.long y), (.long z), (.int r1), (.int r2), (.int r3), (.int c0)] h0 n0 (fun v hh => v = some (.long (clF x y z r1 r2 r3 c0)) ∧ hh = h0) := by
  refine Met1.of (L0 := #[.val (.long x), .second, .val (.long y), .second, .val (.long z), .second, .val (.int r1), .val (.int r2), .val (.int r3), .val (.int c0)]) (plainFor_of_name pn_rmC) (fun m => ef_rmC m x y z r1 r2 r3 c0) Z0 ?_
  intro p e s m below meth c st s0 hZ hown hret hlk hnm hml
  have s1 : Sit p l e _ s m _ below meth c _ st n0 0 0 _ 30 #[.val (.long x), .second, .val (.long y), .second, .val (.long z), .second, .val (.int r1), .val (.int r2), .val (.int r3), .val (.int c0)] [(.long (((shl64 ((ushr64 x c0) &&& (1 : Int64)) r1) ||| (shl64 ((ushr64 y c0) &&& (1 : Int64)) r2)) ||| (shl64 ((ushr64 z c0) &&& (1 : Int64)) r3)))] := s0
    |>.lloadN d1_0 rfl rfl
    |>.iload d1_1 rfl rfl
    |>.lushr d1_3 rfl
    |>.lconst (1 : Int64) d1_4 rfl rfl
    |>.land d1_5 rfl
    |>.iload d1_6 rfl rfl
    |>.lshl d1_8 rfl
    |>.lloadN d1_9 rfl rfl
    |>.iload d1_10 rfl rfl
    |>.lushr d1_12 rfl
    |>.lconst (1 : Int64) d1_13 rfl rfl
    |>.land d1_14 rfl
    |>.iload d1_15 rfl rfl
    |>.lshl d1_17 rfl
    |>.lor d1_18 rfl
    |>.lload d1_19 rfl rfl
    |>.iload d1_21 rfl rfl
    |>.lushr d1_23 rfl
    |>.lconst (1 : Int64) d1_24 rfl rfl
    |>.land d1_25 rfl
    |>.iload d1_26 rfl rfl
    |>.lshl d1_28 rfl
    |>.lor d1_29 rfl
  exact s1.retJ d1_30 hret hlk (fun hh q => ⟨rfl, q⟩)
theorem pn_rmT : plainName "com/example/planesift/planesift/BitMatrix" = true := by first | (simp [plainName, overriddenIn]; done) | decide +kernel
theorem d2_0 : decode prog_1_method_2_code 0 = .ok (.ldc2_w 7, 3) := by decide +kernel
theorem d2_3 : decode prog_1_method_2_code 3 = .ok (.lstore_n 1, 1) := by decide +kernel
theorem d2_4 : decode prog_1_method_2_code 4 = .ok (.bipush 32, 2) := by decide +kernel
theorem d2_6 : decode prog_1_method_2_code 6 = .ok (.istore_n 3, 1) := by decide +kernel
theorem d2_7 : decode prog_1_method_2_code 7 = .ok (.iload_n 3, 1) := by decide +kernel
theorem d2_8 : decode prog_1_method_2_code 8 = .ok (.ifCond .le 84, 3) := by decide +kernel
theorem d2_11 : decode prog_1_method_2_code 11 = .ok (.iconst 0, 1) := by decide +kernel
theorem d2_12 : decode prog_1_method_2_code 12 = .ok (.istore 4, 2) := by decide +kernel
theorem d2_14 : decode prog_1_method_2_code 14 = .ok (.iload 4, 2) := by decide +kernel
theorem d2_16 : decode prog_1_method_2_code 16 = .ok (.bipush 64, 2) := by decide +kernel
theorem d2_18 : decode prog_1_method_2_code 18 = .ok (.if_icmp .ge 59, 3) := by decide +kernel
theorem d2_21 : decode prog_1_method_2_code 21 = .ok (.iload 4, 2) := by decide +kernel
theorem d2_23 : decode prog_1_method_2_code 23 = .ok (.iload_n 3, 1) := by decide +kernel
theorem d2_24 : decode prog_1_method_2_code 24 = .ok (.ior, 1) := by decide +kernel
theorem d2_25 : decode prog_1_method_2_code 25 = .ok (.istore 5, 2) := by decide +kernel
theorem d2_27 : decode prog_1_method_2_code 27 = .ok (.aload_n 0, 1) := by decide +kernel
theorem d2_28 : decode prog_1_method_2_code 28 = .ok (.iload 4, 2) := by decide +kernel
theorem d2_30 : decode prog_1_method_2_code 30 = .ok (.laload, 1) := by decide +kernel
theorem d2_31 : decode prog_1_method_2_code 31 = .ok (.iload_n 3, 1) := by decide +kernel
theorem d2_32 : decode prog_1_method_2_code 32 = .ok (.lushr, 1) := by decide +kernel
theorem d2_33 : decode prog_1_method_2_code 33 = .ok (.aload_n 0, 1) := by decide +kernel
theorem d2_34 : decode prog_1_method_2_code 34 = .ok (.iload 5, 2) := by decide +kernel
theorem d2_36 : decode prog_1_method_2_code 36 = .ok (.laload, 1) := by decide +kernel
theorem d2_37 : decode prog_1_method_2_code 37 = .ok (.lxor, 1) := by decide +kernel
theorem d2_38 : decode prog_1_method_2_code 38 = .ok (.lload_n 1, 1) := by decide +kernel
theorem d2_39 : decode prog_1_method_2_code 39 = .ok (.land, 1) := by decide +kernel
theorem d2_40 : decode prog_1_method_2_code 40 = .ok (.lstore 6, 2) := by decide +kernel
theorem d2_42 : decode prog_1_method_2_code 42 = .ok (.aload_n 0, 1) := by decide +kernel
theorem d2_43 : decode prog_1_method_2_code 43 = .ok (.iload 4, 2) := by decide +kernel
theorem d2_45 : decode prog_1_method_2_code 45 = .ok (.dup2, 1) := by decide +kernel
theorem d2_46 : decode prog_1_method_2_code 46 = .ok (.laload, 1) := by decide +kernel
theorem d2_47 : decode prog_1_method_2_code 47 = .ok (.lload 6, 2) := by decide +kernel
theorem d2_49 : decode prog_1_method_2_code 49 = .ok (.iload_n 3, 1) := by decide +kernel
theorem d2_50 : decode prog_1_method_2_code 50 = .ok (.lshl, 1) := by decide +kernel
theorem d2_51 : decode prog_1_method_2_code 51 = .ok (.lxor, 1) := by decide +kernel
theorem d2_52 : decode prog_1_method_2_code 52 = .ok (.lastore, 1) := by decide +kernel
theorem d2_53 : decode prog_1_method_2_code 53 = .ok (.aload_n 0, 1) := by decide +kernel
theorem d2_54 : decode prog_1_method_2_code 54 = .ok (.iload 5, 2) := by decide +kernel
theorem d2_56 : decode prog_1_method_2_code 56 = .ok (.dup2, 1) := by decide +kernel
theorem d2_57 : decode prog_1_method_2_code 57 = .ok (.laload, 1) := by decide +kernel
theorem d2_58 : decode prog_1_method_2_code 58 = .ok (.lload 6, 2) := by decide +kernel
theorem d2_60 : decode prog_1_method_2_code 60 = .ok (.lxor, 1) := by decide +kernel
theorem d2_61 : decode prog_1_method_2_code 61 = .ok (.lastore, 1) := by decide +kernel
theorem d2_62 : decode prog_1_method_2_code 62 = .ok (.iload 4, 2) := by decide +kernel
theorem d2_64 : decode prog_1_method_2_code 64 = .ok (.iload_n 3, 1) := by decide +kernel
theorem d2_65 : decode prog_1_method_2_code 65 = .ok (.ior, 1) := by decide +kernel
theorem d2_66 : decode prog_1_method_2_code 66 = .ok (.iconst 1, 1) := by decide +kernel
theorem d2_67 : decode prog_1_method_2_code 67 = .ok (.iadd, 1) := by decide +kernel
theorem d2_68 : decode prog_1_method_2_code 68 = .ok (.iload_n 3, 1) := by decide +kernel
theorem d2_69 : decode prog_1_method_2_code 69 = .ok (.iconst (-1), 1) := by decide +kernel
theorem d2_70 : decode prog_1_method_2_code 70 = .ok (.ixor, 1) := by decide +kernel
theorem d2_71 : decode prog_1_method_2_code 71 = .ok (.iand, 1) := by decide +kernel
theorem d2_72 : decode prog_1_method_2_code 72 = .ok (.istore 4, 2) := by decide +kernel
theorem d2_74 : decode prog_1_method_2_code 74 = .ok (.goto (-60), 3) := by decide +kernel
theorem d2_77 : decode prog_1_method_2_code 77 = .ok (.lload_n 1, 1) := by decide +kernel
theorem d2_78 : decode prog_1_method_2_code 78 = .ok (.lload_n 1, 1) := by decide +kernel
theorem d2_79 : decode prog_1_method_2_code 79 = .ok (.iload_n 3, 1) := by decide +kernel
theorem d2_80 : decode prog_1_method_2_code 80 = .ok (.iconst 1, 1) := by decide +kernel
theorem d2_81 : decode prog_1_method_2_code 81 = .ok (.ishr, 1) := by decide +kernel
theorem d2_82 : decode prog_1_method_2_code 82 = .ok (.lshl, 1) := by decide +kernel
theorem d2_83 : decode prog_1_method_2_code 83 = .ok (.lxor, 1) := by decide +kernel
theorem d2_84 : decode prog_1_method_2_code 84 = .ok (.lstore_n 1, 1) := by decide +kernel
theorem d2_85 : decode prog_1_method_2_code 85 = .ok (.iload_n 3, 1) := by decide +kernel
theorem d2_86 : decode prog_1_method_2_code 86 = .ok (.iconst 1, 1) := by decide +kernel
theorem d2_87 : decode prog_1_method_2_code 87 = .ok (.ishr, 1) := by decide +kernel
theorem d2_88 : decode prog_1_method_2_code 88 = .ok (.istore_n 3, 1) := by decide +kernel
theorem d2_89 : decode prog_1_method_2_code 89 = .ok (.goto (-82), 3) := by decide +kernel
theorem d2_92 : decode prog_1_method_2_code 92 = .ok (.return_, 1) := by decide +kernel
theorem ef_rmT (m : MethodId) (a : Addr) : entryFrame m #[(.ref a)] 8 = mkF m 0 #[.val (.ref a), .unset, .unset, .unset, .unset, .unset, .unset, .unset] [] := by first | (simp [entryFrame, mkF, argsToLocals, Value.category]; done) | rfl
set_option maxRecDepth 65536 in
set_option maxHeartbeats 40000000 in
theorem rmT (l : Launch) (Z : State) (a0 : Array Value) (hw : ∀ d ∈ tables_1, d.before a0 Z = true) (wcs : List Jvm.Cond) (a : Addr) (F : Nat → Int64) (h0 : Heap) (n0 : Nat) (Z0 : n0 ≤ h0.size) (ha : n0 ≤ a) (hA : LF Z h0 a F) : Met1 l (⟨"com/example/planesift/planesift/BitMatrix", "transpose", "([J)V"⟩ : MethodName) prog_1_method_2_code 8 none wcs ({ frames := 0, cells := 0, slots := 0, locals := 0 } : Room) Z #[(.ref a)] h0 n0 (fun v hh => v = none ∧ LF Z hh a (trn F)) := by
  refine Met1.of (L0 := #[.val (.ref a), .unset, .unset, .unset, .unset, .unset, .unset, .unset]) (plainFor_of_name pn_rmT) (fun m => ef_rmT m a) Z0 ?_
  intro p e s m below meth c st s0 hZ hown hret hlk hnm hml
  have loop : ∀ (sN : Nat) (hs : sN < 6) (low : Int64) (G : Nat → Int64) (n t : Nat) (bv5 : Int32) (sv6 : Int64), 64 - t ≤ n → t ≤ 64 → t.testBit sN = false → Sit p l e ({ frames := 0, cells := 0, slots := 0, locals := 0 } : Room) s m #[(.ref a)] below meth c prog_1_method_2_code st n0 0 0 (fun hh => LF Z hh a (inr sN low (Int32.ofNat (2 ^ sN)) G t)) 14 #[.val (.ref a), .val (.long low), .second, .val (.int (Int32.ofNat (2 ^ sN))), .val (.int (Int32.ofNat t)), .val (.int bv5), .val (.long sv6), .second] [] → ∃ (bv5 : Int32) (sv6 : Int64), Sit p l e ({ frames := 0, cells := 0, slots := 0, locals := 0 } : Room) s m #[(.ref a)] below meth c prog_1_method_2_code st n0 0 0 (fun hh => LF Z hh a (stg sN low (Int32.ofNat (2 ^ sN)) G)) 77 #[.val (.ref a), .val (.long low), .second, .val (.int (Int32.ofNat (2 ^ sN))), .val (.int (Int32.ofNat 64)), .val (.int bv5), .val (.long sv6), .second] [] := by
    intro sN hs low G n
    induction n with
    | zero =>
      intro t bv5 sv6 hn hl hbt q0
      obtain rfl : t = 64 := by omega
      have s1 : Sit p l e _ s m _ below meth c _ st n0 0 0 _ 18 #[.val (.ref a), .val (.long low), .second, .val (.int (Int32.ofNat (2 ^ sN))), .val (.int (Int32.ofNat 64)), .val (.int bv5), .val (.long sv6), .second] [(.int (64 : Int32)), (.int (Int32.ofNat 64))] := q0
        |>.iload d2_14 rfl rfl
        |>.bipush (64 : Int32) d2_16 rfl rfl
      have s2 : Sit p l e _ s m _ below meth c _ st n0 0 0 _ 77 #[.val (.ref a), .val (.long low), .second, .val (.int (Int32.ofNat (2 ^ sN))), .val (.int (Int32.ofNat 64)), .val (.int bv5), .val (.long sv6), .second] [] := s1
        |>.icmpY d2_18 (cmpT (cd := .ge) (show (Int32.ofNat 64).toInt ≥ (64 : Int) from by decide)) (by decide) (by decide)
      exact ⟨bv5, sv6, s2.mono fun hh q => LF.congr q fun i hi => inr_end hs low _ G i hi⟩
    | succ n ih =>
      intro t bv5 sv6 hn hl hbt q0
      by_cases ht : t < 64
      · have hse := inr_self hs ht hbt low (Int32.ofNat (2 ^ sN)) G
        obtain ⟨hor, hnx, hlt, hle, htb⟩ := fin_next ⟨sN, hs⟩ ⟨t, ht⟩ hbt
        have hb64 := ((fin_bits ⟨sN, hs⟩ ⟨t, ht⟩).2.2 hbt).1
        have htr := turn hs ht hbt low (Int32.ofNat (2 ^ sN)) G
        simp only at hor hnx hlt hle htb hb64
        obtain ⟨t', et'⟩ : ∃ t', t' = clr sN (t + 2 ^ sN + 1) := ⟨_, rfl⟩
        rw [← et'] at hnx hlt hle htb htr
        have hpos : 0 < 2 ^ sN := Nat.two_pow_pos _
        have s3 : Sit p l e _ s m _ below meth c _ st n0 0 0 _ 18 #[.val (.ref a), .val (.long low), .second, .val (.int (Int32.ofNat (2 ^ sN))), .val (.int (Int32.ofNat t)), .val (.int bv5), .val (.long sv6), .second] [(.int (64 : Int32)), (.int (Int32.ofNat t))] := q0
          |>.iload d2_14 rfl rfl
          |>.bipush (64 : Int32) d2_16 rfl rfl
        have s4 : Sit p l e _ s m _ below meth c _ st n0 0 0 _ 25 #[.val (.ref a), .val (.long low), .second, .val (.int (Int32.ofNat (2 ^ sN))), .val (.int (Int32.ofNat t)), .val (.int bv5), .val (.long sv6), .second] [(.int ((Int32.ofNat t) ||| (Int32.ofNat (2 ^ sN))))] := s3
          |>.icmpN d2_18 (cmpF (cd := .ge) (show ¬ ((Int32.ofNat t).toInt ≥ (64 : Int)) from by rw [ofNat_int (by omega)]; omega)) rfl
          |>.iload d2_21 rfl rfl
          |>.iloadN d2_23 rfl rfl
          |>.ior d2_24 rfl
        have s5 : Sit p l e ({ frames := 0, cells := 0, slots := 0, locals := 0 } : Room) s m #[(.ref a)] below meth c prog_1_method_2_code st n0 0 0 (fun hh => LF Z hh a (inr sN low (Int32.ofNat (2 ^ sN)) G t)) 25 #[.val (.ref a), .val (.long low), .second, .val (.int (Int32.ofNat (2 ^ sN))), .val (.int (Int32.ofNat t)), .val (.int bv5), .val (.long sv6), .second] [(.int (Int32.ofNat (t + 2 ^ sN)))] := by
          have q := s4
          rw [hor] at q
          exact q
        have s6 : Sit p l e _ s m _ below meth c _ st n0 0 0 _ 30 #[.val (.ref a), .val (.long low), .second, .val (.int (Int32.ofNat (2 ^ sN))), .val (.int (Int32.ofNat t)), .val (.int (Int32.ofNat (t + 2 ^ sN))), .val (.long sv6), .second] [(.int (Int32.ofNat t)), (.ref a)] := s5
          |>.istore #[.val (.ref a), .val (.long low), .second, .val (.int (Int32.ofNat (2 ^ sN))), .val (.int (Int32.ofNat t)), .val (.int (Int32.ofNat (t + 2 ^ sN))), .val (.long sv6), .second] d2_25 rfl rfl
          |>.aloadN d2_27 rfl rfl
          |>.iload d2_28 rfl rfl
        have s7 : Sit p l e _ s m _ below meth c _ st n0 0 0 _ 36 #[.val (.ref a), .val (.long low), .second, .val (.int (Int32.ofNat (2 ^ sN))), .val (.int (Int32.ofNat t)), .val (.int (Int32.ofNat (t + 2 ^ sN))), .val (.long sv6), .second] [(.int (Int32.ofNat (t + 2 ^ sN))), (.ref a), (.long (ushr64 (G t) (Int32.ofNat (2 ^ sN))))] := s6
          |>.laload (v := (G t)) hZ (by rw [ofNat_int (by omega)]; omega) (fun hh q => ⟨_, q, by rw [clamp_of (ofNat_int (by omega)), LF.get ht, hse.1]⟩) d2_30 rfl
          |>.iloadN d2_31 rfl rfl
          |>.lushr d2_32 rfl
          |>.aloadN d2_33 rfl rfl
          |>.iload d2_34 rfl rfl
        have s8 : Sit p l e _ s m _ below meth c _ st n0 0 0 _ 40 #[.val (.ref a), .val (.long low), .second, .val (.int (Int32.ofNat (2 ^ sN))), .val (.int (Int32.ofNat t)), .val (.int (Int32.ofNat (t + 2 ^ sN))), .val (.long sv6), .second] [(.long (((ushr64 (G t) (Int32.ofNat (2 ^ sN))) ^^^ (G (t + 2 ^ sN))) &&& low))] := s7
          |>.laload (v := (G (t + 2 ^ sN))) hZ (by rw [ofNat_int (by omega)]; omega) (fun hh q => ⟨_, q, by rw [clamp_of (ofNat_int (by omega)), LF.get hb64, hse.2]⟩) d2_36 rfl
          |>.lxor d2_37 rfl
          |>.lloadN d2_38 rfl rfl
          |>.land d2_39 rfl
        have s9 : Sit p l e _ s m _ below meth c _ st n0 0 0 _ 40 #[.val (.ref a), .val (.long low), .second, .val (.int (Int32.ofNat (2 ^ sN))), .val (.int (Int32.ofNat t)), .val (.int (Int32.ofNat (t + 2 ^ sN))), .val (.long sv6), .second] [(.long (swp (G t) (G (t + 2 ^ sN)) low (Int32.ofNat (2 ^ sN))))] := s8
        have s10 : Sit p l e _ s m _ below meth c _ st n0 0 0 _ 46 #[.val (.ref a), .val (.long low), .second, .val (.int (Int32.ofNat (2 ^ sN))), .val (.int (Int32.ofNat t)), .val (.int (Int32.ofNat (t + 2 ^ sN))), .val (.long (swp (G t) (G (t + 2 ^ sN)) low (Int32.ofNat (2 ^ sN)))), .second] [(.int (Int32.ofNat t)), (.ref a), (.int (Int32.ofNat t)), (.ref a)] := s9
          |>.lstore #[.val (.ref a), .val (.long low), .second, .val (.int (Int32.ofNat (2 ^ sN))), .val (.int (Int32.ofNat t)), .val (.int (Int32.ofNat (t + 2 ^ sN))), .val (.long (swp (G t) (G (t + 2 ^ sN)) low (Int32.ofNat (2 ^ sN)))), .second] d2_40 rfl rfl
          |>.aloadN d2_42 rfl rfl
          |>.iload d2_43 rfl rfl
          |>.dup2 d2_45 rfl rfl rfl
        have s11 : Sit p l e _ s m _ below meth c _ st n0 0 0 _ 52 #[.val (.ref a), .val (.long low), .second, .val (.int (Int32.ofNat (2 ^ sN))), .val (.int (Int32.ofNat t)), .val (.int (Int32.ofNat (t + 2 ^ sN))), .val (.long (swp (G t) (G (t + 2 ^ sN)) low (Int32.ofNat (2 ^ sN)))), .second] [(.long ((G t) ^^^ (shl64 (swp (G t) (G (t + 2 ^ sN)) low (Int32.ofNat (2 ^ sN))) (Int32.ofNat (2 ^ sN))))), (.int (Int32.ofNat t)), (.ref a)] := s10
          |>.laload (v := (G t)) hZ (by rw [ofNat_int (by omega)]; omega) (fun hh q => ⟨_, q, by rw [clamp_of (ofNat_int (by omega)), LF.get ht, hse.1]⟩) d2_46 rfl
          |>.lload d2_47 rfl rfl
          |>.iloadN d2_49 rfl rfl
          |>.lshl d2_50 rfl
          |>.lxor d2_51 rfl
        have s12 : Sit p l e _ s m _ below meth c _ st n0 0 0 _ 53 #[.val (.ref a), .val (.long low), .second, .val (.int (Int32.ofNat (2 ^ sN))), .val (.int (Int32.ofNat t)), .val (.int (Int32.ofNat (t + 2 ^ sN))), .val (.long (swp (G t) (G (t + 2 ^ sN)) low (Int32.ofNat (2 ^ sN)))), .second] [] := s11
          |>.lastore (P' := fun hh => LF Z hh a (upd (inr sN low (Int32.ofNat (2 ^ sN)) G t) t (topF (G t) (G (t + 2 ^ sN)) low (Int32.ofNat (2 ^ sN))))) hZ (ha) (by rw [ofNat_int (by omega)]; omega) (fun hh q => ⟨_, q, by rw [clamp_of (ofNat_int (by omega))]; simpa using ht⟩) (fun hh hh' q X => LF.set q (by rw [clamp_of (ofNat_int (by omega))] at X; exact X) ht) d2_52 rfl
        have s13 : Sit p l e _ s m _ below meth c _ st n0 0 0 _ 57 #[.val (.ref a), .val (.long low), .second, .val (.int (Int32.ofNat (2 ^ sN))), .val (.int (Int32.ofNat t)), .val (.int (Int32.ofNat (t + 2 ^ sN))), .val (.long (swp (G t) (G (t + 2 ^ sN)) low (Int32.ofNat (2 ^ sN)))), .second] [(.int (Int32.ofNat (t + 2 ^ sN))), (.ref a), (.int (Int32.ofNat (t + 2 ^ sN))), (.ref a)] := s12
          |>.aloadN d2_53 rfl rfl
          |>.iload d2_54 rfl rfl
          |>.dup2 d2_56 rfl rfl rfl
        have s14 : Sit p l e _ s m _ below meth c _ st n0 0 0 _ 61 #[.val (.ref a), .val (.long low), .second, .val (.int (Int32.ofNat (2 ^ sN))), .val (.int (Int32.ofNat t)), .val (.int (Int32.ofNat (t + 2 ^ sN))), .val (.long (swp (G t) (G (t + 2 ^ sN)) low (Int32.ofNat (2 ^ sN)))), .second] [(.long ((G (t + 2 ^ sN)) ^^^ (swp (G t) (G (t + 2 ^ sN)) low (Int32.ofNat (2 ^ sN))))), (.int (Int32.ofNat (t + 2 ^ sN))), (.ref a)] := s13
          |>.laload (v := (G (t + 2 ^ sN))) hZ (by rw [ofNat_int (by omega)]; omega) (fun hh q => ⟨_, q, by rw [clamp_of (ofNat_int (by omega)), LF.get hb64, upd, if_neg (by omega), hse.2]⟩) d2_57 rfl
          |>.lload d2_58 rfl rfl
          |>.lxor d2_60 rfl
        have s15 : Sit p l e _ s m _ below meth c _ st n0 0 0 _ 62 #[.val (.ref a), .val (.long low), .second, .val (.int (Int32.ofNat (2 ^ sN))), .val (.int (Int32.ofNat t)), .val (.int (Int32.ofNat (t + 2 ^ sN))), .val (.long (swp (G t) (G (t + 2 ^ sN)) low (Int32.ofNat (2 ^ sN)))), .second] [] := s14
          |>.lastore (P' := fun hh => LF Z hh a (inr sN low (Int32.ofNat (2 ^ sN)) G t')) hZ (ha) (by rw [ofNat_int (by omega)]; omega) (fun hh q => ⟨_, q, by rw [clamp_of (ofNat_int (by omega))]; simpa using hb64⟩) (fun hh hh' q X => (LF.set (v := (botF (G t) (G (t + 2 ^ sN)) low (Int32.ofNat (2 ^ sN)))) q (by rw [clamp_of (ofNat_int (by omega))] at X; exact X) hb64).congr htr) d2_61 rfl
        have s16 : Sit p l e _ s m _ below meth c _ st n0 0 0 _ 65 #[.val (.ref a), .val (.long low), .second, .val (.int (Int32.ofNat (2 ^ sN))), .val (.int (Int32.ofNat t)), .val (.int (Int32.ofNat (t + 2 ^ sN))), .val (.long (swp (G t) (G (t + 2 ^ sN)) low (Int32.ofNat (2 ^ sN)))), .second] [(.int (Int32.ofNat (2 ^ sN))), (.int (Int32.ofNat t))] := s15
          |>.iload d2_62 rfl rfl
          |>.iloadN d2_64 rfl rfl
        have s17 : Sit p l e _ s m _ below meth c _ st n0 0 0 _ 66 #[.val (.ref a), .val (.long low), .second, .val (.int (Int32.ofNat (2 ^ sN))), .val (.int (Int32.ofNat t)), .val (.int (Int32.ofNat (t + 2 ^ sN))), .val (.long (swp (G t) (G (t + 2 ^ sN)) low (Int32.ofNat (2 ^ sN)))), .second] [(.int ((Int32.ofNat t) ||| (Int32.ofNat (2 ^ sN))))] := s16
          |>.ior d2_65 rfl
        have s18 : Sit p l e ({ frames := 0, cells := 0, slots := 0, locals := 0 } : Room) s m #[(.ref a)] below meth c prog_1_method_2_code st n0 0 0 (fun hh => LF Z hh a (inr sN low (Int32.ofNat (2 ^ sN)) G t')) 66 #[.val (.ref a), .val (.long low), .second, .val (.int (Int32.ofNat (2 ^ sN))), .val (.int (Int32.ofNat t)), .val (.int (Int32.ofNat (t + 2 ^ sN))), .val (.long (swp (G t) (G (t + 2 ^ sN)) low (Int32.ofNat (2 ^ sN)))), .second] [(.int (Int32.ofNat (t + 2 ^ sN)))] := by
          have q := s17
          rw [hor] at q
          exact q
        have s19 : Sit p l e _ s m _ below meth c _ st n0 0 0 _ 72 #[.val (.ref a), .val (.long low), .second, .val (.int (Int32.ofNat (2 ^ sN))), .val (.int (Int32.ofNat t)), .val (.int (Int32.ofNat (t + 2 ^ sN))), .val (.long (swp (G t) (G (t + 2 ^ sN)) low (Int32.ofNat (2 ^ sN)))), .second] [(.int (((Int32.ofNat (t + 2 ^ sN)) + (1 : Int32)) &&& ((Int32.ofNat (2 ^ sN)) ^^^ (-1 : Int32))))] := s18
          |>.iconst (1 : Int32) d2_66 rfl rfl
          |>.iadd d2_67 rfl
          |>.iloadN d2_68 rfl rfl
          |>.iconst (-1 : Int32) d2_69 rfl rfl
          |>.ixor d2_70 rfl
          |>.iand d2_71 rfl
        have s20 : Sit p l e ({ frames := 0, cells := 0, slots := 0, locals := 0 } : Room) s m #[(.ref a)] below meth c prog_1_method_2_code st n0 0 0 (fun hh => LF Z hh a (inr sN low (Int32.ofNat (2 ^ sN)) G t')) 72 #[.val (.ref a), .val (.long low), .second, .val (.int (Int32.ofNat (2 ^ sN))), .val (.int (Int32.ofNat t)), .val (.int (Int32.ofNat (t + 2 ^ sN))), .val (.long (swp (G t) (G (t + 2 ^ sN)) low (Int32.ofNat (2 ^ sN)))), .second] [(.int (Int32.ofNat t'))] := by
          have q := s19
          rw [hnx] at q
          exact q
        have s21 : Sit p l e _ s m _ below meth c _ st n0 0 0 _ 14 #[.val (.ref a), .val (.long low), .second, .val (.int (Int32.ofNat (2 ^ sN))), .val (.int (Int32.ofNat t')), .val (.int (Int32.ofNat (t + 2 ^ sN))), .val (.long (swp (G t) (G (t + 2 ^ sN)) low (Int32.ofNat (2 ^ sN)))), .second] [] := s20
          |>.istore #[.val (.ref a), .val (.long low), .second, .val (.int (Int32.ofNat (2 ^ sN))), .val (.int (Int32.ofNat t')), .val (.int (Int32.ofNat (t + 2 ^ sN))), .val (.long (swp (G t) (G (t + 2 ^ sN)) low (Int32.ofNat (2 ^ sN)))), .second] d2_72 rfl rfl
          |>.goto d2_74 (by decide) (by decide)
        exact ih t' _ _ (by omega) hle htb s21
      · obtain rfl : t = 64 := by omega
        have s22 : Sit p l e _ s m _ below meth c _ st n0 0 0 _ 18 #[.val (.ref a), .val (.long low), .second, .val (.int (Int32.ofNat (2 ^ sN))), .val (.int (Int32.ofNat 64)), .val (.int bv5), .val (.long sv6), .second] [(.int (64 : Int32)), (.int (Int32.ofNat 64))] := q0
          |>.iload d2_14 rfl rfl
          |>.bipush (64 : Int32) d2_16 rfl rfl
        have s23 : Sit p l e _ s m _ below meth c _ st n0 0 0 _ 77 #[.val (.ref a), .val (.long low), .second, .val (.int (Int32.ofNat (2 ^ sN))), .val (.int (Int32.ofNat 64)), .val (.int bv5), .val (.long sv6), .second] [] := s22
          |>.icmpY d2_18 (cmpT (cd := .ge) (show (Int32.ofNat 64).toInt ≥ (64 : Int) from by decide)) (by decide) (by decide)
        exact ⟨bv5, sv6, s23.mono fun hh q => LF.congr q fun i hi => inr_end hs low _ G i hi⟩
  have s24 : Sit p l e _ s m _ below meth c _ st n0 0 0 (fun hh => LF Z hh a F) 0 #[.val (.ref a), .unset, .unset, .unset, .unset, .unset, .unset, .unset] [] := s0.mono fun hh q => q ▸ hA
  have s25 : Sit p l e _ s m _ below meth c _ st n0 0 0 _ 7 #[.val (.ref a), .val (.long (4294967295 : Int64)), .second, .val (.int (32 : Int32)), .unset, .unset, .unset, .unset] [] := s24
    |>.ldc2 hZ hown (wi hw 9 rfl) d2_0 rfl
    |>.lstoreN #[.val (.ref a), .val (.long (4294967295 : Int64)), .second, .unset, .unset, .unset, .unset, .unset] d2_3 rfl rfl
    |>.bipush (32 : Int32) d2_4 rfl rfl
    |>.istoreN #[.val (.ref a), .val (.long (4294967295 : Int64)), .second, .val (.int (32 : Int32)), .unset, .unset, .unset, .unset] d2_6 rfl rfl
  have s26 : Sit p l e _ s m _ below meth c _ st n0 0 0 _ 8 #[.val (.ref a), .val (.long (4294967295 : Int64)), .second, .val (.int (32 : Int32)), .unset, .unset, .unset, .unset] [(.int (32 : Int32))] := s25
    |>.iloadN d2_7 rfl rfl
  have s27 : Sit p l e _ s m _ below meth c _ st n0 0 0 _ 14 #[.val (.ref a), .val (.long (4294967295 : Int64)), .second, .val (.int (32 : Int32)), .val (.int (0 : Int32)), .unset, .unset, .unset] [] := s26
    |>.ifN d2_8 (cmpF0 (cd := .le) (show ¬ ((32 : Int) ≤ 0) from by decide)) rfl
    |>.iconst (0 : Int32) d2_11 rfl rfl
    |>.istore #[.val (.ref a), .val (.long (4294967295 : Int64)), .second, .val (.int (32 : Int32)), .val (.int (0 : Int32)), .unset, .unset, .unset] d2_12 rfl rfl
  have s28 : Sit p l e _ s m _ below meth c _ st n0 0 0 (fun hh => LF Z hh a (inr 5 low5 (Int32.ofNat (2 ^ 5)) F 0)) 14 #[.val (.ref a), .val (.long low5), .second, .val (.int (Int32.ofNat (2 ^ 5))), .val (.int (Int32.ofNat 0)), .unset, .unset, .unset] [] := s27.mono fun hh q => LF.congr q fun i _ => (inr_zero _ _ _ i).symm
  obtain ⟨t, et⟩ : ∃ t : Nat, t = 0 := ⟨_, rfl⟩
  have hs : 5 < 6 := by decide
  have ht : t < 64 := by omega
  have hbt : t.testBit 5 = false := by rw [et]; decide
  have s29 : Sit p l e ({ frames := 0, cells := 0, slots := 0, locals := 0 } : Room) s m #[(.ref a)] below meth c prog_1_method_2_code st n0 0 0 (fun hh => LF Z hh a (inr 5 low5 (Int32.ofNat (2 ^ 5)) F t)) 14 #[.val (.ref a), .val (.long low5), .second, .val (.int (Int32.ofNat (2 ^ 5))), .val (.int (Int32.ofNat t)), .unset, .unset, .unset] [] := by rw [et]; exact s28
  have hse := inr_self hs ht hbt low5 (Int32.ofNat (2 ^ 5)) F
  obtain ⟨hor, hnx, hlt, hle, htb⟩ := fin_next ⟨5, hs⟩ ⟨t, ht⟩ hbt
  have hb64 := ((fin_bits ⟨5, hs⟩ ⟨t, ht⟩).2.2 hbt).1
  have htr := turn hs ht hbt low5 (Int32.ofNat (2 ^ 5)) F
  simp only at hor hnx hlt hle htb hb64
  obtain ⟨t', et'⟩ : ∃ t', t' = clr 5 (t + 2 ^ 5 + 1) := ⟨_, rfl⟩
  rw [← et'] at hnx hlt hle htb htr
  have hpos : 0 < 2 ^ 5 := Nat.two_pow_pos _
  have s30 : Sit p l e _ s m _ below meth c _ st n0 0 0 _ 18 #[.val (.ref a), .val (.long low5), .second, .val (.int (Int32.ofNat (2 ^ 5))), .val (.int (Int32.ofNat t)), .unset, .unset, .unset] [(.int (64 : Int32)), (.int (Int32.ofNat t))] := s29
    |>.iload d2_14 rfl rfl
    |>.bipush (64 : Int32) d2_16 rfl rfl
  have s31 : Sit p l e _ s m _ below meth c _ st n0 0 0 _ 25 #[.val (.ref a), .val (.long low5), .second, .val (.int (Int32.ofNat (2 ^ 5))), .val (.int (Int32.ofNat t)), .unset, .unset, .unset] [(.int ((Int32.ofNat t) ||| (Int32.ofNat (2 ^ 5))))] := s30
    |>.icmpN d2_18 (cmpF (cd := .ge) (show ¬ ((Int32.ofNat t).toInt ≥ (64 : Int)) from by rw [ofNat_int (by omega)]; omega)) rfl
    |>.iload d2_21 rfl rfl
    |>.iloadN d2_23 rfl rfl
    |>.ior d2_24 rfl
  have s32 : Sit p l e ({ frames := 0, cells := 0, slots := 0, locals := 0 } : Room) s m #[(.ref a)] below meth c prog_1_method_2_code st n0 0 0 (fun hh => LF Z hh a (inr 5 low5 (Int32.ofNat (2 ^ 5)) F t)) 25 #[.val (.ref a), .val (.long low5), .second, .val (.int (Int32.ofNat (2 ^ 5))), .val (.int (Int32.ofNat t)), .unset, .unset, .unset] [(.int (Int32.ofNat (t + 2 ^ 5)))] := by
    have q := s31
    rw [hor] at q
    exact q
  have s33 : Sit p l e _ s m _ below meth c _ st n0 0 0 _ 30 #[.val (.ref a), .val (.long low5), .second, .val (.int (Int32.ofNat (2 ^ 5))), .val (.int (Int32.ofNat t)), .val (.int (Int32.ofNat (t + 2 ^ 5))), .unset, .unset] [(.int (Int32.ofNat t)), (.ref a)] := s32
    |>.istore #[.val (.ref a), .val (.long low5), .second, .val (.int (Int32.ofNat (2 ^ 5))), .val (.int (Int32.ofNat t)), .val (.int (Int32.ofNat (t + 2 ^ 5))), .unset, .unset] d2_25 rfl rfl
    |>.aloadN d2_27 rfl rfl
    |>.iload d2_28 rfl rfl
  have s34 : Sit p l e _ s m _ below meth c _ st n0 0 0 _ 36 #[.val (.ref a), .val (.long low5), .second, .val (.int (Int32.ofNat (2 ^ 5))), .val (.int (Int32.ofNat t)), .val (.int (Int32.ofNat (t + 2 ^ 5))), .unset, .unset] [(.int (Int32.ofNat (t + 2 ^ 5))), (.ref a), (.long (ushr64 (F t) (Int32.ofNat (2 ^ 5))))] := s33
    |>.laload (v := (F t)) hZ (by rw [ofNat_int (by omega)]; omega) (fun hh q => ⟨_, q, by rw [clamp_of (ofNat_int (by omega)), LF.get ht, hse.1]⟩) d2_30 rfl
    |>.iloadN d2_31 rfl rfl
    |>.lushr d2_32 rfl
    |>.aloadN d2_33 rfl rfl
    |>.iload d2_34 rfl rfl
  have s35 : Sit p l e _ s m _ below meth c _ st n0 0 0 _ 40 #[.val (.ref a), .val (.long low5), .second, .val (.int (Int32.ofNat (2 ^ 5))), .val (.int (Int32.ofNat t)), .val (.int (Int32.ofNat (t + 2 ^ 5))), .unset, .unset] [(.long (((ushr64 (F t) (Int32.ofNat (2 ^ 5))) ^^^ (F (t + 2 ^ 5))) &&& low5))] := s34
    |>.laload (v := (F (t + 2 ^ 5))) hZ (by rw [ofNat_int (by omega)]; omega) (fun hh q => ⟨_, q, by rw [clamp_of (ofNat_int (by omega)), LF.get hb64, hse.2]⟩) d2_36 rfl
    |>.lxor d2_37 rfl
    |>.lloadN d2_38 rfl rfl
    |>.land d2_39 rfl
  have s36 : Sit p l e _ s m _ below meth c _ st n0 0 0 _ 40 #[.val (.ref a), .val (.long low5), .second, .val (.int (Int32.ofNat (2 ^ 5))), .val (.int (Int32.ofNat t)), .val (.int (Int32.ofNat (t + 2 ^ 5))), .unset, .unset] [(.long (swp (F t) (F (t + 2 ^ 5)) low5 (Int32.ofNat (2 ^ 5))))] := s35
  have s37 : Sit p l e _ s m _ below meth c _ st n0 0 0 _ 46 #[.val (.ref a), .val (.long low5), .second, .val (.int (Int32.ofNat (2 ^ 5))), .val (.int (Int32.ofNat t)), .val (.int (Int32.ofNat (t + 2 ^ 5))), .val (.long (swp (F t) (F (t + 2 ^ 5)) low5 (Int32.ofNat (2 ^ 5)))), .second] [(.int (Int32.ofNat t)), (.ref a), (.int (Int32.ofNat t)), (.ref a)] := s36
    |>.lstore #[.val (.ref a), .val (.long low5), .second, .val (.int (Int32.ofNat (2 ^ 5))), .val (.int (Int32.ofNat t)), .val (.int (Int32.ofNat (t + 2 ^ 5))), .val (.long (swp (F t) (F (t + 2 ^ 5)) low5 (Int32.ofNat (2 ^ 5)))), .second] d2_40 rfl rfl
    |>.aloadN d2_42 rfl rfl
    |>.iload d2_43 rfl rfl
    |>.dup2 d2_45 rfl rfl rfl
  have s38 : Sit p l e _ s m _ below meth c _ st n0 0 0 _ 52 #[.val (.ref a), .val (.long low5), .second, .val (.int (Int32.ofNat (2 ^ 5))), .val (.int (Int32.ofNat t)), .val (.int (Int32.ofNat (t + 2 ^ 5))), .val (.long (swp (F t) (F (t + 2 ^ 5)) low5 (Int32.ofNat (2 ^ 5)))), .second] [(.long ((F t) ^^^ (shl64 (swp (F t) (F (t + 2 ^ 5)) low5 (Int32.ofNat (2 ^ 5))) (Int32.ofNat (2 ^ 5))))), (.int (Int32.ofNat t)), (.ref a)] := s37
    |>.laload (v := (F t)) hZ (by rw [ofNat_int (by omega)]; omega) (fun hh q => ⟨_, q, by rw [clamp_of (ofNat_int (by omega)), LF.get ht, hse.1]⟩) d2_46 rfl
    |>.lload d2_47 rfl rfl
    |>.iloadN d2_49 rfl rfl
    |>.lshl d2_50 rfl
    |>.lxor d2_51 rfl
  have s39 : Sit p l e _ s m _ below meth c _ st n0 0 0 _ 53 #[.val (.ref a), .val (.long low5), .second, .val (.int (Int32.ofNat (2 ^ 5))), .val (.int (Int32.ofNat t)), .val (.int (Int32.ofNat (t + 2 ^ 5))), .val (.long (swp (F t) (F (t + 2 ^ 5)) low5 (Int32.ofNat (2 ^ 5)))), .second] [] := s38
    |>.lastore (P' := fun hh => LF Z hh a (upd (inr 5 low5 (Int32.ofNat (2 ^ 5)) F t) t (topF (F t) (F (t + 2 ^ 5)) low5 (Int32.ofNat (2 ^ 5))))) hZ (ha) (by rw [ofNat_int (by omega)]; omega) (fun hh q => ⟨_, q, by rw [clamp_of (ofNat_int (by omega))]; simpa using ht⟩) (fun hh hh' q X => LF.set q (by rw [clamp_of (ofNat_int (by omega))] at X; exact X) ht) d2_52 rfl
  have s40 : Sit p l e _ s m _ below meth c _ st n0 0 0 _ 57 #[.val (.ref a), .val (.long low5), .second, .val (.int (Int32.ofNat (2 ^ 5))), .val (.int (Int32.ofNat t)), .val (.int (Int32.ofNat (t + 2 ^ 5))), .val (.long (swp (F t) (F (t + 2 ^ 5)) low5 (Int32.ofNat (2 ^ 5)))), .second] [(.int (Int32.ofNat (t + 2 ^ 5))), (.ref a), (.int (Int32.ofNat (t + 2 ^ 5))), (.ref a)] := s39
    |>.aloadN d2_53 rfl rfl
    |>.iload d2_54 rfl rfl
    |>.dup2 d2_56 rfl rfl rfl
  have s41 : Sit p l e _ s m _ below meth c _ st n0 0 0 _ 61 #[.val (.ref a), .val (.long low5), .second, .val (.int (Int32.ofNat (2 ^ 5))), .val (.int (Int32.ofNat t)), .val (.int (Int32.ofNat (t + 2 ^ 5))), .val (.long (swp (F t) (F (t + 2 ^ 5)) low5 (Int32.ofNat (2 ^ 5)))), .second] [(.long ((F (t + 2 ^ 5)) ^^^ (swp (F t) (F (t + 2 ^ 5)) low5 (Int32.ofNat (2 ^ 5))))), (.int (Int32.ofNat (t + 2 ^ 5))), (.ref a)] := s40
    |>.laload (v := (F (t + 2 ^ 5))) hZ (by rw [ofNat_int (by omega)]; omega) (fun hh q => ⟨_, q, by rw [clamp_of (ofNat_int (by omega)), LF.get hb64, upd, if_neg (by omega), hse.2]⟩) d2_57 rfl
    |>.lload d2_58 rfl rfl
    |>.lxor d2_60 rfl
  have s42 : Sit p l e _ s m _ below meth c _ st n0 0 0 _ 62 #[.val (.ref a), .val (.long low5), .second, .val (.int (Int32.ofNat (2 ^ 5))), .val (.int (Int32.ofNat t)), .val (.int (Int32.ofNat (t + 2 ^ 5))), .val (.long (swp (F t) (F (t + 2 ^ 5)) low5 (Int32.ofNat (2 ^ 5)))), .second] [] := s41
    |>.lastore (P' := fun hh => LF Z hh a (inr 5 low5 (Int32.ofNat (2 ^ 5)) F t')) hZ (ha) (by rw [ofNat_int (by omega)]; omega) (fun hh q => ⟨_, q, by rw [clamp_of (ofNat_int (by omega))]; simpa using hb64⟩) (fun hh hh' q X => (LF.set (v := (botF (F t) (F (t + 2 ^ 5)) low5 (Int32.ofNat (2 ^ 5)))) q (by rw [clamp_of (ofNat_int (by omega))] at X; exact X) hb64).congr htr) d2_61 rfl
  have s43 : Sit p l e _ s m _ below meth c _ st n0 0 0 _ 65 #[.val (.ref a), .val (.long low5), .second, .val (.int (Int32.ofNat (2 ^ 5))), .val (.int (Int32.ofNat t)), .val (.int (Int32.ofNat (t + 2 ^ 5))), .val (.long (swp (F t) (F (t + 2 ^ 5)) low5 (Int32.ofNat (2 ^ 5)))), .second] [(.int (Int32.ofNat (2 ^ 5))), (.int (Int32.ofNat t))] := s42
    |>.iload d2_62 rfl rfl
    |>.iloadN d2_64 rfl rfl
  have s44 : Sit p l e _ s m _ below meth c _ st n0 0 0 _ 66 #[.val (.ref a), .val (.long low5), .second, .val (.int (Int32.ofNat (2 ^ 5))), .val (.int (Int32.ofNat t)), .val (.int (Int32.ofNat (t + 2 ^ 5))), .val (.long (swp (F t) (F (t + 2 ^ 5)) low5 (Int32.ofNat (2 ^ 5)))), .second] [(.int ((Int32.ofNat t) ||| (Int32.ofNat (2 ^ 5))))] := s43
    |>.ior d2_65 rfl
  have s45 : Sit p l e ({ frames := 0, cells := 0, slots := 0, locals := 0 } : Room) s m #[(.ref a)] below meth c prog_1_method_2_code st n0 0 0 (fun hh => LF Z hh a (inr 5 low5 (Int32.ofNat (2 ^ 5)) F t')) 66 #[.val (.ref a), .val (.long low5), .second, .val (.int (Int32.ofNat (2 ^ 5))), .val (.int (Int32.ofNat t)), .val (.int (Int32.ofNat (t + 2 ^ 5))), .val (.long (swp (F t) (F (t + 2 ^ 5)) low5 (Int32.ofNat (2 ^ 5)))), .second] [(.int (Int32.ofNat (t + 2 ^ 5)))] := by
    have q := s44
    rw [hor] at q
    exact q
  have s46 : Sit p l e _ s m _ below meth c _ st n0 0 0 _ 72 #[.val (.ref a), .val (.long low5), .second, .val (.int (Int32.ofNat (2 ^ 5))), .val (.int (Int32.ofNat t)), .val (.int (Int32.ofNat (t + 2 ^ 5))), .val (.long (swp (F t) (F (t + 2 ^ 5)) low5 (Int32.ofNat (2 ^ 5)))), .second] [(.int (((Int32.ofNat (t + 2 ^ 5)) + (1 : Int32)) &&& ((Int32.ofNat (2 ^ 5)) ^^^ (-1 : Int32))))] := s45
    |>.iconst (1 : Int32) d2_66 rfl rfl
    |>.iadd d2_67 rfl
    |>.iloadN d2_68 rfl rfl
    |>.iconst (-1 : Int32) d2_69 rfl rfl
    |>.ixor d2_70 rfl
    |>.iand d2_71 rfl
  have s47 : Sit p l e ({ frames := 0, cells := 0, slots := 0, locals := 0 } : Room) s m #[(.ref a)] below meth c prog_1_method_2_code st n0 0 0 (fun hh => LF Z hh a (inr 5 low5 (Int32.ofNat (2 ^ 5)) F t')) 72 #[.val (.ref a), .val (.long low5), .second, .val (.int (Int32.ofNat (2 ^ 5))), .val (.int (Int32.ofNat t)), .val (.int (Int32.ofNat (t + 2 ^ 5))), .val (.long (swp (F t) (F (t + 2 ^ 5)) low5 (Int32.ofNat (2 ^ 5)))), .second] [(.int (Int32.ofNat t'))] := by
    have q := s46
    rw [hnx] at q
    exact q
  have s48 : Sit p l e _ s m _ below meth c _ st n0 0 0 _ 14 #[.val (.ref a), .val (.long low5), .second, .val (.int (Int32.ofNat (2 ^ 5))), .val (.int (Int32.ofNat t')), .val (.int (Int32.ofNat (t + 2 ^ 5))), .val (.long (swp (F t) (F (t + 2 ^ 5)) low5 (Int32.ofNat (2 ^ 5)))), .second] [] := s47
    |>.istore #[.val (.ref a), .val (.long low5), .second, .val (.int (Int32.ofNat (2 ^ 5))), .val (.int (Int32.ofNat t')), .val (.int (Int32.ofNat (t + 2 ^ 5))), .val (.long (swp (F t) (F (t + 2 ^ 5)) low5 (Int32.ofNat (2 ^ 5)))), .second] d2_72 rfl rfl
    |>.goto d2_74 (by decide) (by decide)
  obtain ⟨b5_5, s6_5, s49⟩ := loop 5 (by decide) low5 F 64 t' _ _ (by omega) (by omega) (htb) s48
  have s50 : Sit p l e _ s m _ below meth c _ st n0 0 0 _ 7 #[.val (.ref a), .val (.long (low5 ^^^ (shl64 low5 ((Int32.ofNat (2 ^ 5)) >>> ((1 : Int32) &&& 31))))), .second, .val (.int ((Int32.ofNat (2 ^ 5)) >>> ((1 : Int32) &&& 31))), .val (.int (Int32.ofNat 64)), .val (.int b5_5), .val (.long s6_5), .second] [] := s49
    |>.lloadN d2_77 rfl rfl
    |>.lloadN d2_78 rfl rfl
    |>.iloadN d2_79 rfl rfl
    |>.iconst (1 : Int32) d2_80 rfl rfl
    |>.ishr d2_81 rfl
    |>.lshl d2_82 rfl
    |>.lxor d2_83 rfl
    |>.lstoreN #[.val (.ref a), .val (.long (low5 ^^^ (shl64 low5 ((Int32.ofNat (2 ^ 5)) >>> ((1 : Int32) &&& 31))))), .second, .val (.int (Int32.ofNat (2 ^ 5))), .val (.int (Int32.ofNat 64)), .val (.int b5_5), .val (.long s6_5), .second] d2_84 rfl rfl
    |>.iloadN d2_85 rfl rfl
    |>.iconst (1 : Int32) d2_86 rfl rfl
    |>.ishr d2_87 rfl
    |>.istoreN #[.val (.ref a), .val (.long (low5 ^^^ (shl64 low5 ((Int32.ofNat (2 ^ 5)) >>> ((1 : Int32) &&& 31))))), .second, .val (.int ((Int32.ofNat (2 ^ 5)) >>> ((1 : Int32) &&& 31))), .val (.int (Int32.ofNat 64)), .val (.int b5_5), .val (.long s6_5), .second] d2_88 rfl rfl
    |>.goto d2_89 (by decide) (by decide)
  have el : (low5 ^^^ (shl64 low5 ((Int32.ofNat (2 ^ 5)) >>> ((1 : Int32) &&& 31)))) = low4 := by decide
  have eh : ((Int32.ofNat (2 ^ 5)) >>> ((1 : Int32) &&& 31)) = (16 : Int32) := by decide
  have s51 : Sit p l e ({ frames := 0, cells := 0, slots := 0, locals := 0 } : Room) s m #[(.ref a)] below meth c prog_1_method_2_code st n0 0 0 (fun hh => LF Z hh a (stg 5 low5 (Int32.ofNat (2 ^ 5)) F)) 7 #[.val (.ref a), .val (.long low4), .second, .val (.int (16 : Int32)), .val (.int (Int32.ofNat 64)), .val (.int b5_5), .val (.long s6_5), .second] [] := by rw [← el, ← eh]; exact s50
  have s52 : Sit p l e _ s m _ below meth c _ st n0 0 0 _ 8 #[.val (.ref a), .val (.long low4), .second, .val (.int (16 : Int32)), .val (.int (Int32.ofNat 64)), .val (.int b5_5), .val (.long s6_5), .second] [(.int (16 : Int32))] := s51
    |>.iloadN d2_7 rfl rfl
  have s53 : Sit p l e _ s m _ below meth c _ st n0 0 0 _ 14 #[.val (.ref a), .val (.long low4), .second, .val (.int (16 : Int32)), .val (.int (0 : Int32)), .val (.int b5_5), .val (.long s6_5), .second] [] := s52
    |>.ifN d2_8 (cmpF0 (cd := .le) (show ¬ ((16 : Int) ≤ 0) from by decide)) rfl
    |>.iconst (0 : Int32) d2_11 rfl rfl
    |>.istore #[.val (.ref a), .val (.long low4), .second, .val (.int (16 : Int32)), .val (.int (0 : Int32)), .val (.int b5_5), .val (.long s6_5), .second] d2_12 rfl rfl
  have s54 : Sit p l e _ s m _ below meth c _ st n0 0 0 (fun hh => LF Z hh a (inr 4 low4 (Int32.ofNat (2 ^ 4)) (stg 5 low5 (Int32.ofNat (2 ^ 5)) F) 0)) 14 #[.val (.ref a), .val (.long low4), .second, .val (.int (Int32.ofNat (2 ^ 4))), .val (.int (Int32.ofNat 0)), .val (.int b5_5), .val (.long s6_5), .second] [] := s53.mono fun hh q => LF.congr q fun i _ => (inr_zero _ _ _ i).symm
  obtain ⟨b5_4, s6_4, s55⟩ := loop 4 (by decide) low4 ((stg 5 low5 (Int32.ofNat (2 ^ 5)) F)) 64 0 _ _ (by omega) (by omega) (by decide) s54
  have s56 : Sit p l e _ s m _ below meth c _ st n0 0 0 _ 7 #[.val (.ref a), .val (.long (low4 ^^^ (shl64 low4 ((Int32.ofNat (2 ^ 4)) >>> ((1 : Int32) &&& 31))))), .second, .val (.int ((Int32.ofNat (2 ^ 4)) >>> ((1 : Int32) &&& 31))), .val (.int (Int32.ofNat 64)), .val (.int b5_4), .val (.long s6_4), .second] [] := s55
    |>.lloadN d2_77 rfl rfl
    |>.lloadN d2_78 rfl rfl
    |>.iloadN d2_79 rfl rfl
    |>.iconst (1 : Int32) d2_80 rfl rfl
    |>.ishr d2_81 rfl
    |>.lshl d2_82 rfl
    |>.lxor d2_83 rfl
    |>.lstoreN #[.val (.ref a), .val (.long (low4 ^^^ (shl64 low4 ((Int32.ofNat (2 ^ 4)) >>> ((1 : Int32) &&& 31))))), .second, .val (.int (Int32.ofNat (2 ^ 4))), .val (.int (Int32.ofNat 64)), .val (.int b5_4), .val (.long s6_4), .second] d2_84 rfl rfl
    |>.iloadN d2_85 rfl rfl
    |>.iconst (1 : Int32) d2_86 rfl rfl
    |>.ishr d2_87 rfl
    |>.istoreN #[.val (.ref a), .val (.long (low4 ^^^ (shl64 low4 ((Int32.ofNat (2 ^ 4)) >>> ((1 : Int32) &&& 31))))), .second, .val (.int ((Int32.ofNat (2 ^ 4)) >>> ((1 : Int32) &&& 31))), .val (.int (Int32.ofNat 64)), .val (.int b5_4), .val (.long s6_4), .second] d2_88 rfl rfl
    |>.goto d2_89 (by decide) (by decide)
  have el : (low4 ^^^ (shl64 low4 ((Int32.ofNat (2 ^ 4)) >>> ((1 : Int32) &&& 31)))) = low3 := by decide
  have eh : ((Int32.ofNat (2 ^ 4)) >>> ((1 : Int32) &&& 31)) = (8 : Int32) := by decide
  have s57 : Sit p l e ({ frames := 0, cells := 0, slots := 0, locals := 0 } : Room) s m #[(.ref a)] below meth c prog_1_method_2_code st n0 0 0 (fun hh => LF Z hh a (stg 4 low4 (Int32.ofNat (2 ^ 4)) (stg 5 low5 (Int32.ofNat (2 ^ 5)) F))) 7 #[.val (.ref a), .val (.long low3), .second, .val (.int (8 : Int32)), .val (.int (Int32.ofNat 64)), .val (.int b5_4), .val (.long s6_4), .second] [] := by rw [← el, ← eh]; exact s56
  have s58 : Sit p l e _ s m _ below meth c _ st n0 0 0 _ 8 #[.val (.ref a), .val (.long low3), .second, .val (.int (8 : Int32)), .val (.int (Int32.ofNat 64)), .val (.int b5_4), .val (.long s6_4), .second] [(.int (8 : Int32))] := s57
    |>.iloadN d2_7 rfl rfl
  have s59 : Sit p l e _ s m _ below meth c _ st n0 0 0 _ 14 #[.val (.ref a), .val (.long low3), .second, .val (.int (8 : Int32)), .val (.int (0 : Int32)), .val (.int b5_4), .val (.long s6_4), .second] [] := s58
    |>.ifN d2_8 (cmpF0 (cd := .le) (show ¬ ((8 : Int) ≤ 0) from by decide)) rfl
    |>.iconst (0 : Int32) d2_11 rfl rfl
    |>.istore #[.val (.ref a), .val (.long low3), .second, .val (.int (8 : Int32)), .val (.int (0 : Int32)), .val (.int b5_4), .val (.long s6_4), .second] d2_12 rfl rfl
  have s60 : Sit p l e _ s m _ below meth c _ st n0 0 0 (fun hh => LF Z hh a (inr 3 low3 (Int32.ofNat (2 ^ 3)) (stg 4 low4 (Int32.ofNat (2 ^ 4)) (stg 5 low5 (Int32.ofNat (2 ^ 5)) F)) 0)) 14 #[.val (.ref a), .val (.long low3), .second, .val (.int (Int32.ofNat (2 ^ 3))), .val (.int (Int32.ofNat 0)), .val (.int b5_4), .val (.long s6_4), .second] [] := s59.mono fun hh q => LF.congr q fun i _ => (inr_zero _ _ _ i).symm
  obtain ⟨b5_3, s6_3, s61⟩ := loop 3 (by decide) low3 ((stg 4 low4 (Int32.ofNat (2 ^ 4)) (stg 5 low5 (Int32.ofNat (2 ^ 5)) F))) 64 0 _ _ (by omega) (by omega) (by decide) s60
  have s62 : Sit p l e _ s m _ below meth c _ st n0 0 0 _ 7 #[.val (.ref a), .val (.long (low3 ^^^ (shl64 low3 ((Int32.ofNat (2 ^ 3)) >>> ((1 : Int32) &&& 31))))), .second, .val (.int ((Int32.ofNat (2 ^ 3)) >>> ((1 : Int32) &&& 31))), .val (.int (Int32.ofNat 64)), .val (.int b5_3), .val (.long s6_3), .second] [] := s61
    |>.lloadN d2_77 rfl rfl
    |>.lloadN d2_78 rfl rfl
    |>.iloadN d2_79 rfl rfl
    |>.iconst (1 : Int32) d2_80 rfl rfl
    |>.ishr d2_81 rfl
    |>.lshl d2_82 rfl
    |>.lxor d2_83 rfl
    |>.lstoreN #[.val (.ref a), .val (.long (low3 ^^^ (shl64 low3 ((Int32.ofNat (2 ^ 3)) >>> ((1 : Int32) &&& 31))))), .second, .val (.int (Int32.ofNat (2 ^ 3))), .val (.int (Int32.ofNat 64)), .val (.int b5_3), .val (.long s6_3), .second] d2_84 rfl rfl
    |>.iloadN d2_85 rfl rfl
    |>.iconst (1 : Int32) d2_86 rfl rfl
    |>.ishr d2_87 rfl
    |>.istoreN #[.val (.ref a), .val (.long (low3 ^^^ (shl64 low3 ((Int32.ofNat (2 ^ 3)) >>> ((1 : Int32) &&& 31))))), .second, .val (.int ((Int32.ofNat (2 ^ 3)) >>> ((1 : Int32) &&& 31))), .val (.int (Int32.ofNat 64)), .val (.int b5_3), .val (.long s6_3), .second] d2_88 rfl rfl
    |>.goto d2_89 (by decide) (by decide)
  have el : (low3 ^^^ (shl64 low3 ((Int32.ofNat (2 ^ 3)) >>> ((1 : Int32) &&& 31)))) = low2 := by decide
  have eh : ((Int32.ofNat (2 ^ 3)) >>> ((1 : Int32) &&& 31)) = (4 : Int32) := by decide
  have s63 : Sit p l e ({ frames := 0, cells := 0, slots := 0, locals := 0 } : Room) s m #[(.ref a)] below meth c prog_1_method_2_code st n0 0 0 (fun hh => LF Z hh a (stg 3 low3 (Int32.ofNat (2 ^ 3)) (stg 4 low4 (Int32.ofNat (2 ^ 4)) (stg 5 low5 (Int32.ofNat (2 ^ 5)) F)))) 7 #[.val (.ref a), .val (.long low2), .second, .val (.int (4 : Int32)), .val (.int (Int32.ofNat 64)), .val (.int b5_3), .val (.long s6_3), .second] [] := by rw [← el, ← eh]; exact s62
  have s64 : Sit p l e _ s m _ below meth c _ st n0 0 0 _ 8 #[.val (.ref a), .val (.long low2), .second, .val (.int (4 : Int32)), .val (.int (Int32.ofNat 64)), .val (.int b5_3), .val (.long s6_3), .second] [(.int (4 : Int32))] := s63
    |>.iloadN d2_7 rfl rfl
  have s65 : Sit p l e _ s m _ below meth c _ st n0 0 0 _ 14 #[.val (.ref a), .val (.long low2), .second, .val (.int (4 : Int32)), .val (.int (0 : Int32)), .val (.int b5_3), .val (.long s6_3), .second] [] := s64
    |>.ifN d2_8 (cmpF0 (cd := .le) (show ¬ ((4 : Int) ≤ 0) from by decide)) rfl
    |>.iconst (0 : Int32) d2_11 rfl rfl
    |>.istore #[.val (.ref a), .val (.long low2), .second, .val (.int (4 : Int32)), .val (.int (0 : Int32)), .val (.int b5_3), .val (.long s6_3), .second] d2_12 rfl rfl
  have s66 : Sit p l e _ s m _ below meth c _ st n0 0 0 (fun hh => LF Z hh a (inr 2 low2 (Int32.ofNat (2 ^ 2)) (stg 3 low3 (Int32.ofNat (2 ^ 3)) (stg 4 low4 (Int32.ofNat (2 ^ 4)) (stg 5 low5 (Int32.ofNat (2 ^ 5)) F))) 0)) 14 #[.val (.ref a), .val (.long low2), .second, .val (.int (Int32.ofNat (2 ^ 2))), .val (.int (Int32.ofNat 0)), .val (.int b5_3), .val (.long s6_3), .second] [] := s65.mono fun hh q => LF.congr q fun i _ => (inr_zero _ _ _ i).symm
  obtain ⟨b5_2, s6_2, s67⟩ := loop 2 (by decide) low2 ((stg 3 low3 (Int32.ofNat (2 ^ 3)) (stg 4 low4 (Int32.ofNat (2 ^ 4)) (stg 5 low5 (Int32.ofNat (2 ^ 5)) F)))) 64 0 _ _ (by omega) (by omega) (by decide) s66
  have s68 : Sit p l e _ s m _ below meth c _ st n0 0 0 _ 7 #[.val (.ref a), .val (.long (low2 ^^^ (shl64 low2 ((Int32.ofNat (2 ^ 2)) >>> ((1 : Int32) &&& 31))))), .second, .val (.int ((Int32.ofNat (2 ^ 2)) >>> ((1 : Int32) &&& 31))), .val (.int (Int32.ofNat 64)), .val (.int b5_2), .val (.long s6_2), .second] [] := s67
    |>.lloadN d2_77 rfl rfl
    |>.lloadN d2_78 rfl rfl
    |>.iloadN d2_79 rfl rfl
    |>.iconst (1 : Int32) d2_80 rfl rfl
    |>.ishr d2_81 rfl
    |>.lshl d2_82 rfl
    |>.lxor d2_83 rfl
    |>.lstoreN #[.val (.ref a), .val (.long (low2 ^^^ (shl64 low2 ((Int32.ofNat (2 ^ 2)) >>> ((1 : Int32) &&& 31))))), .second, .val (.int (Int32.ofNat (2 ^ 2))), .val (.int (Int32.ofNat 64)), .val (.int b5_2), .val (.long s6_2), .second] d2_84 rfl rfl
    |>.iloadN d2_85 rfl rfl
    |>.iconst (1 : Int32) d2_86 rfl rfl
    |>.ishr d2_87 rfl
    |>.istoreN #[.val (.ref a), .val (.long (low2 ^^^ (shl64 low2 ((Int32.ofNat (2 ^ 2)) >>> ((1 : Int32) &&& 31))))), .second, .val (.int ((Int32.ofNat (2 ^ 2)) >>> ((1 : Int32) &&& 31))), .val (.int (Int32.ofNat 64)), .val (.int b5_2), .val (.long s6_2), .second] d2_88 rfl rfl
    |>.goto d2_89 (by decide) (by decide)
  have el : (low2 ^^^ (shl64 low2 ((Int32.ofNat (2 ^ 2)) >>> ((1 : Int32) &&& 31)))) = low1 := by decide
  have eh : ((Int32.ofNat (2 ^ 2)) >>> ((1 : Int32) &&& 31)) = (2 : Int32) := by decide
  have s69 : Sit p l e ({ frames := 0, cells := 0, slots := 0, locals := 0 } : Room) s m #[(.ref a)] below meth c prog_1_method_2_code st n0 0 0 (fun hh => LF Z hh a (stg 2 low2 (Int32.ofNat (2 ^ 2)) (stg 3 low3 (Int32.ofNat (2 ^ 3)) (stg 4 low4 (Int32.ofNat (2 ^ 4)) (stg 5 low5 (Int32.ofNat (2 ^ 5)) F))))) 7 #[.val (.ref a), .val (.long low1), .second, .val (.int (2 : Int32)), .val (.int (Int32.ofNat 64)), .val (.int b5_2), .val (.long s6_2), .second] [] := by rw [← el, ← eh]; exact s68
  have s70 : Sit p l e _ s m _ below meth c _ st n0 0 0 _ 8 #[.val (.ref a), .val (.long low1), .second, .val (.int (2 : Int32)), .val (.int (Int32.ofNat 64)), .val (.int b5_2), .val (.long s6_2), .second] [(.int (2 : Int32))] := s69
    |>.iloadN d2_7 rfl rfl
  have s71 : Sit p l e _ s m _ below meth c _ st n0 0 0 _ 14 #[.val (.ref a), .val (.long low1), .second, .val (.int (2 : Int32)), .val (.int (0 : Int32)), .val (.int b5_2), .val (.long s6_2), .second] [] := s70
    |>.ifN d2_8 (cmpF0 (cd := .le) (show ¬ ((2 : Int) ≤ 0) from by decide)) rfl
    |>.iconst (0 : Int32) d2_11 rfl rfl
    |>.istore #[.val (.ref a), .val (.long low1), .second, .val (.int (2 : Int32)), .val (.int (0 : Int32)), .val (.int b5_2), .val (.long s6_2), .second] d2_12 rfl rfl
  have s72 : Sit p l e _ s m _ below meth c _ st n0 0 0 (fun hh => LF Z hh a (inr 1 low1 (Int32.ofNat (2 ^ 1)) (stg 2 low2 (Int32.ofNat (2 ^ 2)) (stg 3 low3 (Int32.ofNat (2 ^ 3)) (stg 4 low4 (Int32.ofNat (2 ^ 4)) (stg 5 low5 (Int32.ofNat (2 ^ 5)) F)))) 0)) 14 #[.val (.ref a), .val (.long low1), .second, .val (.int (Int32.ofNat (2 ^ 1))), .val (.int (Int32.ofNat 0)), .val (.int b5_2), .val (.long s6_2), .second] [] := s71.mono fun hh q => LF.congr q fun i _ => (inr_zero _ _ _ i).symm
  obtain ⟨b5_1, s6_1, s73⟩ := loop 1 (by decide) low1 ((stg 2 low2 (Int32.ofNat (2 ^ 2)) (stg 3 low3 (Int32.ofNat (2 ^ 3)) (stg 4 low4 (Int32.ofNat (2 ^ 4)) (stg 5 low5 (Int32.ofNat (2 ^ 5)) F))))) 64 0 _ _ (by omega) (by omega) (by decide) s72
  have s74 : Sit p l e _ s m _ below meth c _ st n0 0 0 _ 7 #[.val (.ref a), .val (.long (low1 ^^^ (shl64 low1 ((Int32.ofNat (2 ^ 1)) >>> ((1 : Int32) &&& 31))))), .second, .val (.int ((Int32.ofNat (2 ^ 1)) >>> ((1 : Int32) &&& 31))), .val (.int (Int32.ofNat 64)), .val (.int b5_1), .val (.long s6_1), .second] [] := s73
    |>.lloadN d2_77 rfl rfl
    |>.lloadN d2_78 rfl rfl
    |>.iloadN d2_79 rfl rfl
    |>.iconst (1 : Int32) d2_80 rfl rfl
    |>.ishr d2_81 rfl
    |>.lshl d2_82 rfl
    |>.lxor d2_83 rfl
    |>.lstoreN #[.val (.ref a), .val (.long (low1 ^^^ (shl64 low1 ((Int32.ofNat (2 ^ 1)) >>> ((1 : Int32) &&& 31))))), .second, .val (.int (Int32.ofNat (2 ^ 1))), .val (.int (Int32.ofNat 64)), .val (.int b5_1), .val (.long s6_1), .second] d2_84 rfl rfl
    |>.iloadN d2_85 rfl rfl
    |>.iconst (1 : Int32) d2_86 rfl rfl
    |>.ishr d2_87 rfl
    |>.istoreN #[.val (.ref a), .val (.long (low1 ^^^ (shl64 low1 ((Int32.ofNat (2 ^ 1)) >>> ((1 : Int32) &&& 31))))), .second, .val (.int ((Int32.ofNat (2 ^ 1)) >>> ((1 : Int32) &&& 31))), .val (.int (Int32.ofNat 64)), .val (.int b5_1), .val (.long s6_1), .second] d2_88 rfl rfl
    |>.goto d2_89 (by decide) (by decide)
  have el : (low1 ^^^ (shl64 low1 ((Int32.ofNat (2 ^ 1)) >>> ((1 : Int32) &&& 31)))) = low0 := by decide
  have eh : ((Int32.ofNat (2 ^ 1)) >>> ((1 : Int32) &&& 31)) = (1 : Int32) := by decide
  have s75 : Sit p l e ({ frames := 0, cells := 0, slots := 0, locals := 0 } : Room) s m #[(.ref a)] below meth c prog_1_method_2_code st n0 0 0 (fun hh => LF Z hh a (stg 1 low1 (Int32.ofNat (2 ^ 1)) (stg 2 low2 (Int32.ofNat (2 ^ 2)) (stg 3 low3 (Int32.ofNat (2 ^ 3)) (stg 4 low4 (Int32.ofNat (2 ^ 4)) (stg 5 low5 (Int32.ofNat (2 ^ 5)) F)))))) 7 #[.val (.ref a), .val (.long low0), .second, .val (.int (1 : Int32)), .val (.int (Int32.ofNat 64)), .val (.int b5_1), .val (.long s6_1), .second] [] := by rw [← el, ← eh]; exact s74
  have s76 : Sit p l e _ s m _ below meth c _ st n0 0 0 _ 8 #[.val (.ref a), .val (.long low0), .second, .val (.int (1 : Int32)), .val (.int (Int32.ofNat 64)), .val (.int b5_1), .val (.long s6_1), .second] [(.int (1 : Int32))] := s75
    |>.iloadN d2_7 rfl rfl
  have s77 : Sit p l e _ s m _ below meth c _ st n0 0 0 _ 14 #[.val (.ref a), .val (.long low0), .second, .val (.int (1 : Int32)), .val (.int (0 : Int32)), .val (.int b5_1), .val (.long s6_1), .second] [] := s76
    |>.ifN d2_8 (cmpF0 (cd := .le) (show ¬ ((1 : Int) ≤ 0) from by decide)) rfl
    |>.iconst (0 : Int32) d2_11 rfl rfl
    |>.istore #[.val (.ref a), .val (.long low0), .second, .val (.int (1 : Int32)), .val (.int (0 : Int32)), .val (.int b5_1), .val (.long s6_1), .second] d2_12 rfl rfl
  have s78 : Sit p l e _ s m _ below meth c _ st n0 0 0 (fun hh => LF Z hh a (inr 0 low0 (Int32.ofNat (2 ^ 0)) (stg 1 low1 (Int32.ofNat (2 ^ 1)) (stg 2 low2 (Int32.ofNat (2 ^ 2)) (stg 3 low3 (Int32.ofNat (2 ^ 3)) (stg 4 low4 (Int32.ofNat (2 ^ 4)) (stg 5 low5 (Int32.ofNat (2 ^ 5)) F))))) 0)) 14 #[.val (.ref a), .val (.long low0), .second, .val (.int (Int32.ofNat (2 ^ 0))), .val (.int (Int32.ofNat 0)), .val (.int b5_1), .val (.long s6_1), .second] [] := s77.mono fun hh q => LF.congr q fun i _ => (inr_zero _ _ _ i).symm
  obtain ⟨b5_0, s6_0, s79⟩ := loop 0 (by decide) low0 ((stg 1 low1 (Int32.ofNat (2 ^ 1)) (stg 2 low2 (Int32.ofNat (2 ^ 2)) (stg 3 low3 (Int32.ofNat (2 ^ 3)) (stg 4 low4 (Int32.ofNat (2 ^ 4)) (stg 5 low5 (Int32.ofNat (2 ^ 5)) F)))))) 64 0 _ _ (by omega) (by omega) (by decide) s78
  have s80 : Sit p l e _ s m _ below meth c _ st n0 0 0 _ 7 #[.val (.ref a), .val (.long (low0 ^^^ (shl64 low0 ((Int32.ofNat (2 ^ 0)) >>> ((1 : Int32) &&& 31))))), .second, .val (.int ((Int32.ofNat (2 ^ 0)) >>> ((1 : Int32) &&& 31))), .val (.int (Int32.ofNat 64)), .val (.int b5_0), .val (.long s6_0), .second] [] := s79
    |>.lloadN d2_77 rfl rfl
    |>.lloadN d2_78 rfl rfl
    |>.iloadN d2_79 rfl rfl
    |>.iconst (1 : Int32) d2_80 rfl rfl
    |>.ishr d2_81 rfl
    |>.lshl d2_82 rfl
    |>.lxor d2_83 rfl
    |>.lstoreN #[.val (.ref a), .val (.long (low0 ^^^ (shl64 low0 ((Int32.ofNat (2 ^ 0)) >>> ((1 : Int32) &&& 31))))), .second, .val (.int (Int32.ofNat (2 ^ 0))), .val (.int (Int32.ofNat 64)), .val (.int b5_0), .val (.long s6_0), .second] d2_84 rfl rfl
    |>.iloadN d2_85 rfl rfl
    |>.iconst (1 : Int32) d2_86 rfl rfl
    |>.ishr d2_87 rfl
    |>.istoreN #[.val (.ref a), .val (.long (low0 ^^^ (shl64 low0 ((Int32.ofNat (2 ^ 0)) >>> ((1 : Int32) &&& 31))))), .second, .val (.int ((Int32.ofNat (2 ^ 0)) >>> ((1 : Int32) &&& 31))), .val (.int (Int32.ofNat 64)), .val (.int b5_0), .val (.long s6_0), .second] d2_88 rfl rfl
    |>.goto d2_89 (by decide) (by decide)
  have el : (low0 ^^^ (shl64 low0 ((Int32.ofNat (2 ^ 0)) >>> ((1 : Int32) &&& 31)))) = (0 : Int64) := by decide
  have eh : ((Int32.ofNat (2 ^ 0)) >>> ((1 : Int32) &&& 31)) = (0 : Int32) := by decide
  have s81 : Sit p l e ({ frames := 0, cells := 0, slots := 0, locals := 0 } : Room) s m #[(.ref a)] below meth c prog_1_method_2_code st n0 0 0 (fun hh => LF Z hh a (stg 0 low0 (Int32.ofNat (2 ^ 0)) (stg 1 low1 (Int32.ofNat (2 ^ 1)) (stg 2 low2 (Int32.ofNat (2 ^ 2)) (stg 3 low3 (Int32.ofNat (2 ^ 3)) (stg 4 low4 (Int32.ofNat (2 ^ 4)) (stg 5 low5 (Int32.ofNat (2 ^ 5)) F))))))) 7 #[.val (.ref a), .val (.long (0 : Int64)), .second, .val (.int (0 : Int32)), .val (.int (Int32.ofNat 64)), .val (.int b5_0), .val (.long s6_0), .second] [] := by rw [← el, ← eh]; exact s80
  have s82 : Sit p l e _ s m _ below meth c _ st n0 0 0 _ 8 #[.val (.ref a), .val (.long (0 : Int64)), .second, .val (.int (0 : Int32)), .val (.int (Int32.ofNat 64)), .val (.int b5_0), .val (.long s6_0), .second] [(.int (0 : Int32))] := s81
    |>.iloadN d2_7 rfl rfl
  have s83 : Sit p l e _ s m _ below meth c _ st n0 0 0 _ 92 #[.val (.ref a), .val (.long (0 : Int64)), .second, .val (.int (0 : Int32)), .val (.int (Int32.ofNat 64)), .val (.int b5_0), .val (.long s6_0), .second] [] := s82
    |>.ifY d2_8 (cmpT0 (cd := .le) (show (0 : Int) ≤ 0 from by decide)) (by decide) (by decide)
  exact s83.retV d2_92 hret hlk (fun hh q => ⟨rfl, q⟩)
theorem pn_rm0 : plainName "com/example/planesift/planesift/BitMatrixTransposePinLaw" = true := by first | (simp [plainName, overriddenIn]; done) | decide +kernel
theorem ef_rm0 (m : MethodId) (v1 : Int64) (v2 : Int64) (v3 : Int64) (rw0 : Int32) (pb0 : Int32) : entryFrame m #[(.long v1), (.long v2), (.long v3), (.int rw0), (.int pb0)] maxLocals = mkF m 0 #[.val (.long v1), .second, .val (.long v2), .second, .val (.long v3), .second, .val (.int rw0), .val (.int pb0), .unset, .unset, .unset, .unset, .unset, .unset, .unset, .unset, .unset, .unset, .unset, .unset, .unset, .unset, .unset, .unset, .unset, .unset, .unset] [] := by first | (simp [entryFrame, mkF, argsToLocals, Value.category, maxLocals]; done) | rfl
set_option maxRecDepth 65536 in
set_option maxHeartbeats 40000000 in
theorem rm0 (l : Launch) (Z : State) (a0 : Array Value) (hw : ∀ d ∈ tables_1, d.before a0 Z = true) (wcs : List Jvm.Cond) (v1 : Int64) (v2 : Int64) (v3 : Int64) (rw0 : Int32) (pb0 : Int32)  (h0 : Heap) (n0 : Nat) (Z0 : n0 ≤ h0.size)  : Met1 l x code maxLocals ret wcs room_1 Z #[(.long v1), (.long v2), (.long v3), (.int rw0), (.int pb0)] h0 n0 (fun v hh => v = some (.int 1)) := by
  refine Met1.of (L0 := #[.val (.long v1), .second, .val (.long v2), .second, .val (.long v3), .second, .val (.int rw0), .val (.int pb0), .unset, .unset, .unset, .unset, .unset, .unset, .unset, .unset, .unset, .unset, .unset, .unset, .unset, .unset, .unset, .unset, .unset, .unset, .unset]) (plainFor_of_name pn_rm0) (fun m => ef_rm0 m v1 v2 v3 rw0 pb0) Z0 ?_
  intro p e s m below meth c st s0 hZ hown hret hlk hnm hml
  have hown : s.vm.findClass "com/example/planesift/planesift/BitMatrixTransposePinLaw" = some m.cls := hown
  have hret : meth.sig.returnType = some .boolean := hret
  have hml : c.maxLocals = 27 := hml
  have s1 : Sit p l e _ s m _ below meth c _ st n0 0 0 _ 5 #[.val (.long v1), .second, .val (.long v2), .second, .val (.long v3), .second, .val (.int rw0), .val (.int pb0), .unset, .unset, .unset, .unset, .unset, .unset, .unset, .unset, .unset, .unset, .unset, .unset, .unset, .unset, .unset, .unset, .unset, .unset, .unset] [(.int (rw0 &&& (63 : Int32)))] := s0
    |>.iload at_0 rfl rfl
    |>.bipush (63 : Int32) at_2 rfl rfl
    |>.iand at_4 rfl
  obtain ⟨r1, e_r1, s2⟩ : ∃ r1 : Int32, r1 = (rw0 &&& (63 : Int32)) ∧ Sit p l e _ s m _ below meth c _ st n0 0 0 _ 5 #[.val (.long v1), .second, .val (.long v2), .second, .val (.long v3), .second, .val (.int rw0), .val (.int pb0), .unset, .unset, .unset, .unset, .unset, .unset, .unset, .unset, .unset, .unset, .unset, .unset, .unset, .unset, .unset, .unset, .unset, .unset, .unset] [(.int r1)] := ⟨_, rfl, s1⟩
  obtain ⟨n_r1, a_r1, b_r1, c_r1⟩ := m63 rw0
  rw [← e_r1] at a_r1 c_r1
  have s3 : Sit p l e _ s m _ below meth c _ st n0 0 0 _ 15 #[.val (.long v1), .second, .val (.long v2), .second, .val (.long v3), .second, .val (.int rw0), .val (.int pb0), .val (.int r1), .unset, .unset, .unset, .unset, .unset, .unset, .unset, .unset, .unset, .unset, .unset, .unset, .unset, .unset, .unset, .unset, .unset, .unset] [(.int ((ushr32 rw0 (6 : Int32)) &&& (63 : Int32)))] := s2
    |>.istore #[.val (.long v1), .second, .val (.long v2), .second, .val (.long v3), .second, .val (.int rw0), .val (.int pb0), .val (.int r1), .unset, .unset, .unset, .unset, .unset, .unset, .unset, .unset, .unset, .unset, .unset, .unset, .unset, .unset, .unset, .unset, .unset, .unset] at_5 rfl rfl
    |>.iload at_7 rfl rfl
    |>.bipush (6 : Int32) at_9 rfl rfl
    |>.iushr at_11 rfl
    |>.bipush (63 : Int32) at_12 rfl rfl
    |>.iand at_14 rfl
  obtain ⟨r2, e_r2, s4⟩ : ∃ r2 : Int32, r2 = ((ushr32 rw0 (6 : Int32)) &&& (63 : Int32)) ∧ Sit p l e _ s m _ below meth c _ st n0 0 0 _ 15 #[.val (.long v1), .second, .val (.long v2), .second, .val (.long v3), .second, .val (.int rw0), .val (.int pb0), .val (.int r1), .unset, .unset, .unset, .unset, .unset, .unset, .unset, .unset, .unset, .unset, .unset, .unset, .unset, .unset, .unset, .unset, .unset, .unset] [(.int r2)] := ⟨_, rfl, s3⟩
  obtain ⟨n_r2, a_r2, b_r2, c_r2⟩ := m63 (ushr32 rw0 (6 : Int32))
  rw [← e_r2] at a_r2 c_r2
  have s5 : Sit p l e _ s m _ below meth c _ st n0 0 0 _ 25 #[.val (.long v1), .second, .val (.long v2), .second, .val (.long v3), .second, .val (.int rw0), .val (.int pb0), .val (.int r1), .val (.int r2), .unset, .unset, .unset, .unset, .unset, .unset, .unset, .unset, .unset, .unset, .unset, .unset, .unset, .unset, .unset, .unset, .unset] [(.int ((ushr32 rw0 (12 : Int32)) &&& (63 : Int32)))] := s4
    |>.istore #[.val (.long v1), .second, .val (.long v2), .second, .val (.long v3), .second, .val (.int rw0), .val (.int pb0), .val (.int r1), .val (.int r2), .unset, .unset, .unset, .unset, .unset, .unset, .unset, .unset, .unset, .unset, .unset, .unset, .unset, .unset, .unset, .unset, .unset] at_15 rfl rfl
    |>.iload at_17 rfl rfl
    |>.bipush (12 : Int32) at_19 rfl rfl
    |>.iushr at_21 rfl
    |>.bipush (63 : Int32) at_22 rfl rfl
    |>.iand at_24 rfl
  obtain ⟨r3, e_r3, s6⟩ : ∃ r3 : Int32, r3 = ((ushr32 rw0 (12 : Int32)) &&& (63 : Int32)) ∧ Sit p l e _ s m _ below meth c _ st n0 0 0 _ 25 #[.val (.long v1), .second, .val (.long v2), .second, .val (.long v3), .second, .val (.int rw0), .val (.int pb0), .val (.int r1), .val (.int r2), .unset, .unset, .unset, .unset, .unset, .unset, .unset, .unset, .unset, .unset, .unset, .unset, .unset, .unset, .unset, .unset, .unset] [(.int r3)] := ⟨_, rfl, s5⟩
  obtain ⟨n_r3, a_r3, b_r3, c_r3⟩ := m63 (ushr32 rw0 (12 : Int32))
  rw [← e_r3] at a_r3 c_r3
  have s7 : Sit p l e _ s m _ below meth c _ st n0 0 0 _ 32 #[.val (.long v1), .second, .val (.long v2), .second, .val (.long v3), .second, .val (.int rw0), .val (.int pb0), .val (.int r1), .val (.int r2), .val (.int r3), .unset, .unset, .unset, .unset, .unset, .unset, .unset, .unset, .unset, .unset, .unset, .unset, .unset, .unset, .unset, .unset] [(.int (pb0 &&& (63 : Int32)))] := s6
    |>.istore #[.val (.long v1), .second, .val (.long v2), .second, .val (.long v3), .second, .val (.int rw0), .val (.int pb0), .val (.int r1), .val (.int r2), .val (.int r3), .unset, .unset, .unset, .unset, .unset, .unset, .unset, .unset, .unset, .unset, .unset, .unset, .unset, .unset, .unset, .unset] at_25 rfl rfl
    |>.iload at_27 rfl rfl
    |>.bipush (63 : Int32) at_29 rfl rfl
    |>.iand at_31 rfl
  obtain ⟨i1, e_i1, s8⟩ : ∃ i1 : Int32, i1 = (pb0 &&& (63 : Int32)) ∧ Sit p l e _ s m _ below meth c _ st n0 0 0 _ 32 #[.val (.long v1), .second, .val (.long v2), .second, .val (.long v3), .second, .val (.int rw0), .val (.int pb0), .val (.int r1), .val (.int r2), .val (.int r3), .unset, .unset, .unset, .unset, .unset, .unset, .unset, .unset, .unset, .unset, .unset, .unset, .unset, .unset, .unset, .unset] [(.int i1)] := ⟨_, rfl, s7⟩
  obtain ⟨n_i1, a_i1, b_i1, c_i1⟩ := m63 pb0
  rw [← e_i1] at a_i1 c_i1
  have s9 : Sit p l e _ s m _ below meth c _ st n0 0 0 _ 42 #[.val (.long v1), .second, .val (.long v2), .second, .val (.long v3), .second, .val (.int rw0), .val (.int pb0), .val (.int r1), .val (.int r2), .val (.int r3), .val (.int i1), .unset, .unset, .unset, .unset, .unset, .unset, .unset, .unset, .unset, .unset, .unset, .unset, .unset, .unset, .unset] [(.int ((ushr32 pb0 (6 : Int32)) &&& (63 : Int32)))] := s8
    |>.istore #[.val (.long v1), .second, .val (.long v2), .second, .val (.long v3), .second, .val (.int rw0), .val (.int pb0), .val (.int r1), .val (.int r2), .val (.int r3), .val (.int i1), .unset, .unset, .unset, .unset, .unset, .unset, .unset, .unset, .unset, .unset, .unset, .unset, .unset, .unset, .unset] at_32 rfl rfl
    |>.iload at_34 rfl rfl
    |>.bipush (6 : Int32) at_36 rfl rfl
    |>.iushr at_38 rfl
    |>.bipush (63 : Int32) at_39 rfl rfl
    |>.iand at_41 rfl
  obtain ⟨i2, e_i2, s10⟩ : ∃ i2 : Int32, i2 = ((ushr32 pb0 (6 : Int32)) &&& (63 : Int32)) ∧ Sit p l e _ s m _ below meth c _ st n0 0 0 _ 42 #[.val (.long v1), .second, .val (.long v2), .second, .val (.long v3), .second, .val (.int rw0), .val (.int pb0), .val (.int r1), .val (.int r2), .val (.int r3), .val (.int i1), .unset, .unset, .unset, .unset, .unset, .unset, .unset, .unset, .unset, .unset, .unset, .unset, .unset, .unset, .unset] [(.int i2)] := ⟨_, rfl, s9⟩
  obtain ⟨n_i2, a_i2, b_i2, c_i2⟩ := m63 (ushr32 pb0 (6 : Int32))
  rw [← e_i2] at a_i2 c_i2
  have s11 : Sit p l e _ s m _ below meth c _ st n0 0 0 _ 52 #[.val (.long v1), .second, .val (.long v2), .second, .val (.long v3), .second, .val (.int rw0), .val (.int pb0), .val (.int r1), .val (.int r2), .val (.int r3), .val (.int i1), .val (.int i2), .unset, .unset, .unset, .unset, .unset, .unset, .unset, .unset, .unset, .unset, .unset, .unset, .unset, .unset] [(.int ((ushr32 pb0 (12 : Int32)) &&& (63 : Int32)))] := s10
    |>.istore #[.val (.long v1), .second, .val (.long v2), .second, .val (.long v3), .second, .val (.int rw0), .val (.int pb0), .val (.int r1), .val (.int r2), .val (.int r3), .val (.int i1), .val (.int i2), .unset, .unset, .unset, .unset, .unset, .unset, .unset, .unset, .unset, .unset, .unset, .unset, .unset, .unset] at_42 rfl rfl
    |>.iload at_44 rfl rfl
    |>.bipush (12 : Int32) at_46 rfl rfl
    |>.iushr at_48 rfl
    |>.bipush (63 : Int32) at_49 rfl rfl
    |>.iand at_51 rfl
  obtain ⟨i3, e_i3, s12⟩ : ∃ i3 : Int32, i3 = ((ushr32 pb0 (12 : Int32)) &&& (63 : Int32)) ∧ Sit p l e _ s m _ below meth c _ st n0 0 0 _ 52 #[.val (.long v1), .second, .val (.long v2), .second, .val (.long v3), .second, .val (.int rw0), .val (.int pb0), .val (.int r1), .val (.int r2), .val (.int r3), .val (.int i1), .val (.int i2), .unset, .unset, .unset, .unset, .unset, .unset, .unset, .unset, .unset, .unset, .unset, .unset, .unset, .unset] [(.int i3)] := ⟨_, rfl, s11⟩
  obtain ⟨n_i3, a_i3, b_i3, c_i3⟩ := m63 (ushr32 pb0 (12 : Int32))
  rw [← e_i3] at a_i3 c_i3
  have s13 : Sit p l e _ s m _ below meth c _ st n0 0 0 _ 56 #[.val (.long v1), .second, .val (.long v2), .second, .val (.long v3), .second, .val (.int rw0), .val (.int pb0), .val (.int r1), .val (.int r2), .val (.int r3), .val (.int i1), .val (.int i2), .val (.int i3), .unset, .unset, .unset, .unset, .unset, .unset, .unset, .unset, .unset, .unset, .unset, .unset, .unset] [(.int (64 : Int32))] := s12
    |>.istore #[.val (.long v1), .second, .val (.long v2), .second, .val (.long v3), .second, .val (.int rw0), .val (.int pb0), .val (.int r1), .val (.int r2), .val (.int r3), .val (.int i1), .val (.int i2), .val (.int i3), .unset, .unset, .unset, .unset, .unset, .unset, .unset, .unset, .unset, .unset, .unset, .unset, .unset] at_52 rfl rfl
    |>.bipush (64 : Int32) at_54 rfl rfl
  obtain ⟨b, g_b, s14⟩ := Sit.newarr (aty := .long) (P' := fun b => fun hh => LF Z hh b (fun _ => 0)) 64 s13 hZ (wi hw 0 rfl) (by decide) (by decide) (by decide) (by decide) (by decide) (fun hh hh' a _ _ _ A => A) at_56 (pc' := 58) rfl
  have s15 : Sit p l e _ s m _ below meth c _ st n0 1 64 _ 58 #[.val (.long v1), .second, .val (.long v2), .second, .val (.long v3), .second, .val (.int rw0), .val (.int pb0), .val (.int r1), .val (.int r2), .val (.int r3), .val (.int i1), .val (.int i2), .val (.int i3), .unset, .unset, .unset, .unset, .unset, .unset, .unset, .unset, .unset, .unset, .unset, .unset, .unset] [(.ref b)] := s14
  have s16 : Sit p l e _ s m _ below meth c _ st n0 1 64 _ 65 #[.val (.long v1), .second, .val (.long v2), .second, .val (.long v3), .second, .val (.int rw0), .val (.int pb0), .val (.int r1), .val (.int r2), .val (.int r3), .val (.int i1), .val (.int i2), .val (.int i3), .val (.ref b), .unset, .unset, .unset, .unset, .unset, .unset, .unset, .unset, .unset, .unset, .unset, .unset] [(.long v1), (.int r1), (.ref b)] := s15
    |>.astore #[.val (.long v1), .second, .val (.long v2), .second, .val (.long v3), .second, .val (.int rw0), .val (.int pb0), .val (.int r1), .val (.int r2), .val (.int r3), .val (.int i1), .val (.int i2), .val (.int i3), .val (.ref b), .unset, .unset, .unset, .unset, .unset, .unset, .unset, .unset, .unset, .unset, .unset, .unset] at_58 rfl rfl
    |>.aload at_60 rfl rfl
    |>.iload at_62 rfl rfl
    |>.lloadN at_64 rfl rfl
  have s17 : Sit p l e _ s m _ below meth c _ st n0 1 64 _ 66 #[.val (.long v1), .second, .val (.long v2), .second, .val (.long v3), .second, .val (.int rw0), .val (.int pb0), .val (.int r1), .val (.int r2), .val (.int r3), .val (.int i1), .val (.int i2), .val (.int i3), .val (.ref b), .unset, .unset, .unset, .unset, .unset, .unset, .unset, .unset, .unset, .unset, .unset, .unset] [] := s16
    |>.lastore (P' := fun hh => LF Z hh b (upd (fun _ => 0) n_r1 v1)) hZ (g_b) (by omega) (fun hh q => ⟨_, q, by rw [clamp_of a_r1]; simpa using b_r1⟩) (fun hh hh' q X => LF.set q (by rw [clamp_of a_r1] at X; exact X) b_r1) at_65 rfl
  have s18 : Sit p l e _ s m _ below meth c _ st n0 1 64 _ 71 #[.val (.long v1), .second, .val (.long v2), .second, .val (.long v3), .second, .val (.int rw0), .val (.int pb0), .val (.int r1), .val (.int r2), .val (.int r3), .val (.int i1), .val (.int i2), .val (.int i3), .val (.ref b), .unset, .unset, .unset, .unset, .unset, .unset, .unset, .unset, .unset, .unset, .unset, .unset] [(.long v2), (.int r2), (.ref b)] := s17
    |>.aload at_66 rfl rfl
    |>.iload at_68 rfl rfl
    |>.lloadN at_70 rfl rfl
  have s19 : Sit p l e _ s m _ below meth c _ st n0 1 64 _ 72 #[.val (.long v1), .second, .val (.long v2), .second, .val (.long v3), .second, .val (.int rw0), .val (.int pb0), .val (.int r1), .val (.int r2), .val (.int r3), .val (.int i1), .val (.int i2), .val (.int i3), .val (.ref b), .unset, .unset, .unset, .unset, .unset, .unset, .unset, .unset, .unset, .unset, .unset, .unset] [] := s18
    |>.lastore (P' := fun hh => LF Z hh b (upd (upd (fun _ => 0) n_r1 v1) n_r2 v2)) hZ (g_b) (by omega) (fun hh q => ⟨_, q, by rw [clamp_of a_r2]; simpa using b_r2⟩) (fun hh hh' q X => LF.set q (by rw [clamp_of a_r2] at X; exact X) b_r2) at_71 rfl
  have s20 : Sit p l e _ s m _ below meth c _ st n0 1 64 _ 78 #[.val (.long v1), .second, .val (.long v2), .second, .val (.long v3), .second, .val (.int rw0), .val (.int pb0), .val (.int r1), .val (.int r2), .val (.int r3), .val (.int i1), .val (.int i2), .val (.int i3), .val (.ref b), .unset, .unset, .unset, .unset, .unset, .unset, .unset, .unset, .unset, .unset, .unset, .unset] [(.long v3), (.int r3), (.ref b)] := s19
    |>.aload at_72 rfl rfl
    |>.iload at_74 rfl rfl
    |>.lload at_76 rfl rfl
  have s21 : Sit p l e _ s m _ below meth c _ st n0 1 64 _ 79 #[.val (.long v1), .second, .val (.long v2), .second, .val (.long v3), .second, .val (.int rw0), .val (.int pb0), .val (.int r1), .val (.int r2), .val (.int r3), .val (.int i1), .val (.int i2), .val (.int i3), .val (.ref b), .unset, .unset, .unset, .unset, .unset, .unset, .unset, .unset, .unset, .unset, .unset, .unset] [] := s20
    |>.lastore (P' := fun hh => LF Z hh b (upd (upd (upd (fun _ => 0) n_r1 v1) n_r2 v2) n_r3 v3)) hZ (g_b) (by omega) (fun hh q => ⟨_, q, by rw [clamp_of a_r3]; simpa using b_r3⟩) (fun hh hh' q X => LF.set q (by rw [clamp_of a_r3] at X; exact X) b_r3) at_78 rfl
  obtain ⟨F, eF⟩ : ∃ F : Nat → Int64, F = (upd (upd (upd (fun _ => 0) n_r1 v1) n_r2 v2) n_r3 v3) := ⟨_, rfl⟩
  have s22 : Sit p l e room_1 s m #[(.long v1), (.long v2), (.long v3), (.int rw0), (.int pb0)] below meth c code st n0 1 64 (fun hh => LF Z hh b F) 79 #[.val (.long v1), .second, .val (.long v2), .second, .val (.long v3), .second, .val (.int rw0), .val (.int pb0), .val (.int r1), .val (.int r2), .val (.int r3), .val (.int i1), .val (.int i2), .val (.int i3), .val (.ref b), .unset, .unset, .unset, .unset, .unset, .unset, .unset, .unset, .unset, .unset, .unset, .unset] [] := by rw [eF]; exact s21
  have hz : ∀ j, j ≠ n_r1 → j ≠ n_r2 → j ≠ n_r3 → F j = 0 := fun j h1 h2 h3 => by rw [eF, upd, if_neg h3, upd, if_neg h2, upd, if_neg h1]
  have s23 : Sit p l e _ s m _ below meth c _ st n0 1 64 _ 83 #[.val (.long v1), .second, .val (.long v2), .second, .val (.long v3), .second, .val (.int rw0), .val (.int pb0), .val (.int r1), .val (.int r2), .val (.int r3), .val (.int i1), .val (.int i2), .val (.int i3), .val (.ref b), .unset, .unset, .unset, .unset, .unset, .unset, .unset, .unset, .unset, .unset, .unset, .unset] [(.int r1), (.ref b)] := s22
    |>.aload at_79 rfl rfl
    |>.iload at_81 rfl rfl
  have s24 : Sit p l e _ s m _ below meth c _ st n0 1 64 _ 90 #[.val (.long v1), .second, .val (.long v2), .second, .val (.long v3), .second, .val (.int rw0), .val (.int pb0), .val (.int r1), .val (.int r2), .val (.int r3), .val (.int i1), .val (.int i2), .val (.int i3), .val (.ref b), .val (.long (F n_r1)), .second, .unset, .unset, .unset, .unset, .unset, .unset, .unset, .unset, .unset, .unset] [(.int r2), (.ref b)] := s23
    |>.laload (v := (F n_r1)) hZ (by omega) (fun hh q => ⟨_, q, by rw [clamp_of a_r1, LF.get b_r1]⟩) at_83 rfl
    |>.lstore #[.val (.long v1), .second, .val (.long v2), .second, .val (.long v3), .second, .val (.int rw0), .val (.int pb0), .val (.int r1), .val (.int r2), .val (.int r3), .val (.int i1), .val (.int i2), .val (.int i3), .val (.ref b), .val (.long (F n_r1)), .second, .unset, .unset, .unset, .unset, .unset, .unset, .unset, .unset, .unset, .unset] at_84 rfl rfl
    |>.aload at_86 rfl rfl
    |>.iload at_88 rfl rfl
  have s25 : Sit p l e _ s m _ below meth c _ st n0 1 64 _ 97 #[.val (.long v1), .second, .val (.long v2), .second, .val (.long v3), .second, .val (.int rw0), .val (.int pb0), .val (.int r1), .val (.int r2), .val (.int r3), .val (.int i1), .val (.int i2), .val (.int i3), .val (.ref b), .val (.long (F n_r1)), .second, .val (.long (F n_r2)), .second, .unset, .unset, .unset, .unset, .unset, .unset, .unset, .unset] [(.int r3), (.ref b)] := s24
    |>.laload (v := (F n_r2)) hZ (by omega) (fun hh q => ⟨_, q, by rw [clamp_of a_r2, LF.get b_r2]⟩) at_90 rfl
    |>.lstore #[.val (.long v1), .second, .val (.long v2), .second, .val (.long v3), .second, .val (.int rw0), .val (.int pb0), .val (.int r1), .val (.int r2), .val (.int r3), .val (.int i1), .val (.int i2), .val (.int i3), .val (.ref b), .val (.long (F n_r1)), .second, .val (.long (F n_r2)), .second, .unset, .unset, .unset, .unset, .unset, .unset, .unset, .unset] at_91 rfl rfl
    |>.aload at_93 rfl rfl
    |>.iload at_95 rfl rfl
  have s26 : Sit p l e _ s m _ below meth c _ st n0 1 64 _ 114 #[.val (.long v1), .second, .val (.long v2), .second, .val (.long v3), .second, .val (.int rw0), .val (.int pb0), .val (.int r1), .val (.int r2), .val (.int r3), .val (.int i1), .val (.int i2), .val (.int i3), .val (.ref b), .val (.long (F n_r1)), .second, .val (.long (F n_r2)), .second, .val (.long (F n_r3)), .second, .unset, .unset, .unset, .unset, .unset, .unset] [(.int i1), (.int r3), (.int r2), (.int r1), (.long (F n_r3)), (.long (F n_r2)), (.long (F n_r1))] := s25
    |>.laload (v := (F n_r3)) hZ (by omega) (fun hh q => ⟨_, q, by rw [clamp_of a_r3, LF.get b_r3]⟩) at_97 rfl
    |>.lstore #[.val (.long v1), .second, .val (.long v2), .second, .val (.long v3), .second, .val (.int rw0), .val (.int pb0), .val (.int r1), .val (.int r2), .val (.int r3), .val (.int i1), .val (.int i2), .val (.int i3), .val (.ref b), .val (.long (F n_r1)), .second, .val (.long (F n_r2)), .second, .val (.long (F n_r3)), .second, .unset, .unset, .unset, .unset, .unset, .unset] at_98 rfl rfl
    |>.lload at_100 rfl rfl
    |>.lload at_102 rfl rfl
    |>.lload at_104 rfl rfl
    |>.iload at_106 rfl rfl
    |>.iload at_108 rfl rfl
    |>.iload at_110 rfl rfl
    |>.iload at_112 rfl rfl
  obtain ⟨r28, s27⟩ := Sit.callS (y := (⟨"com/example/planesift/planesift/BitMatrixTransposePinLaw", "column", "(JJJIIII)J"⟩ : MethodName)) (W := 0) (Q := fun v hh => (v = some (.long (clF (F n_r1) (F n_r2) (F n_r3) r1 r2 r3 i1))) ∧ (fun hh => LF Z hh b F) hh) [(.long (F n_r1)), (.long (F n_r2)), (.long (F n_r3)), (.int r1), (.int r2), (.int r3), (.int i1)] [] s26 hZ hown (wi hw 1 rfl) (wi hw 2 rfl) (wi hw 3 rfl) (wi hw 4 rfl) (by decide) (fun h1 hP hn => (rmC l Z a0 hw [] (F n_r1) (F n_r2) (F n_r3) r1 r2 r3 i1 h1 n0 hn).mono fun v hh q => ⟨q.1, q.2 ▸ hP⟩) hml rfl (lenOf pd_0 rfl) at_114 (Nat.le_of_eq rfl) (by decide) (by decide) (by decide) (by decide) (pc' := 117) rfl
  obtain ⟨_, er28, _⟩ := s27.facts
  subst er28
  have s29 : Sit p l e _ s m _ below meth c _ st n0 1 64 (fun hh => LF Z hh b F) 117 #[.val (.long v1), .second, .val (.long v2), .second, .val (.long v3), .second, .val (.int rw0), .val (.int pb0), .val (.int r1), .val (.int r2), .val (.int r3), .val (.int i1), .val (.int i2), .val (.int i3), .val (.ref b), .val (.long (F n_r1)), .second, .val (.long (F n_r2)), .second, .val (.long (F n_r3)), .second, .unset, .unset, .unset, .unset, .unset, .unset] [(.long (clF (F n_r1) (F n_r2) (F n_r3) r1 r2 r3 i1))] := s27.mono fun _ q => q.2
  have s30 : Sit p l e _ s m _ below meth c _ st n0 1 64 _ 133 #[.val (.long v1), .second, .val (.long v2), .second, .val (.long v3), .second, .val (.int rw0), .val (.int pb0), .val (.int r1), .val (.int r2), .val (.int r3), .val (.int i1), .val (.int i2), .val (.int i3), .val (.ref b), .val (.long (F n_r1)), .second, .val (.long (F n_r2)), .second, .val (.long (F n_r3)), .second, .val (.long (clF (F n_r1) (F n_r2) (F n_r3) r1 r2 r3 i1)), .second, .unset, .unset, .unset, .unset] [(.int i2), (.int r3), (.int r2), (.int r1), (.long (F n_r3)), (.long (F n_r2)), (.long (F n_r1))] := s29
    |>.lstore #[.val (.long v1), .second, .val (.long v2), .second, .val (.long v3), .second, .val (.int rw0), .val (.int pb0), .val (.int r1), .val (.int r2), .val (.int r3), .val (.int i1), .val (.int i2), .val (.int i3), .val (.ref b), .val (.long (F n_r1)), .second, .val (.long (F n_r2)), .second, .val (.long (F n_r3)), .second, .val (.long (clF (F n_r1) (F n_r2) (F n_r3) r1 r2 r3 i1)), .second, .unset, .unset, .unset, .unset] at_117 rfl rfl
    |>.lload at_119 rfl rfl
    |>.lload at_121 rfl rfl
    |>.lload at_123 rfl rfl
    |>.iload at_125 rfl rfl
    |>.iload at_127 rfl rfl
    |>.iload at_129 rfl rfl
    |>.iload at_131 rfl rfl
  obtain ⟨r32, s31⟩ := Sit.callS (y := (⟨"com/example/planesift/planesift/BitMatrixTransposePinLaw", "column", "(JJJIIII)J"⟩ : MethodName)) (W := 0) (Q := fun v hh => (v = some (.long (clF (F n_r1) (F n_r2) (F n_r3) r1 r2 r3 i2))) ∧ (fun hh => LF Z hh b F) hh) [(.long (F n_r1)), (.long (F n_r2)), (.long (F n_r3)), (.int r1), (.int r2), (.int r3), (.int i2)] [] s30 hZ hown (wi hw 1 rfl) (wi hw 2 rfl) (wi hw 3 rfl) (wi hw 4 rfl) (by decide) (fun h1 hP hn => (rmC l Z a0 hw [] (F n_r1) (F n_r2) (F n_r3) r1 r2 r3 i2 h1 n0 hn).mono fun v hh q => ⟨q.1, q.2 ▸ hP⟩) hml rfl (lenOf pd_0 rfl) at_133 (Nat.le_of_eq rfl) (by decide) (by decide) (by decide) (by decide) (pc' := 136) rfl
  obtain ⟨_, er32, _⟩ := s31.facts
  subst er32
  have s33 : Sit p l e _ s m _ below meth c _ st n0 1 64 (fun hh => LF Z hh b F) 136 #[.val (.long v1), .second, .val (.long v2), .second, .val (.long v3), .second, .val (.int rw0), .val (.int pb0), .val (.int r1), .val (.int r2), .val (.int r3), .val (.int i1), .val (.int i2), .val (.int i3), .val (.ref b), .val (.long (F n_r1)), .second, .val (.long (F n_r2)), .second, .val (.long (F n_r3)), .second, .val (.long (clF (F n_r1) (F n_r2) (F n_r3) r1 r2 r3 i1)), .second, .unset, .unset, .unset, .unset] [(.long (clF (F n_r1) (F n_r2) (F n_r3) r1 r2 r3 i2))] := s31.mono fun _ q => q.2
  have s34 : Sit p l e _ s m _ below meth c _ st n0 1 64 _ 152 #[.val (.long v1), .second, .val (.long v2), .second, .val (.long v3), .second, .val (.int rw0), .val (.int pb0), .val (.int r1), .val (.int r2), .val (.int r3), .val (.int i1), .val (.int i2), .val (.int i3), .val (.ref b), .val (.long (F n_r1)), .second, .val (.long (F n_r2)), .second, .val (.long (F n_r3)), .second, .val (.long (clF (F n_r1) (F n_r2) (F n_r3) r1 r2 r3 i1)), .second, .val (.long (clF (F n_r1) (F n_r2) (F n_r3) r1 r2 r3 i2)), .second, .unset, .unset] [(.int i3), (.int r3), (.int r2), (.int r1), (.long (F n_r3)), (.long (F n_r2)), (.long (F n_r1))] := s33
    |>.lstore #[.val (.long v1), .second, .val (.long v2), .second, .val (.long v3), .second, .val (.int rw0), .val (.int pb0), .val (.int r1), .val (.int r2), .val (.int r3), .val (.int i1), .val (.int i2), .val (.int i3), .val (.ref b), .val (.long (F n_r1)), .second, .val (.long (F n_r2)), .second, .val (.long (F n_r3)), .second, .val (.long (clF (F n_r1) (F n_r2) (F n_r3) r1 r2 r3 i1)), .second, .val (.long (clF (F n_r1) (F n_r2) (F n_r3) r1 r2 r3 i2)), .second, .unset, .unset] at_136 rfl rfl
    |>.lload at_138 rfl rfl
    |>.lload at_140 rfl rfl
    |>.lload at_142 rfl rfl
    |>.iload at_144 rfl rfl
    |>.iload at_146 rfl rfl
    |>.iload at_148 rfl rfl
    |>.iload at_150 rfl rfl
  obtain ⟨r36, s35⟩ := Sit.callS (y := (⟨"com/example/planesift/planesift/BitMatrixTransposePinLaw", "column", "(JJJIIII)J"⟩ : MethodName)) (W := 0) (Q := fun v hh => (v = some (.long (clF (F n_r1) (F n_r2) (F n_r3) r1 r2 r3 i3))) ∧ (fun hh => LF Z hh b F) hh) [(.long (F n_r1)), (.long (F n_r2)), (.long (F n_r3)), (.int r1), (.int r2), (.int r3), (.int i3)] [] s34 hZ hown (wi hw 1 rfl) (wi hw 2 rfl) (wi hw 3 rfl) (wi hw 4 rfl) (by decide) (fun h1 hP hn => (rmC l Z a0 hw [] (F n_r1) (F n_r2) (F n_r3) r1 r2 r3 i3 h1 n0 hn).mono fun v hh q => ⟨q.1, q.2 ▸ hP⟩) hml rfl (lenOf pd_0 rfl) at_152 (Nat.le_of_eq rfl) (by decide) (by decide) (by decide) (by decide) (pc' := 155) rfl
  obtain ⟨_, er36, _⟩ := s35.facts
  subst er36
  have s37 : Sit p l e _ s m _ below meth c _ st n0 1 64 (fun hh => LF Z hh b F) 155 #[.val (.long v1), .second, .val (.long v2), .second, .val (.long v3), .second, .val (.int rw0), .val (.int pb0), .val (.int r1), .val (.int r2), .val (.int r3), .val (.int i1), .val (.int i2), .val (.int i3), .val (.ref b), .val (.long (F n_r1)), .second, .val (.long (F n_r2)), .second, .val (.long (F n_r3)), .second, .val (.long (clF (F n_r1) (F n_r2) (F n_r3) r1 r2 r3 i1)), .second, .val (.long (clF (F n_r1) (F n_r2) (F n_r3) r1 r2 r3 i2)), .second, .unset, .unset] [(.long (clF (F n_r1) (F n_r2) (F n_r3) r1 r2 r3 i3))] := s35.mono fun _ q => q.2
  have s38 : Sit p l e _ s m _ below meth c _ st n0 1 64 _ 159 #[.val (.long v1), .second, .val (.long v2), .second, .val (.long v3), .second, .val (.int rw0), .val (.int pb0), .val (.int r1), .val (.int r2), .val (.int r3), .val (.int i1), .val (.int i2), .val (.int i3), .val (.ref b), .val (.long (F n_r1)), .second, .val (.long (F n_r2)), .second, .val (.long (F n_r3)), .second, .val (.long (clF (F n_r1) (F n_r2) (F n_r3) r1 r2 r3 i1)), .second, .val (.long (clF (F n_r1) (F n_r2) (F n_r3) r1 r2 r3 i2)), .second, .val (.long (clF (F n_r1) (F n_r2) (F n_r3) r1 r2 r3 i3)), .second] [(.ref b)] := s37
    |>.lstore #[.val (.long v1), .second, .val (.long v2), .second, .val (.long v3), .second, .val (.int rw0), .val (.int pb0), .val (.int r1), .val (.int r2), .val (.int r3), .val (.int i1), .val (.int i2), .val (.int i3), .val (.ref b), .val (.long (F n_r1)), .second, .val (.long (F n_r2)), .second, .val (.long (F n_r3)), .second, .val (.long (clF (F n_r1) (F n_r2) (F n_r3) r1 r2 r3 i1)), .second, .val (.long (clF (F n_r1) (F n_r2) (F n_r3) r1 r2 r3 i2)), .second, .val (.long (clF (F n_r1) (F n_r2) (F n_r3) r1 r2 r3 i3)), .second] at_155 rfl rfl
    |>.aload at_157 rfl rfl
  obtain ⟨r40, s39⟩ := Sit.callS (y := (⟨"com/example/planesift/planesift/BitMatrix", "transpose", "([J)V"⟩ : MethodName)) (W := 0) (Q := fun v hh => (v = none) ∧ (fun hh => LF Z hh b (trn F)) hh) [(.ref b)] [] s38 hZ hown (wi hw 5 rfl) (wi hw 6 rfl) (wi hw 7 rfl) (wi hw 8 rfl) (by decide) (fun h1 hP hn => (rmT l Z a0 hw [] b F h1 n0 hn g_b hP).mono fun v hh q => q) hml rfl (lenOf pd_1 rfl) at_159 (Nat.le_of_eq rfl) (by decide) (by decide) (by decide) (by decide) (pc' := 162) rfl
  obtain ⟨_, er40, _⟩ := s39.facts
  subst er40
  have s41 : Sit p l e _ s m _ below meth c _ st n0 1 64 (fun hh => LF Z hh b (trn F)) 162 #[.val (.long v1), .second, .val (.long v2), .second, .val (.long v3), .second, .val (.int rw0), .val (.int pb0), .val (.int r1), .val (.int r2), .val (.int r3), .val (.int i1), .val (.int i2), .val (.int i3), .val (.ref b), .val (.long (F n_r1)), .second, .val (.long (F n_r2)), .second, .val (.long (F n_r3)), .second, .val (.long (clF (F n_r1) (F n_r2) (F n_r3) r1 r2 r3 i1)), .second, .val (.long (clF (F n_r1) (F n_r2) (F n_r3) r1 r2 r3 i2)), .second, .val (.long (clF (F n_r1) (F n_r2) (F n_r3) r1 r2 r3 i3)), .second] [] := s39.mono fun _ q => q.2
  have s42 : Sit p l e _ s m _ below meth c _ st n0 1 64 _ 166 #[.val (.long v1), .second, .val (.long v2), .second, .val (.long v3), .second, .val (.int rw0), .val (.int pb0), .val (.int r1), .val (.int r2), .val (.int r3), .val (.int i1), .val (.int i2), .val (.int i3), .val (.ref b), .val (.long (F n_r1)), .second, .val (.long (F n_r2)), .second, .val (.long (F n_r3)), .second, .val (.long (clF (F n_r1) (F n_r2) (F n_r3) r1 r2 r3 i1)), .second, .val (.long (clF (F n_r1) (F n_r2) (F n_r3) r1 r2 r3 i2)), .second, .val (.long (clF (F n_r1) (F n_r2) (F n_r3) r1 r2 r3 i3)), .second] [(.int i1), (.ref b)] := s41
    |>.aload at_162 rfl rfl
    |>.iload at_164 rfl rfl
  have s43 : Sit p l e _ s m _ below meth c _ st n0 1 64 _ 170 #[.val (.long v1), .second, .val (.long v2), .second, .val (.long v3), .second, .val (.int rw0), .val (.int pb0), .val (.int r1), .val (.int r2), .val (.int r3), .val (.int i1), .val (.int i2), .val (.int i3), .val (.ref b), .val (.long (F n_r1)), .second, .val (.long (F n_r2)), .second, .val (.long (F n_r3)), .second, .val (.long (clF (F n_r1) (F n_r2) (F n_r3) r1 r2 r3 i1)), .second, .val (.long (clF (F n_r1) (F n_r2) (F n_r3) r1 r2 r3 i2)), .second, .val (.long (clF (F n_r1) (F n_r2) (F n_r3) r1 r2 r3 i3)), .second] [(.int (lcmp3 (trn F n_i1) (clF (F n_r1) (F n_r2) (F n_r3) r1 r2 r3 i1)))] := s42
    |>.laload (v := (trn F n_i1)) hZ (by omega) (fun hh q => ⟨_, q, by rw [clamp_of a_i1, LF.get b_i1]⟩) at_166 rfl
    |>.lload at_167 rfl rfl
    |>.lcmp at_169 rfl
  have s44 : Sit p l e _ s m _ below meth c _ st n0 1 64 _ 177 #[.val (.long v1), .second, .val (.long v2), .second, .val (.long v3), .second, .val (.int rw0), .val (.int pb0), .val (.int r1), .val (.int r2), .val (.int r3), .val (.int i1), .val (.int i2), .val (.int i3), .val (.ref b), .val (.long (F n_r1)), .second, .val (.long (F n_r2)), .second, .val (.long (F n_r3)), .second, .val (.long (clF (F n_r1) (F n_r2) (F n_r3) r1 r2 r3 i1)), .second, .val (.long (clF (F n_r1) (F n_r2) (F n_r3) r1 r2 r3 i2)), .second, .val (.long (clF (F n_r1) (F n_r2) (F n_r3) r1 r2 r3 i3)), .second] [(.int i2), (.ref b)] := s43
    |>.ifN at_170 (lcF (cd := .ne) (show ¬ (¬ (trn F n_i1) = (clF (F n_r1) (F n_r2) (F n_r3) r1 r2 r3 i1)) from fun h => h (col_eq (fun i j => trn_bit F i j) c_r1 c_r2 c_r3 c_i1 hz))) rfl
    |>.aload at_173 rfl rfl
    |>.iload at_175 rfl rfl
  have s45 : Sit p l e _ s m _ below meth c _ st n0 1 64 _ 181 #[.val (.long v1), .second, .val (.long v2), .second, .val (.long v3), .second, .val (.int rw0), .val (.int pb0), .val (.int r1), .val (.int r2), .val (.int r3), .val (.int i1), .val (.int i2), .val (.int i3), .val (.ref b), .val (.long (F n_r1)), .second, .val (.long (F n_r2)), .second, .val (.long (F n_r3)), .second, .val (.long (clF (F n_r1) (F n_r2) (F n_r3) r1 r2 r3 i1)), .second, .val (.long (clF (F n_r1) (F n_r2) (F n_r3) r1 r2 r3 i2)), .second, .val (.long (clF (F n_r1) (F n_r2) (F n_r3) r1 r2 r3 i3)), .second] [(.int (lcmp3 (trn F n_i2) (clF (F n_r1) (F n_r2) (F n_r3) r1 r2 r3 i2)))] := s44
    |>.laload (v := (trn F n_i2)) hZ (by omega) (fun hh q => ⟨_, q, by rw [clamp_of a_i2, LF.get b_i2]⟩) at_177 rfl
    |>.lload at_178 rfl rfl
    |>.lcmp at_180 rfl
  have s46 : Sit p l e _ s m _ below meth c _ st n0 1 64 _ 188 #[.val (.long v1), .second, .val (.long v2), .second, .val (.long v3), .second, .val (.int rw0), .val (.int pb0), .val (.int r1), .val (.int r2), .val (.int r3), .val (.int i1), .val (.int i2), .val (.int i3), .val (.ref b), .val (.long (F n_r1)), .second, .val (.long (F n_r2)), .second, .val (.long (F n_r3)), .second, .val (.long (clF (F n_r1) (F n_r2) (F n_r3) r1 r2 r3 i1)), .second, .val (.long (clF (F n_r1) (F n_r2) (F n_r3) r1 r2 r3 i2)), .second, .val (.long (clF (F n_r1) (F n_r2) (F n_r3) r1 r2 r3 i3)), .second] [(.int i3), (.ref b)] := s45
    |>.ifN at_181 (lcF (cd := .ne) (show ¬ (¬ (trn F n_i2) = (clF (F n_r1) (F n_r2) (F n_r3) r1 r2 r3 i2)) from fun h => h (col_eq (fun i j => trn_bit F i j) c_r1 c_r2 c_r3 c_i2 hz))) rfl
    |>.aload at_184 rfl rfl
    |>.iload at_186 rfl rfl
  have s47 : Sit p l e _ s m _ below meth c _ st n0 1 64 _ 192 #[.val (.long v1), .second, .val (.long v2), .second, .val (.long v3), .second, .val (.int rw0), .val (.int pb0), .val (.int r1), .val (.int r2), .val (.int r3), .val (.int i1), .val (.int i2), .val (.int i3), .val (.ref b), .val (.long (F n_r1)), .second, .val (.long (F n_r2)), .second, .val (.long (F n_r3)), .second, .val (.long (clF (F n_r1) (F n_r2) (F n_r3) r1 r2 r3 i1)), .second, .val (.long (clF (F n_r1) (F n_r2) (F n_r3) r1 r2 r3 i2)), .second, .val (.long (clF (F n_r1) (F n_r2) (F n_r3) r1 r2 r3 i3)), .second] [(.int (lcmp3 (trn F n_i3) (clF (F n_r1) (F n_r2) (F n_r3) r1 r2 r3 i3)))] := s46
    |>.laload (v := (trn F n_i3)) hZ (by omega) (fun hh q => ⟨_, q, by rw [clamp_of a_i3, LF.get b_i3]⟩) at_188 rfl
    |>.lload at_189 rfl rfl
    |>.lcmp at_191 rfl
  have s48 : Sit p l e _ s m _ below meth c _ st n0 1 64 _ 200 #[.val (.long v1), .second, .val (.long v2), .second, .val (.long v3), .second, .val (.int rw0), .val (.int pb0), .val (.int r1), .val (.int r2), .val (.int r3), .val (.int i1), .val (.int i2), .val (.int i3), .val (.ref b), .val (.long (F n_r1)), .second, .val (.long (F n_r2)), .second, .val (.long (F n_r3)), .second, .val (.long (clF (F n_r1) (F n_r2) (F n_r3) r1 r2 r3 i1)), .second, .val (.long (clF (F n_r1) (F n_r2) (F n_r3) r1 r2 r3 i2)), .second, .val (.long (clF (F n_r1) (F n_r2) (F n_r3) r1 r2 r3 i3)), .second] [(.int (1 : Int32))] := s47
    |>.ifN at_192 (lcF (cd := .ne) (show ¬ (¬ (trn F n_i3) = (clF (F n_r1) (F n_r2) (F n_r3) r1 r2 r3 i3)) from fun h => h (col_eq (fun i j => trn_bit F i j) c_r1 c_r2 c_r3 c_i3 hz))) rfl
    |>.iconst (1 : Int32) at_195 rfl rfl
    |>.goto at_196 (by decide) (by decide)
  exact (s48.bound (by decide) (by decide)).retZ at_200 hret hlk (fun hh q => rfl)
set_option maxRecDepth 65536 in
set_option maxHeartbeats 40000000 in
theorem comes_1 {Post : Tables → Env → Array Value → State → Outcome → State → Prop} (hpost : ∀ tb e args s v u, (limb_1_1.after args s (.returned v) u = true ∧ limb_1_2.after args s (.returned v) u = true ∧ True) → FrameEnd s (.returned v) u (Jvm.fieldLocs frame_1_writes args s ++ Jvm.arrayLocs frame_1_arrays args s ++ Jvm.staticLocs frame_1_statics s) 16 192 → Post tb e args s (.returned v) u) :
    ArmFor flags0 classFile x code maxLocals ret World_1 tables_1 room_1 Calls_1 rest_1 Pre_1 Post := by
  intro l hfl _ _ p e ha hc hk s m args below hf hA hF happ hP
  obtain ⟨hcalls, hrest, hpre⟩ := hP
  obtain ⟨-, -, -, hnamed, -, -, -, hat⟩ := (Spec.applies_iff hf).mp happ
  obtain ⟨hg, hn⟩ := and_e (Cond.before_iff.mp (show (Jvm.Cond.and given_1 narrow_1).before args s = true from hpre))
  obtain ⟨g0, q0⟩ := and_e hg
  obtain ⟨g1, q1⟩ := and_e q0
  obtain ⟨g2, q2⟩ := and_e q1
  obtain ⟨g3, q3⟩ := and_e q2
  obtain ⟨g4, q4⟩ := and_e q3
  obtain ⟨w0, w1, w2, w3, w4, rfl⟩ : ∃ w0 w1 w2 w3 w4 : Value, args = #[w0, w1, w2, w3, w4] := by
    have hs : args.size = 5 := by simpa [Cond.value, given_1] using g0
    obtain ⟨L⟩ := args
    match L, hs with
    | [w0, w1, w2, w3, w4], _ => exact ⟨w0, w1, w2, w3, w4, rfl⟩
  have hw := fun d (hd : d ∈ tables_1) => atoms_spec (ws := Jvm.Cond.code x code maxLocals ret :: tables_1) hat d (List.mem_cons_of_mem _ hd)
  obtain ⟨i0, ei0⟩ := isL_v g1
  obtain rfl : w0 = (.long i0) := Option.some.inj ei0
  obtain ⟨i1, ei1⟩ := isL_v g2
  obtain rfl : w1 = (.long i1) := Option.some.inj ei1
  obtain ⟨i2, ei2⟩ := isL_v g3
  obtain rfl : w2 = (.long i2) := Option.some.inj ei2
  obtain ⟨i3, ei3⟩ := is_v g4
  obtain rfl : w3 = (.int i3) := Option.some.inj ei3
  obtain ⟨i4, ei4⟩ := is_v q4
  obtain rfl : w4 = (.int i4) := Option.some.inj ei4
  obtain ⟨n, o, h1, h2, h3, _, L, rfl, ⟨N, rfl⟩, hq⟩ := rm0 l s _ hw tables_1 i0 i1 i2 i3 i4 s.heap s.heap.size (Nat.le_refl _) p e ha hc hk s m _ below hf ((Spec.applies_iff_loose hf).mp happ).1 ⟨rfl, State.Warmed39.refl s, rfl⟩ trivial
  refine ⟨n, _, h1, h2, h3, hpost _ _ _ _ _ _ ⟨Cond.after_iff.mpr rfl, Cond.after_iff.mpr (eq_i res_at (Term.int_eval (1)) rfl), trivial⟩ ⟨hq.1, hq.2.1, (hq.2.2.sift fun y hy => Or.inr (N y hy)).mono (by decide) (by decide)⟩⟩
theorem main_1_1 : Claimed_1_1 := comes_1 fun _ _ _ _ _ _ h hF => ⟨h.1, hF⟩
theorem main_1_2 : Claimed_1_2 := comes_1 fun _ _ _ _ _ _ h hF => ⟨h.2.1, hF⟩
end Jvm.Pilot.@@N@@
namespace Jvm.Pilot.@@N@@
open Jvm Jvm.ClassFile Sem Op Lib Jvm.Free Jvm.Stand Jvm.Pilot.@@N@@.Jvm.D
/-! MADE BY PROGRAM (witnessworld.py) out of the Statement's table words and the real class files: 11 classes; the members and pool entries that the words name. The judged class is class 1, her method 1. -/
namespace start1
open Jvm.ClassFile
def u (s : String) : CpInfo := .utf8 (stringToUtf16 s)
/-- a pool by its gaps: so many unusable entries, then the entry; so many at the end -/
def gap : Nat → List CpInfo → List CpInfo
  | 0, r => r
  | n + 1, r => .unusable :: gap n r
def poolList (es : List (Nat × CpInfo)) (last : Nat) : List CpInfo := es.foldr (fun e r => gap e.1 (e.2 :: r)) (gap last [])
def pool (es : List (Nat × CpInfo)) (last : Nat) : Array CpInfo := ⟨poolList es last⟩
def fileOf (pool : Array CpInfo) (this : Nat) (attrs : Array Attribute := #[]) (ms : Array MethodInfo := #[]) (fl : Nat := 33) (sup : Nat := 0) (ifs : Array Nat := #[]) (fds : Array FieldInfo := #[]) : ClassFile where
  minorVersion := 0
  majorVersion := 65
  constantPool := pool
  accessFlags := fl
  thisClass := this
  superClass := sup
  interfaces := ifs
  fields := fds
  methods := ms
  attributes := attrs
def plain (name : String) (sup : Option ClassId) : Class where
  name := name
  kind := .ordinary
  loader := none
  accessFlags := 33
  super := sup
  interfaces := #[]
  cf := none
  fields := #[]
  methods := #[]
  instanceTypes := #[]
  staticTypes := #[]
  resolved := #[]
  callSites := []
  init := .initialized
  statics := none
  mirror := none

def pool0 : Array CpInfo := pool [(5, u "<init>"), (0, u "()V"), (1, .class_ 10), (1, u "java/lang/Object")] 113

def k0m0 : Method := { name := "<init>", desc := "()V", sig := { parameters := [], returnType := none }, accessFlags := 1, code := none }
/-- java/lang/Object -/
def k0 : Class := { plain "java/lang/Object" none with
  accessFlags := 33
  interfaces := #[]
  cf := some (fileOf pool0 8 #[] #[{ accessFlags := 1, nameIndex := 5, descriptorIndex := 6, attributes := #[] }] 33 0 #[] #[])
  fields := #[]
  methods := #[k0m0]
  instanceTypes := #[]
  staticTypes := #[]
  resolved := Array.replicate 124 none
  statics := none }

def pool1 : Array CpInfo := pool [(2, .class_ 4), (1, u "java/lang/Object"), (0, u "<init>"), (0, u "()V"), (0, .methodref 8 9), (0, .class_ 10), (0, .nameAndType 11 12), (0, u "com/example/planesift/planesift/BitMatrixTransposePinLaw"), (0, u "column"), (0, u "(JJJIIII)J"), (0, .methodref 14 15), (0, .class_ 16), (0, .nameAndType 17 18), (0, u "com/example/planesift/planesift/BitMatrix"), (0, u "transpose"), (0, u "([J)V"), (2, u "law"), (0, u "(JJJII)Z")] 5

def k1m0 : Method := { name := "<init>", desc := "()V", sig := { parameters := [], returnType := none }, accessFlags := 2, code := none }
def k1c1 : Code := { maxStack := 10, maxLocals := 27, code := code, exceptionTable := #[], attributes := #[] }
def k1m1 : Method := { name := "law", desc := "(JJJII)Z", sig := { parameters := [.long, .long, .long, .int, .int], returnType := some .boolean }, accessFlags := 9, code := some k1c1 }
def k1c2 : Code := { maxStack := 6, maxLocals := 10, code := method_3_code, exceptionTable := #[], attributes := #[] }
def k1m2 : Method := { name := "column", desc := "(JJJIIII)J", sig := { parameters := [.long, .long, .long, .int, .int, .int, .int], returnType := some .long }, accessFlags := 10, code := some k1c2 }
/-- com/example/planesift/planesift/BitMatrixTransposePinLaw -/
def k1 : Class := { plain "com/example/planesift/planesift/BitMatrixTransposePinLaw" (some 0) with
  accessFlags := 49
  interfaces := #[]
  cf := some (fileOf pool1 8 #[] #[{ accessFlags := 2, nameIndex := 5, descriptorIndex := 6, attributes := #[] }, { accessFlags := 9, nameIndex := 21, descriptorIndex := 22, attributes := #[] }, { accessFlags := 10, nameIndex := 11, descriptorIndex := 12, attributes := #[] }] 49 2 #[] #[])
  fields := #[]
  methods := #[k1m0, k1m1, k1m2]
  instanceTypes := #[]
  staticTypes := #[]
  resolved := Array.replicate 28 none
  statics := none }

def pool2 : Array CpInfo := pool [(2, .class_ 4), (1, u "java/lang/Object"), (0, u "<init>"), (0, u "()V"), (0, .long 4294967295), (3, .class_ 12), (0, u "com/example/planesift/planesift/BitMatrix"), (2, u "transpose"), (0, u "([J)V")] 3

def k2m0 : Method := { name := "<init>", desc := "()V", sig := { parameters := [], returnType := none }, accessFlags := 2, code := none }
def k2c1 : Code := { maxStack := 7, maxLocals := 8, code := prog_1_method_2_code, exceptionTable := #[], attributes := #[] }
def k2m1 : Method := { name := "transpose", desc := "([J)V", sig := { parameters := [(.array .long)], returnType := none }, accessFlags := 8, code := some k2c1 }
/-- com/example/planesift/planesift/BitMatrix -/
def k2 : Class := { plain "com/example/planesift/planesift/BitMatrix" (some 0) with
  accessFlags := 48
  interfaces := #[]
  cf := some (fileOf pool2 11 #[] #[{ accessFlags := 2, nameIndex := 5, descriptorIndex := 6, attributes := #[] }, { accessFlags := 8, nameIndex := 15, descriptorIndex := 16, attributes := #[] }] 48 2 #[] #[])
  fields := #[]
  methods := #[k2m0, k2m1]
  instanceTypes := #[]
  staticTypes := #[]
  resolved := Array.replicate 20 none
  statics := none }

def pool3 : Array CpInfo := pool [(1, u "java/lang/Cloneable"), (0, .class_ 1), (0, u "java/lang/Object"), (0, .class_ 3)] 3

/-- java/lang/Cloneable -/
def k3 : Class := { plain "java/lang/Cloneable" (some 0) with
  accessFlags := 1537
  interfaces := #[]
  cf := some (fileOf pool3 2 #[] #[] 1537 4 #[] #[])
  fields := #[]
  methods := #[]
  instanceTypes := #[]
  staticTypes := #[]
  resolved := Array.replicate 8 none
  statics := none }

def pool4 : Array CpInfo := pool [(1, u "java/io/Serializable"), (0, .class_ 1), (0, u "java/lang/Object"), (0, .class_ 3)] 3

/-- java/io/Serializable -/
def k4 : Class := { plain "java/io/Serializable" (some 0) with
  accessFlags := 1537
  interfaces := #[]
  cf := some (fileOf pool4 2 #[] #[] 1537 4 #[] #[])
  fields := #[]
  methods := #[]
  instanceTypes := #[]
  staticTypes := #[]
  resolved := Array.replicate 8 none
  statics := none }

/-- the primitive byte -/
def k5 : Class := { plain "byte" none with kind := .primitive 'B', accessFlags := 0x411 }
/-- [B -/
def k6 : Class := { plain "[B" (some 0) with kind := .array 5 .byte, interfaces := #[3, 4], accessFlags := 1041 }

/-- the primitive int -/
def k7 : Class := { plain "int" none with kind := .primitive 'I', accessFlags := 0x411 }
/-- [I -/
def k8 : Class := { plain "[I" (some 0) with kind := .array 7 .int, interfaces := #[3, 4], accessFlags := 1041 }

/-- the primitive long -/
def k9 : Class := { plain "long" none with kind := .primitive 'J', accessFlags := 0x411 }
/-- [J -/
def k10 : Class := { plain "[J" (some 0) with kind := .array 9 .long, interfaces := #[3, 4], accessFlags := 1041 }

def heap : Heap := #[]
def classes : Array Class := #[k0, k1, k2, k3, k4, k5, k6, k7, k8, k9, k10]
def interned : List (Array UInt16 × Addr) := []
def slotsUsed : Nat := 0
def theMethod : MethodId := ⟨1, 1⟩
def args0 : Array Value := #[.long 5, .long 7, .long 2, .int 9, .int 3]
def aboutOver (below : List Frame) : State where
  vm := { classes := classes, interned := interned.toArray }
  heap := heap
  slotsUsed := slotsUsed
  threads := #[{ frames := .invoking theMethod args0 :: below }]
def below0 : List Frame := [.native { method := ⟨0, 0⟩, args := #[] }]
def about1 : State := aboutOver below0
def p0 : Program := .bare "" "" ""
def e0 : Env := launch0.env 0 0 0
theorem w_frames : about1.frames = Frame.invoking theMethod args0 :: below0 := rfl
set_option maxRecDepth 65536 in
theorem w_args : argsFit about1.vm theMethod args0 = true := by decide +kernel
set_option maxRecDepth 65536 in
theorem w_heap : heapFits about1 = true := by decide +kernel
set_option maxRecDepth 65536 in
theorem w_runnable : about1.curStatus? = some .runnable := by decide +kernel
set_option maxRecDepth 65536 in
theorem w_alone : about1.alone = true := by decide +kernel
set_option maxRecDepth 65536 in
theorem w_named : about1.methodNamed? x = some theMethod := by decide +kernel
set_option maxRecDepth 65536 in
theorem w_hears : about1.hears theMethod below0 = true := by decide +kernel
set_option maxRecDepth 65536 in
theorem w_ripe : about1.ripe theMethod args0 below0 = true := by decide +kernel
theorem w_running : about1.status = .running := rfl
set_option maxRecDepth 65536 in
theorem w_room : about1.hasRoom e0.platform room_1 = true :=
  launch0.hasRoom_least _ room_1 (by decide +kernel) (by decide +kernel) (by decide +kernel) (by decide +kernel) (by decide +kernel) (by decide +kernel)
theorem allAtoms_all (ts : List Jvm.Cond) (a : Array Jvm.Value) (st : Jvm.State) : (allAtoms ts).before a st = ts.all (fun c => c.before a st) := by
  induction ts with
  | nil => rfl
  | cons c t ih =>
    show (Jvm.Cond.and c (allAtoms t)).before a st = _
    rw [Jvm.Cond.before_and, ih, List.all_cons]
def words1 : List Jvm.Cond := Jvm.Cond.code x code maxLocals ret :: tables_1
/-- a 'code' word, met by the world's own term for the bytes: nothing is compared byte by byte -/
theorem code_word {y : MethodName} {bytes : ByteArray} {mx : Nat} {rt : Option FieldType} {a : Array Value} {s : State} {m : MethodId} {meth : Method} {c : Code} (h1 : s.methodNamed? y = some m) (h2 : s.vm.method? m = some meth) (h3 : meth.code = some c) (h4 : c.code = bytes)
    (h5 : (c.maxLocals == mx && c.exceptionTable.isEmpty && decide (c.maxStack ≤ mostOperands) && decide (meth.sig.returnType = rt) && !meth.locks && decide (parseMethodDescriptor y.desc = some meth.sig)) = true) : (Jvm.Cond.code y bytes mx rt).before a s = true := by
  simp only [Bool.and_eq_true, beq_iff_eq, Bool.not_eq_true', decide_eq_true_eq] at h5
  obtain ⟨⟨⟨⟨⟨g1, g2⟩, g3⟩, g4⟩, g5⟩, g6⟩ := h5
  simp [Cond.before, Cond.holds, Cond.value, h1, h2, h3, h4, g1, g2, g3, g4, g5, g6]
def isCode : Jvm.Cond → Bool
  | .code _ _ _ _ => true
  | _ => false
theorem all_split {L : List Jvm.Cond} {P : Jvm.Cond → Bool} (h1 : L.all (fun c => isCode c || P c) = true) (h2 : ∀ c ∈ L.filter isCode, P c = true) : L.all P = true := by
  refine List.all_eq_true.mpr fun c hc => ?_
  have h := List.all_eq_true.mp h1 c hc
  rcases Bool.eq_false_or_eq_true (isCode c) with hi | hi
  · exact h2 c (List.mem_filter.mpr ⟨hc, hi⟩)
  · simpa [hi] using h
set_option maxRecDepth 65536 in
theorem w_c0 : (Jvm.Cond.code x code maxLocals ret).before args0 about1 = true := code_word (m := ⟨1, 1⟩) (meth := k1m1) (c := k1c1) (by decide +kernel) rfl rfl rfl (by decide +kernel)
set_option maxRecDepth 65536 in
theorem w_c1 : (Jvm.Cond.code ({ cls := "com/example/planesift/planesift/BitMatrixTransposePinLaw", name := "column", desc := "(JJJIIII)J" } : Jvm.MethodName) method_3_code (10 : Nat) (Option.some Jvm.ClassFile.FieldType.long)).before args0 about1 = true := code_word (m := ⟨1, 2⟩) (meth := k1m2) (c := k1c2) (by decide +kernel) rfl rfl rfl (by decide +kernel)
set_option maxRecDepth 65536 in
theorem w_c2 : (Jvm.Cond.code ({ cls := "com/example/planesift/planesift/BitMatrix", name := "transpose", desc := "([J)V" } : Jvm.MethodName) prog_1_method_2_code (8 : Nat) (Option.none : Option Jvm.ClassFile.FieldType)).before args0 about1 = true := code_word (m := ⟨2, 1⟩) (meth := k2m1) (c := k2c1) (by decide +kernel) rfl rfl rfl (by decide +kernel)
def codes1 : List Jvm.Cond := [Jvm.Cond.code x code maxLocals ret, Jvm.Cond.code ({ cls := "com/example/planesift/planesift/BitMatrixTransposePinLaw", name := "column", desc := "(JJJIIII)J" } : Jvm.MethodName) method_3_code (10 : Nat) (Option.some Jvm.ClassFile.FieldType.long), Jvm.Cond.code ({ cls := "com/example/planesift/planesift/BitMatrix", name := "transpose", desc := "([J)V" } : Jvm.MethodName) prog_1_method_2_code (8 : Nat) (Option.none : Option Jvm.ClassFile.FieldType)]
set_option maxRecDepth 65536 in
theorem codes_eq : words1.filter isCode = codes1 := rfl
theorem w_codes : ∀ c ∈ words1.filter isCode, c.before args0 about1 = true := by
  rw [codes_eq]
  intro c hc
  simp only [codes1, List.mem_cons, List.not_mem_nil, or_false] at hc
  rcases hc with rfl | rfl | rfl
  · exact w_c0
  · exact w_c1
  · exact w_c2
set_option maxRecDepth 65536 in
theorem w_t1 : words1.all (fun c => isCode c || c.before args0 about1) = true := by decide +kernel
theorem w_tables : (allAtoms (Jvm.Cond.code x code maxLocals ret :: tables_1)).before args0 about1 = true := by
  rw [allAtoms_all]
  show words1.all (fun c => c.before args0 about1) = true
  refine all_split ?_ w_codes
  rw [w_t1]
set_option maxRecDepth 65536 in
theorem w_case : (Jvm.Cond.and given_1 narrow_1).before args0 about1 = true := by decide +kernel
theorem w_applies : (headSpec (Jvm.Cond.code x code maxLocals ret :: tables_1) room_1).applies x e0.platform about1 = true :=
  (Spec.applies_iff w_frames).mpr ⟨w_running, w_runnable, w_alone, w_named, w_hears, w_ripe, w_room, w_tables⟩
theorem atStart : AtStart classFile x code maxLocals ret World_1 tables_1 room_1 Calls_1 rest_1 Pre_1 launch0 p0 e0 about1 theMethod args0 below0 :=
  ⟨lists_1, trivial, launch0.admits_env _ _ _, launch0.least_env, fairChoices_fair.cas, fairChoices_fair.clock, w_frames, w_args, w_heap, w_applies, trivial, trivial, w_case⟩
end start1
theorem witness_1 : WitnessClaimed_1 := ⟨start1.p0, start1.e0, start1.about1, start1.theMethod, start1.args0, start1.below0, start1.atStart⟩
end Jvm.Pilot.@@N@@
