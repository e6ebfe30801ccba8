import JvmDerived
import JvmDerived.Pilot.@@N@@Statement
import JvmDerived.Pilot.@@N@@Code
set_option linter.unusedVariables false
set_option linter.unusedSimpArgs false
namespace Jvm.RoadKit
open Sem ClassFile Op Lib Jvm.Stand Jvm.Free Jvm.LawKit
section New
variable {p : Program} {l : Launch} {e : Env} {R : Room} {s : State} {m : MethodId} {args : Array Value} {below : List Frame} {meth : Method} {c : Code} {T : State} {locs : List Loc} {cells slots : Nat}
theorem retI (X : Stand p l e R s m args below meth c T locs cells slots) (hx : p.tables.exec = Jvm.exec) {pc : Nat} {Ls : Array Slot} {z : Int32} {rest : List Value} (hret : meth.sig.returnType = some .int) (hd : decode c.code pc = .ok (.ireturn, 1)) {fs : List Frame}
    (hl : ∀ (f : JFrame) (acts : List Action), f.method = m → f.locked = none → f.entered = [] → (doReturn e (T.setTop f) acts (some (.int z))).1 = T.setFrames fs) : Steps p.tables e below (T.setTop (mkF m pc Ls (.int z :: rest))) (T.setFrames fs) := by
  have hm' : T.vm.method? m = some meth := X.method'
  have hn : narrow .int (.int z) = .int z := rfl
  show Steps p.tables e below (T.setTop { method := m, pc := pc, locals := Ls, stack := _ :: rest, locked := none }) _
  jvm_step X.here [X.here.top, hx, hd, hm', hret, hn]
  first | (intro acts; rw [hl _ acts rfl rfl rfl]) | rw [hl _ _ rfl rfl rfl]
  exact Steps.refl _
end New
end Jvm.RoadKit
namespace Jvm.Pilot.@@N@@
open Jvm Jvm.ClassFile Sem Op Lib Jvm.Free Jvm.Stand Jvm.LawKit Jvm.RoadKit Bundle Jvm.Pilot.@@N@@.Jvm.D

theorem wi {Z : State} {a0 : Array Value} (hw : ∀ d ∈ tables_1, d.before a0 Z = true) (i : Nat) {d : Jvm.Cond} (h : tables_1[i]? = some d) : d.before a0 Z = true := hw d (List.mem_of_getElem? h)
section OwnKit
variable {p : Program} {l : Launch} {e : Env} {R : Room} {s : State} {m : MethodId} {args : Array Value} {below : List Frame} {meth : Method} {c : Code} {bs : ByteArray} {st : State} {n0 cells slots : Nat} {P P' : Heap → Prop} {pc pc' : Nat} {L L' : Array Slot} {S S' : List Value} {Z : State} {a0 : Array Value} {own : String}
/-- where a walk stands: some state T reached from st, with what is known of its heap -/
def Sit (p : Program) (l : Launch) (e : Env) (R : Room) (s : State) (m : MethodId) (args : Array Value) (below : List Frame) (meth : Method) (c : Code) (bs : ByteArray) (st : State) (n0 cells slots : Nat) (P : Heap → Prop) (pc : Nat) (L : Array Slot) (S : List Value) : Prop :=
  ∃ (T : State) (locs : List Loc) (k n : Nat), Stand p l e R s m args below meth c T locs k n ∧ k ≤ cells ∧ n ≤ slots ∧ Fr n0 locs ∧ n0 ≤ s.heap.size ∧ P T.heap ∧ p.tables.exec = Jvm.exec ∧ c.code = bs ∧ ∀ t, Steps p.tables e below (T.setTop (mkF m pc L S)) t → Steps p.tables e below st t
theorem Sit.go (h : Sit p l e R s m args below meth c bs st n0 cells slots P pc L S)
    (f : ∀ T locs k n, Stand p l e R s m args below meth c T locs k n → p.tables.exec = Jvm.exec → c.code = bs → P T.heap → ∀ t, Steps p.tables e below (T.setTop (mkF m pc' L' S')) t → Steps p.tables e below (T.setTop (mkF m pc L S)) t) :
    Sit p l e R s m args below meth c bs st n0 cells slots P pc' L' S' := by
  obtain ⟨T, locs, k, n, X, q1, q2, q3, q4, q5, hx, hby, q⟩ := h
  exact ⟨T, locs, k, n, X, q1, q2, q3, q4, q5, hx, hby, fun t z => q t (f T locs k n X hx hby q5 t z)⟩
theorem Sit.mono (h : Sit p l e R s m args below meth c bs st n0 cells slots P pc L S) (f : ∀ hh, P hh → P' hh) : Sit p l e R s m args below meth c bs st n0 cells slots P' pc L S := by
  obtain ⟨T, locs, k, n, X, q1, q2, q3, q4, q5, r⟩ := h
  exact ⟨T, locs, k, n, X, q1, q2, q3, q4, f _ q5, r⟩
theorem Sit.bound {cells' slots' : Nat} (h : Sit p l e R s m args below meth c bs st n0 cells slots P pc L S) (h1 : cells ≤ cells') (h2 : slots ≤ slots') : Sit p l e R s m args below meth c bs st n0 cells' slots' P pc L S := by
  obtain ⟨T, locs, k, n, X, q1, q2, r⟩ := h
  exact ⟨T, locs, k, n, X, Nat.le_trans q1 h1, Nat.le_trans q2 h2, r⟩
theorem Sit.facts (h : Sit p l e R s m args below meth c bs st n0 cells slots P pc L S) : ∃ hh, P hh := by
  obtain ⟨T, locs, k, n, X, q1, q2, q3, q4, q5, r⟩ := h
  exact ⟨_, q5⟩
theorem Sit.ex {α : Type} {Q : α → Heap → Prop} (h : Sit p l e R s m args below meth c bs st n0 cells slots (fun hh => ∃ x, Q x hh) pc L S) : ∃ x, Sit p l e R s m args below meth c bs st n0 cells slots (Q x) pc L S := by
  obtain ⟨T, locs, k, n, X, q1, q2, q3, q4, ⟨x, q5⟩, r⟩ := h
  exact ⟨x, T, locs, k, n, X, q1, q2, q3, q4, q5, r⟩
theorem Sit.size (h : Sit p l e R s m args below meth c bs st n0 cells slots P pc L S) : Sit p l e R s m args below meth c bs st n0 cells slots (fun hh => P hh ∧ n0 ≤ hh.size) pc L S := by
  obtain ⟨T, locs, k, n, X, q1, q2, q3, q4, q5, r⟩ := h
  exact ⟨T, locs, k, n, X, q1, q2, q3, q4, ⟨q5, Nat.le_trans q4 X.same.2.1⟩, r⟩
/-! plain steps -/
theorem Sit.iload {k : Nat} {v : Int32} (h : Sit p l e R s m args below meth c bs st n0 cells slots P pc L S) (hd : decode bs pc = .ok (.iload k, 2)) (hl : L[k]? = some (.val (.int v))) (hp : pc + 2 = pc') : Sit p l e R s m args below meth c bs st n0 cells slots P pc' L (.int v :: S) := by
  subst hp; exact h.go fun T _ _ _ X hx hby _ t z => XS.iload X.here hx rfl (hb hby hd) hl z
theorem Sit.iloadN {k : Fin 4} {v : Int32} (h : Sit p l e R s m args below meth c bs st n0 cells slots P pc L S) (hd : decode bs pc = .ok (.iload_n k, 1)) (hl : L[k.val]? = some (.val (.int v))) (hp : pc + 1 = pc') : Sit p l e R s m args below meth c bs st n0 cells slots P pc' L (.int v :: S) := by
  subst hp; exact h.go fun T _ _ _ X hx hby _ t z => XS.iloadN X.here hx rfl (hb hby hd) hl z
theorem Sit.lload {k : Nat} {v : Int64} (h : Sit p l e R s m args below meth c bs st n0 cells slots P pc L S) (hd : decode bs pc = .ok (.lload k, 2)) (hl : L[k]? = some (.val (.long v))) (hp : pc + 2 = pc') : Sit p l e R s m args below meth c bs st n0 cells slots P pc' L (.long v :: S) := by
  subst hp; exact h.go fun T _ _ _ X hx hby _ t z => XS.lload X.here hx rfl (hb hby hd) hl z
theorem Sit.lloadN {k : Fin 4} {v : Int64} (h : Sit p l e R s m args below meth c bs st n0 cells slots P pc L S) (hd : decode bs pc = .ok (.lload_n k, 1)) (hl : L[k.val]? = some (.val (.long v))) (hp : pc + 1 = pc') : Sit p l e R s m args below meth c bs st n0 cells slots P pc' L (.long v :: S) := by
  subst hp; exact h.go fun T _ _ _ X hx hby _ t z => XS.lloadN X.here hx rfl (hb hby hd) hl z
theorem Sit.aload {k : Nat} {v : Addr} (h : Sit p l e R s m args below meth c bs st n0 cells slots P pc L S) (hd : decode bs pc = .ok (.aload k, 2)) (hl : L[k]? = some (.val (.ref v))) (hp : pc + 2 = pc') : Sit p l e R s m args below meth c bs st n0 cells slots P pc' L (.ref v :: S) := by
  subst hp; exact h.go fun T _ _ _ X hx hby _ t z => XS.aload X.here hx rfl (hb hby hd) hl rfl z
theorem Sit.aloadN {k : Fin 4} {v : Addr} (h : Sit p l e R s m args below meth c bs st n0 cells slots P pc L S) (hd : decode bs pc = .ok (.aload_n k, 1)) (hl : L[k.val]? = some (.val (.ref v))) (hp : pc + 1 = pc') : Sit p l e R s m args below meth c bs st n0 cells slots P pc' L (.ref v :: S) := by
  subst hp; exact h.go fun T _ _ _ X hx hby _ t z => XS.aloadN X.here hx rfl (hb hby hd) hl rfl z
theorem Sit.istore {k : Nat} {v : Int32} (L' : Array Slot) (h : Sit p l e R s m args below meth c bs st n0 cells slots P pc L (.int v :: S)) (hd : decode bs pc = .ok (.istore k, 2)) (hl : storeLocals L k (.int v) = some L') (hp : pc + 2 = pc') : Sit p l e R s m args below meth c bs st n0 cells slots P pc' L' S := by
  subst hp; exact h.go fun T _ _ _ X hx hby _ t z => XS.istore X.here hx rfl (hb hby hd) rfl hl z
theorem Sit.istoreN {k : Fin 4} {v : Int32} (L' : Array Slot) (h : Sit p l e R s m args below meth c bs st n0 cells slots P pc L (.int v :: S)) (hd : decode bs pc = .ok (.istore_n k, 1)) (hl : storeLocals L k.val (.int v) = some L') (hp : pc + 1 = pc') : Sit p l e R s m args below meth c bs st n0 cells slots P pc' L' S := by
  subst hp; exact h.go fun T _ _ _ X hx hby _ t z => XS.istoreN X.here hx rfl (hb hby hd) rfl hl z
theorem Sit.lstore {k : Nat} {v : Int64} (L' : Array Slot) (h : Sit p l e R s m args below meth c bs st n0 cells slots P pc L (.long v :: S)) (hd : decode bs pc = .ok (.lstore k, 2)) (hl : storeLocals L k (.long v) = some L') (hp : pc + 2 = pc') : Sit p l e R s m args below meth c bs st n0 cells slots P pc' L' S := by
  subst hp; exact h.go fun T _ _ _ X hx hby _ t z => XS.lstore X.here hx rfl (hb hby hd) rfl hl z
theorem Sit.lstoreN {k : Fin 4} {v : Int64} (L' : Array Slot) (h : Sit p l e R s m args below meth c bs st n0 cells slots P pc L (.long v :: S)) (hd : decode bs pc = .ok (.lstore_n k, 1)) (hl : storeLocals L k.val (.long v) = some L') (hp : pc + 1 = pc') : Sit p l e R s m args below meth c bs st n0 cells slots P pc' L' S := by
  subst hp; exact h.go fun T _ _ _ X hx hby _ t z => XS.lstoreN X.here hx rfl (hb hby hd) rfl hl z
theorem Sit.astore {k : Nat} {v : Addr} (L' : Array Slot) (h : Sit p l e R s m args below meth c bs st n0 cells slots P pc L (.ref v :: S)) (hd : decode bs pc = .ok (.astore k, 2)) (hl : storeLocals L k (.ref v) = some L') (hp : pc + 2 = pc') : Sit p l e R s m args below meth c bs st n0 cells slots P pc' L' S := by
  subst hp; exact h.go fun T _ _ _ X hx hby _ t z => XS.astore X.here hx rfl (hb hby hd) rfl rfl hl z
theorem Sit.astoreN {k : Fin 4} {v : Addr} (L' : Array Slot) (h : Sit p l e R s m args below meth c bs st n0 cells slots P pc L (.ref v :: S)) (hd : decode bs pc = .ok (.astore_n k, 1)) (hl : storeLocals L k.val (.ref v) = some L') (hp : pc + 1 = pc') : Sit p l e R s m args below meth c bs st n0 cells slots P pc' L' S := by
  subst hp; exact h.go fun T _ _ _ X hx hby _ t z => XS.astoreN X.here hx rfl (hb hby hd) rfl rfl hl z
theorem Sit.iconst {i : Int} (v : Int32) (h : Sit p l e R s m args below meth c bs st n0 cells slots P pc L S) (hd : decode bs pc = .ok (.iconst i, 1)) (hv : Int32.ofInt i = v) (hp : pc + 1 = pc') : Sit p l e R s m args below meth c bs st n0 cells slots P pc' L (.int v :: S) := by
  subst hp hv; exact h.go fun T _ _ _ X hx hby _ t z => XS.iconst X.here hx rfl (hb hby hd) z
theorem Sit.bipush {i : Int} (v : Int32) (h : Sit p l e R s m args below meth c bs st n0 cells slots P pc L S) (hd : decode bs pc = .ok (.bipush i, 2)) (hv : (Int8.ofInt i).toInt32 = v) (hp : pc + 2 = pc') : Sit p l e R s m args below meth c bs st n0 cells slots P pc' L (.int v :: S) := by
  subst hp hv; exact h.go fun T _ _ _ X hx hby _ t z => XS.bipush X.here hx rfl (hb hby hd) z
theorem Sit.sipush {i : Int} (v : Int32) (h : Sit p l e R s m args below meth c bs st n0 cells slots P pc L S) (hd : decode bs pc = .ok (.sipush i, 3)) (hv : (Int16.ofInt i).toInt32 = v) (hp : pc + 3 = pc') : Sit p l e R s m args below meth c bs st n0 cells slots P pc' L (.int v :: S) := by
  subst hp hv; exact h.go fun T _ _ _ X hx hby _ t z => XS.sipush X.here hx rfl (hb hby hd) z
theorem Sit.lconst {k : Fin 2} (v : Int64) (h : Sit p l e R s m args below meth c bs st n0 cells slots P pc L S) (hd : decode bs pc = .ok (.lconst k, 1)) (hv : Int64.ofNat k = v) (hp : pc + 1 = pc') : Sit p l e R s m args below meth c bs st n0 cells slots P pc' L (.long v :: S) := by
  subst hp hv; exact h.go fun T _ _ _ X hx hby _ t z => XS.lconst X.here hx rfl (hb hby hd) z
theorem Sit.ldc {index : Nat} {v : Int32} (h : Sit p l e R s m args below meth c bs st n0 cells slots P pc L S) (hZ : Z.Warmed39 s.vm) (hown : s.vm.findClass own = some m.cls) (w : (Cond.constant own index v).before a0 Z = true) (hd : decode bs pc = .ok (.ldc index, 2)) (hp : pc + 2 = pc') : Sit p l e R s m args below meth c bs st n0 cells slots P pc' L (.int v :: S) := by
  subst hp; exact h.go fun T _ _ _ X hx hby _ t z => X.ldcInt hx hown (mvT hZ w) (g := mkF m pc L S) rfl (hb hby hd) t z
theorem Sit.ldcw {index : Nat} {v : Int32} (h : Sit p l e R s m args below meth c bs st n0 cells slots P pc L S) (hZ : Z.Warmed39 s.vm) (hown : s.vm.findClass own = some m.cls) (w : (Cond.constant own index v).before a0 Z = true) (hd : decode bs pc = .ok (.ldc_w index, 3)) (hp : pc + 3 = pc') : Sit p l e R s m args below meth c bs st n0 cells slots P pc' L (.int v :: S) := by
  subst hp; exact h.go fun T _ _ _ X hx hby _ t z => X.ldcwInt hx hown (mvT hZ w) (g := mkF m pc L S) rfl (hb hby hd) t z
theorem Sit.ldc2 {index : Nat} {v : Int64} (h : Sit p l e R s m args below meth c bs st n0 cells slots P pc L S) (hZ : Z.Warmed39 s.vm) (hown : s.vm.findClass own = some m.cls) (w : (Cond.constantLong own index v).before a0 Z = true) (hd : decode bs pc = .ok (.ldc2_w index, 3)) (hp : pc + 3 = pc') : Sit p l e R s m args below meth c bs st n0 cells slots P pc' L (.long v :: S) := by
  subst hp; exact h.go fun T _ _ _ X hx hby _ t z => X.ldc2Long hx hown (mvT hZ w) (g := mkF m pc L S) rfl (hb hby hd) t z
/-! Java's shifts on longs and >>> on ints -/
def ushr32 (x y : Int32) : Int32 := (x.toUInt32 >>> (y &&& 31).toUInt32).toInt32
def shl64 (x : Int64) (y : Int32) : Int64 := x <<< (y &&& 0x3f).toInt64
def ushr64 (x : Int64) (y : Int32) : Int64 := (x.toUInt64 >>> (y &&& 0x3f).toInt64.toUInt64).toInt64
def lcmp3 (x y : Int64) : Int32 := if x > y then 1 else if x = y then 0 else -1
theorem Sit.iadd {x : Int32} {y : Int32} (h : Sit p l e R s m args below meth c bs st n0 cells slots P pc L (.int y :: .int x :: S)) (hd : decode bs pc = .ok (.iadd, 1)) (hp : pc + 1 = pc') : Sit p l e R s m args below meth c bs st n0 cells slots P pc' L (.int (x + y) :: S) := by
  subst hp; exact h.go fun T _ _ _ X hx hby _ t z => XS.iadd X.here hx rfl (hb hby hd) rfl z
theorem Sit.isub {x : Int32} {y : Int32} (h : Sit p l e R s m args below meth c bs st n0 cells slots P pc L (.int y :: .int x :: S)) (hd : decode bs pc = .ok (.isub, 1)) (hp : pc + 1 = pc') : Sit p l e R s m args below meth c bs st n0 cells slots P pc' L (.int (x - y) :: S) := by
  subst hp; exact h.go fun T _ _ _ X hx hby _ t z => XS.isub X.here hx rfl (hb hby hd) rfl z
theorem Sit.imul {x : Int32} {y : Int32} (h : Sit p l e R s m args below meth c bs st n0 cells slots P pc L (.int y :: .int x :: S)) (hd : decode bs pc = .ok (.imul, 1)) (hp : pc + 1 = pc') : Sit p l e R s m args below meth c bs st n0 cells slots P pc' L (.int (x * y) :: S) := by
  subst hp; exact h.go fun T _ _ _ X hx hby _ t z => XS.imul X.here hx rfl (hb hby hd) rfl z
theorem Sit.iand {x : Int32} {y : Int32} (h : Sit p l e R s m args below meth c bs st n0 cells slots P pc L (.int y :: .int x :: S)) (hd : decode bs pc = .ok (.iand, 1)) (hp : pc + 1 = pc') : Sit p l e R s m args below meth c bs st n0 cells slots P pc' L (.int (x &&& y) :: S) := by
  subst hp; exact h.go fun T _ _ _ X hx hby _ t z => XS.iand X.here hx rfl (hb hby hd) rfl z
theorem Sit.ior {x : Int32} {y : Int32} (h : Sit p l e R s m args below meth c bs st n0 cells slots P pc L (.int y :: .int x :: S)) (hd : decode bs pc = .ok (.ior, 1)) (hp : pc + 1 = pc') : Sit p l e R s m args below meth c bs st n0 cells slots P pc' L (.int (x ||| y) :: S) := by
  subst hp; exact h.go fun T _ _ _ X hx hby _ t z => XS.ior X.here hx rfl (hb hby hd) rfl z
theorem Sit.ixor {x : Int32} {y : Int32} (h : Sit p l e R s m args below meth c bs st n0 cells slots P pc L (.int y :: .int x :: S)) (hd : decode bs pc = .ok (.ixor, 1)) (hp : pc + 1 = pc') : Sit p l e R s m args below meth c bs st n0 cells slots P pc' L (.int (x ^^^ y) :: S) := by
  subst hp; exact h.go fun T _ _ _ X hx hby _ t z => XS.ixor X.here hx rfl (hb hby hd) rfl z
theorem Sit.ishl {x : Int32} {y : Int32} (h : Sit p l e R s m args below meth c bs st n0 cells slots P pc L (.int y :: .int x :: S)) (hd : decode bs pc = .ok (.ishl, 1)) (hp : pc + 1 = pc') : Sit p l e R s m args below meth c bs st n0 cells slots P pc' L (.int (x <<< (y &&& 31)) :: S) := by
  subst hp; exact h.go fun T _ _ _ X hx hby _ t z => XS.ishl X.here hx rfl (hb hby hd) rfl z
theorem Sit.ishr {x : Int32} {y : Int32} (h : Sit p l e R s m args below meth c bs st n0 cells slots P pc L (.int y :: .int x :: S)) (hd : decode bs pc = .ok (.ishr, 1)) (hp : pc + 1 = pc') : Sit p l e R s m args below meth c bs st n0 cells slots P pc' L (.int (x >>> (y &&& 31)) :: S) := by
  subst hp; exact h.go fun T _ _ _ X hx hby _ t z => XS.ishr X.here hx rfl (hb hby hd) rfl z
theorem Sit.iushr {x : Int32} {y : Int32} (h : Sit p l e R s m args below meth c bs st n0 cells slots P pc L (.int y :: .int x :: S)) (hd : decode bs pc = .ok (.iushr, 1)) (hp : pc + 1 = pc') : Sit p l e R s m args below meth c bs st n0 cells slots P pc' L (.int (ushr32 x y) :: S) := by
  subst hp; exact h.go fun T _ _ _ X hx hby _ t z => XS.iushr X.here hx rfl (hb hby hd) rfl z
theorem Sit.ladd {x : Int64} {y : Int64} (h : Sit p l e R s m args below meth c bs st n0 cells slots P pc L (.long y :: .long x :: S)) (hd : decode bs pc = .ok (.ladd, 1)) (hp : pc + 1 = pc') : Sit p l e R s m args below meth c bs st n0 cells slots P pc' L (.long (x + y) :: S) := by
  subst hp; exact h.go fun T _ _ _ X hx hby _ t z => XS.ladd X.here hx rfl (hb hby hd) rfl z
theorem Sit.lsub {x : Int64} {y : Int64} (h : Sit p l e R s m args below meth c bs st n0 cells slots P pc L (.long y :: .long x :: S)) (hd : decode bs pc = .ok (.lsub, 1)) (hp : pc + 1 = pc') : Sit p l e R s m args below meth c bs st n0 cells slots P pc' L (.long (x - y) :: S) := by
  subst hp; exact h.go fun T _ _ _ X hx hby _ t z => XS.lsub X.here hx rfl (hb hby hd) rfl z
theorem Sit.lmul {x : Int64} {y : Int64} (h : Sit p l e R s m args below meth c bs st n0 cells slots P pc L (.long y :: .long x :: S)) (hd : decode bs pc = .ok (.lmul, 1)) (hp : pc + 1 = pc') : Sit p l e R s m args below meth c bs st n0 cells slots P pc' L (.long (x * y) :: S) := by
  subst hp; exact h.go fun T _ _ _ X hx hby _ t z => XS.lmul X.here hx rfl (hb hby hd) rfl z
theorem Sit.land {x : Int64} {y : Int64} (h : Sit p l e R s m args below meth c bs st n0 cells slots P pc L (.long y :: .long x :: S)) (hd : decode bs pc = .ok (.land, 1)) (hp : pc + 1 = pc') : Sit p l e R s m args below meth c bs st n0 cells slots P pc' L (.long (x &&& y) :: S) := by
  subst hp; exact h.go fun T _ _ _ X hx hby _ t z => XS.land X.here hx rfl (hb hby hd) rfl z
theorem Sit.lor {x : Int64} {y : Int64} (h : Sit p l e R s m args below meth c bs st n0 cells slots P pc L (.long y :: .long x :: S)) (hd : decode bs pc = .ok (.lor, 1)) (hp : pc + 1 = pc') : Sit p l e R s m args below meth c bs st n0 cells slots P pc' L (.long (x ||| y) :: S) := by
  subst hp; exact h.go fun T _ _ _ X hx hby _ t z => XS.lor X.here hx rfl (hb hby hd) rfl z
theorem Sit.lxor {x : Int64} {y : Int64} (h : Sit p l e R s m args below meth c bs st n0 cells slots P pc L (.long y :: .long x :: S)) (hd : decode bs pc = .ok (.lxor, 1)) (hp : pc + 1 = pc') : Sit p l e R s m args below meth c bs st n0 cells slots P pc' L (.long (x ^^^ y) :: S) := by
  subst hp; exact h.go fun T _ _ _ X hx hby _ t z => XS.lxor X.here hx rfl (hb hby hd) rfl z
theorem Sit.lshl {x : Int64} {y : Int32} (h : Sit p l e R s m args below meth c bs st n0 cells slots P pc L (.int y :: .long x :: S)) (hd : decode bs pc = .ok (.lshl, 1)) (hp : pc + 1 = pc') : Sit p l e R s m args below meth c bs st n0 cells slots P pc' L (.long (shl64 x y) :: S) := by
  subst hp; exact h.go fun T _ _ _ X hx hby _ t z => XS.lshl X.here hx rfl (hb hby hd) rfl z
theorem Sit.lushr {x : Int64} {y : Int32} (h : Sit p l e R s m args below meth c bs st n0 cells slots P pc L (.int y :: .long x :: S)) (hd : decode bs pc = .ok (.lushr, 1)) (hp : pc + 1 = pc') : Sit p l e R s m args below meth c bs st n0 cells slots P pc' L (.long (ushr64 x y) :: S) := by
  subst hp; exact h.go fun T _ _ _ X hx hby _ t z => XS.lushr X.here hx rfl (hb hby hd) rfl z
theorem Sit.lcmp {x : Int64} {y : Int64} (h : Sit p l e R s m args below meth c bs st n0 cells slots P pc L (.long y :: .long x :: S)) (hd : decode bs pc = .ok (.lcmp, 1)) (hp : pc + 1 = pc') : Sit p l e R s m args below meth c bs st n0 cells slots P pc' L (.int (lcmp3 x y) :: S) := by
  subst hp; exact h.go fun T _ _ _ X hx hby _ t z => XS.lcmp X.here hx rfl (hb hby hd) rfl z
theorem Sit.i2l {x : Int32} (h : Sit p l e R s m args below meth c bs st n0 cells slots P pc L (.int x :: S)) (hd : decode bs pc = .ok (.i2l, 1)) (hp : pc + 1 = pc') : Sit p l e R s m args below meth c bs st n0 cells slots P pc' L (.long (x.toInt64) :: S) := by
  subst hp; exact h.go fun T _ _ _ X hx hby _ t z => XS.i2l X.here hx rfl (hb hby hd) rfl z
theorem Sit.l2i {x : Int64} (h : Sit p l e R s m args below meth c bs st n0 cells slots P pc L (.long x :: S)) (hd : decode bs pc = .ok (.l2i, 1)) (hp : pc + 1 = pc') : Sit p l e R s m args below meth c bs st n0 cells slots P pc' L (.int (x.toInt32) :: S) := by
  subst hp; exact h.go fun T _ _ _ X hx hby _ t z => XS.l2i X.here hx rfl (hb hby hd) rfl z
theorem Sit.i2b {x : Int32} (h : Sit p l e R s m args below meth c bs st n0 cells slots P pc L (.int x :: S)) (hd : decode bs pc = .ok (.i2b, 1)) (hp : pc + 1 = pc') : Sit p l e R s m args below meth c bs st n0 cells slots P pc' L (.int (x.toInt8.toInt32) :: S) := by
  subst hp; exact h.go fun T _ _ _ X hx hby _ t z => XS.i2b X.here hx rfl (hb hby hd) rfl z
theorem Sit.ineg {x : Int32} (h : Sit p l e R s m args below meth c bs st n0 cells slots P pc L (.int x :: S)) (hd : decode bs pc = .ok (.ineg, 1)) (hp : pc + 1 = pc') : Sit p l e R s m args below meth c bs st n0 cells slots P pc' L (.int (-x) :: S) := by
  subst hp; exact h.go fun T _ _ _ X hx hby _ t z => XS.ineg X.here hx rfl (hb hby hd) rfl z
theorem Sit.idiv {x y : Int32} (h : Sit p l e R s m args below meth c bs st n0 cells slots P pc L (.int y :: .int x :: S)) (hd : decode bs pc = .ok (.idiv, 1)) (hy : y ≠ 0) (hp : pc + 1 = pc') : Sit p l e R s m args below meth c bs st n0 cells slots P pc' L (.int (x / y) :: S) := by
  subst hp; exact h.go fun T _ _ _ X hx hby _ t z => XS.idiv X.here hx rfl (hb hby hd) rfl hy z
theorem Sit.irem {x y : Int32} (h : Sit p l e R s m args below meth c bs st n0 cells slots P pc L (.int y :: .int x :: S)) (hd : decode bs pc = .ok (.irem, 1)) (hy : y ≠ 0) (hp : pc + 1 = pc') : Sit p l e R s m args below meth c bs st n0 cells slots P pc' L (.int (x % y) :: S) := by
  subst hp; exact h.go fun T _ _ _ X hx hby _ t z => iremM X hx rfl (hb hby hd) rfl hy z
theorem Sit.lrem {x y : Int64} (h : Sit p l e R s m args below meth c bs st n0 cells slots P pc L (.long y :: .long x :: S)) (hd : decode bs pc = .ok (.lrem, 1)) (hy : y ≠ 0) (hp : pc + 1 = pc') : Sit p l e R s m args below meth c bs st n0 cells slots P pc' L (.long (x % y) :: S) := by
  subst hp; rw [← lrem_mod]; exact h.go fun T _ _ _ X hx hby _ t z => XS.lrem X.here hx rfl (hb hby hd) rfl hy z
theorem Sit.iinc {k : Nat} {i : Int} {x : Int32} (v : Int32) (L' : Array Slot) (h : Sit p l e R s m args below meth c bs st n0 cells slots P pc L S) (hd : decode bs pc = .ok (.iinc k i, 3)) (hl : L[k]? = some (.val (.int x))) (hv : x + Int32.ofInt i = v) (hl' : storeLocals L k (.int v) = some L') (hp : pc + 3 = pc') : Sit p l e R s m args below meth c bs st n0 cells slots P pc' L' S := by
  subst hp hv; exact h.go fun T _ _ _ X hx hby _ t z => XS.iinc X.here hx rfl (hb hby hd) hl hl' z
theorem Sit.dup {x : Value} (h : Sit p l e R s m args below meth c bs st n0 cells slots P pc L (x :: S)) (hd : decode bs pc = .ok (.dup, 1)) (hc : x.category = 1) (hp : pc + 1 = pc') : Sit p l e R s m args below meth c bs st n0 cells slots P pc' L (x :: x :: S) := by
  subst hp; exact h.go fun T _ _ _ X hx hby _ t z => XS.dup X.here hx rfl (hb hby hd) rfl hc z
theorem Sit.dupX1 {x y : Value} (h : Sit p l e R s m args below meth c bs st n0 cells slots P pc L (x :: y :: S)) (hd : decode bs pc = .ok (.dup_x1, 1)) (hc : x.category = 1) (hc' : y.category = 1) (hp : pc + 1 = pc') : Sit p l e R s m args below meth c bs st n0 cells slots P pc' L (x :: y :: x :: S) := by
  subst hp; exact h.go fun T _ _ _ X hx hby _ t z => XS.dupX1 X.here hx rfl (hb hby hd) rfl hc hc' z
theorem Sit.dup2 {x y : Value} (h : Sit p l e R s m args below meth c bs st n0 cells slots P pc L (x :: y :: S)) (hd : decode bs pc = .ok (.dup2, 1)) (hc : x.category = 1) (hc' : y.category = 1) (hp : pc + 1 = pc') : Sit p l e R s m args below meth c bs st n0 cells slots P pc' L (x :: y :: x :: y :: S) := by
  subst hp; exact h.go fun T _ _ _ X hx hby _ t z => Jvm.Free.XT.dup2 X.here hx rfl (hb hby hd) rfl hc hc' z
theorem Sit.pop {x : Value} (h : Sit p l e R s m args below meth c bs st n0 cells slots P pc L (x :: S)) (hd : decode bs pc = .ok (.pop, 1)) (hc : x.category = 1) (hp : pc + 1 = pc') : Sit p l e R s m args below meth c bs st n0 cells slots P pc' L S := by
  subst hp; exact h.go fun T _ _ _ X hx hby _ t z => XS.pop X.here hx rfl (hb hby hd) rfl hc z
theorem Sit.goto {o : Int} (h : Sit p l e R s m args below meth c bs st n0 cells slots P pc L S) (hd : decode bs pc = .ok (.goto o, 3)) (ho : 0 ≤ (pc : Int) + o) (hp : ((pc : Int) + o).toNat = pc') : Sit p l e R s m args below meth c bs st n0 cells slots P pc' L S :=
  h.go fun T _ _ _ X hx hby _ t z => XS.goto X.here hx rfl (pc0 := pc) rfl (hb hby hd) ho hp z
theorem Sit.ifY {cd : ClassFile.Cond} {x : Int32} {o : Int} (h : Sit p l e R s m args below meth c bs st n0 cells slots P pc L (.int x :: S)) (hd : decode bs pc = .ok (.ifCond cd o, 3)) (hc : if_icmp.holds cd x 0 = true) (ho : 0 ≤ (pc : Int) + o) (hp : ((pc : Int) + o).toNat = pc') : Sit p l e R s m args below meth c bs st n0 cells slots P pc' L S :=
  h.go fun T _ _ _ X hx hby _ t z => XS.ifYes X.here hx rfl (pc0 := pc) rfl (hb hby hd) rfl ((if0 _ _).trans hc) ho hp z
theorem Sit.ifN {cd : ClassFile.Cond} {x : Int32} {o : Int} (h : Sit p l e R s m args below meth c bs st n0 cells slots P pc L (.int x :: S)) (hd : decode bs pc = .ok (.ifCond cd o, 3)) (hc : if_icmp.holds cd x 0 = false) (hp : pc + 3 = pc') : Sit p l e R s m args below meth c bs st n0 cells slots P pc' L S := by
  subst hp; exact h.go fun T _ _ _ X hx hby _ t z => XS.ifNo X.here hx rfl (hb hby hd) rfl ((if0 _ _).trans hc) z
theorem Sit.icmpY {cd : ClassFile.Cond} {x y : Int32} {o : Int} (h : Sit p l e R s m args below meth c bs st n0 cells slots P pc L (.int y :: .int x :: S)) (hd : decode bs pc = .ok (.if_icmp cd o, 3)) (hc : if_icmp.holds cd x y = true) (ho : 0 ≤ (pc : Int) + o) (hp : ((pc : Int) + o).toNat = pc') : Sit p l e R s m args below meth c bs st n0 cells slots P pc' L S :=
  h.go fun T _ _ _ X hx hby _ t z => XS.icmpYes X.here hx rfl (pc0 := pc) rfl (hb hby hd) rfl hc ho hp z
theorem Sit.icmpN {cd : ClassFile.Cond} {x y : Int32} {o : Int} (h : Sit p l e R s m args below meth c bs st n0 cells slots P pc L (.int y :: .int x :: S)) (hd : decode bs pc = .ok (.if_icmp cd o, 3)) (hc : if_icmp.holds cd x y = false) (hp : pc + 3 = pc') : Sit p l e R s m args below meth c bs st n0 cells slots P pc' L S := by
  subst hp; exact h.go fun T _ _ _ X hx hby _ t z => XS.icmpNo X.here hx rfl (hb hby hd) rfl hc z
/-! comparisons as facts on whole numbers -/
def cmpP : ClassFile.Cond → Int32 → Int32 → Prop
  | .eq, x, y => x.toInt = y.toInt
  | .ne, x, y => x.toInt ≠ y.toInt
  | .lt, x, y => x.toInt < y.toInt
  | .ge, x, y => y.toInt ≤ x.toInt
  | .gt, x, y => y.toInt < x.toInt
  | .le, x, y => x.toInt ≤ y.toInt
theorem cmpP_holds (cd : ClassFile.Cond) (x y : Int32) : if_icmp.holds cd x y = true ↔ cmpP cd x y := by
  cases cd <;> simp [if_icmp.holds, cmpP, Int32.lt_iff_toInt_lt, Int32.le_iff_toInt_le, Int32.toInt_inj]
theorem cmpT {cd : ClassFile.Cond} {x y : Int32} (h : cmpP cd x y) : if_icmp.holds cd x y = true := (cmpP_holds cd x y).mpr h
theorem cmpF {cd : ClassFile.Cond} {x y : Int32} (h : ¬ cmpP cd x y) : if_icmp.holds cd x y = false := by
  rw [← Bool.not_eq_true, cmpP_holds]; exact h
def cmpZ : ClassFile.Cond → Int32 → Prop
  | .eq, x => x.toInt = 0
  | .ne, x => x.toInt ≠ 0
  | .lt, x => x.toInt < 0
  | .ge, x => 0 ≤ x.toInt
  | .gt, x => 0 < x.toInt
  | .le, x => x.toInt ≤ 0
theorem cmpT0 {cd : ClassFile.Cond} {x : Int32} (h : cmpZ cd x) : if_icmp.holds cd x 0 = true := cmpT (by cases cd <;> exact h)
theorem cmpF0 {cd : ClassFile.Cond} {x : Int32} (h : ¬ cmpZ cd x) : if_icmp.holds cd x 0 = false := cmpF (by cases cd <;> exact h)
def cmpJ : ClassFile.Cond → Int64 → Int64 → Prop
  | .eq, x, y => x = y
  | .ne, x, y => ¬ x = y
  | .lt, x, y => x.toInt < y.toInt
  | .ge, x, y => y.toInt ≤ x.toInt
  | .gt, x, y => y.toInt < x.toInt
  | .le, x, y => x.toInt ≤ y.toInt
theorem lc_iff (cd : ClassFile.Cond) (x y : Int64) : if_icmp.holds cd (lcmp3 x y) 0 = true ↔ cmpJ cd x y := by
  rw [cmpP_holds]
  obtain ⟨h1, h2, h3⟩ := c_lcmp x y
  have e : lcmp3 x y = lcmpW x y := rfl
  rw [e]
  have z : (0 : Int32).toInt = 0 := rfl
  have q : x = y ↔ x.toInt = y.toInt := Int64.toInt_inj.symm
  rcases Int.lt_trichotomy x.toInt y.toInt with h | h | h
  · have := h1 h; cases cd <;> simp only [cmpP, cmpJ, z, q] <;> omega
  · have := h2 h; cases cd <;> simp only [cmpP, cmpJ, z, q] <;> omega
  · have := h3 h; cases cd <;> simp only [cmpP, cmpJ, z, q] <;> omega
theorem lcT {cd : ClassFile.Cond} {x y : Int64} (h : cmpJ cd x y) : if_icmp.holds cd (lcmp3 x y) 0 = true := (lc_iff cd x y).mpr h
theorem lcF {cd : ClassFile.Cond} {x y : Int64} (h : ¬ cmpJ cd x y) : if_icmp.holds cd (lcmp3 x y) 0 = false := by
  rw [← Bool.not_eq_true, lc_iff]; exact h
theorem eqT {x y : Int32} (h : x = y) : if_icmp.holds .eq x y = true := (teq h).1
theorem eqF {x y : Int32} (h : ¬ x = y) : if_icmp.holds .eq x y = false := (feq h).1
theorem neT {x y : Int32} (h : ¬ x = y) : if_icmp.holds .ne x y = true := (feq h).2
theorem neF {x y : Int32} (h : x = y) : if_icmp.holds .ne x y = false := (teq h).2
/-! leaving -/
def Out (p : Program) (e : Env) (below : List Frame) (s st : State) (n0 cells slots : Nat) (Q : Option Value → Heap → Prop) : Prop :=
  ∃ s₂ o, Steps p.tables e below st s₂ ∧ s₂.status = .running ∧ Ended s₂ below o ∧ ∃ v L, o = .returned v ∧ (Fr n0 L ∧ Q v s₂.heap) ∧ FrameEnd s o s₂ L cells slots
theorem Out.mk {T : State} {locs : List Loc} {k n : Nat} {v : Option Value} {Q : Option Value → Heap → Prop} (X : Stand p l e R s m args below meth c T locs k n) (q1 : k ≤ cells) (q2 : n ≤ slots) (q3 : Fr n0 locs) (hQ : Q v T.heap) (hv : meth.sig.returnType = none → v = none) (hlk : meth.locks = false)
    (hst : ∀ fs : List Frame, (∀ (f : JFrame) (acts : List Action), f.method = m → f.locked = none → f.entered = [] → (doReturn e (T.setTop f) acts v).1 = T.setFrames fs) → Steps p.tables e below st (T.setFrames fs)) : Out p e below s st n0 cells slots Q := by
  obtain ⟨fs, hr, hrun, hended, hW, hsame⟩ := X.leave (v := v) hv hlk
  exact ⟨_, _, hst fs hr, hrun, hended, _, _, rfl, ⟨q3, hQ⟩, ⟨_, rfl⟩, hW, hsame.mono q1 q2⟩
theorem Sit.retI {z : Int32} {Q : Option Value → Heap → Prop} (h : Sit p l e R s m args below meth c bs st n0 cells slots P pc L (.int z :: S)) (hd : decode bs pc = .ok (.ireturn, 1)) (hret : meth.sig.returnType = some .int) (hlk : meth.locks = false) (hQ : ∀ hh, P hh → Q (some (.int z)) hh) : Out p e below s st n0 cells slots Q := by
  obtain ⟨T, locs, k, n, X, q1, q2, q3, q4, q5, hx, hby, q⟩ := h
  exact Out.mk X q1 q2 q3 (hQ _ q5) (fun h => by rw [hret] at h; cases h) hlk fun fs hr => q _ (Jvm.RoadKit.retI X hx hret (hb hby hd) hr)
theorem Sit.retZ {z : Int32} {Q : Option Value → Heap → Prop} (h : Sit p l e R s m args below meth c bs st n0 cells slots P pc L (.int z :: S)) (hd : decode bs pc = .ok (.ireturn, 1)) (hret : meth.sig.returnType = some .boolean) (hlk : meth.locks = false) (hQ : ∀ hh, P hh → Q (some (.int (z &&& 1))) hh) : Out p e below s st n0 cells slots Q := by
  obtain ⟨T, locs, k, n, X, q1, q2, q3, q4, q5, hx, hby, q⟩ := h
  exact Out.mk X q1 q2 q3 (hQ _ q5) (fun h => by rw [hret] at h; cases h) hlk fun fs hr => q _ (retN X hx (t := .boolean) hret (by simp) (hb hby hd) hr)
theorem Sit.retJ {z : Int64} {Q : Option Value → Heap → Prop} (h : Sit p l e R s m args below meth c bs st n0 cells slots P pc L [.long z]) (hd : decode bs pc = .ok (.lreturn, 1)) (hret : meth.sig.returnType = some .long) (hlk : meth.locks = false) (hQ : ∀ hh, P hh → Q (some (.long z)) hh) : Out p e below s st n0 cells slots Q := by
  obtain ⟨T, locs, k, n, X, q1, q2, q3, q4, q5, hx, hby, q⟩ := h
  exact Out.mk X q1 q2 q3 (hQ _ q5) (fun h => by rw [hret] at h; cases h) hlk fun fs hr => q _ (X.lreturnOut hx hret (hb hby hd) hr)
theorem Sit.retV {Q : Option Value → Heap → Prop} (h : Sit p l e R s m args below meth c bs st n0 cells slots P pc L []) (hd : decode bs pc = .ok (.return_, 1)) (hret : meth.sig.returnType = none) (hlk : meth.locks = false) (hQ : ∀ hh, P hh → Q none hh) : Out p e below s st n0 cells slots Q := by
  obtain ⟨T, locs, k, n, X, q1, q2, q3, q4, q5, hx, hby, q⟩ := h
  exact Out.mk X q1 q2 q3 (hQ _ q5) (fun _ => rfl) hlk fun fs hr => q _ (X.returnOut hx hret (hb hby hd) hr)
theorem Sit.retA {z : Addr} {t : FieldType} {Q : Option Value → Heap → Prop} (h : Sit p l e R s m args below meth c bs st n0 cells slots P pc L [.ref z]) (hd : decode bs pc = .ok (.areturn, 1)) (hret : meth.sig.returnType = some t) (ht : t.isReference = true) (hlk : meth.locks = false) (hQ : ∀ hh, P hh → Q (some (.ref z)) hh) : Out p e below s st n0 cells slots Q := by
  obtain ⟨T, locs, k, n, X, q1, q2, q3, q4, q5, hx, hby, q⟩ := h
  exact Out.mk X q1 q2 q3 (hQ _ q5) (fun h => by rw [hret] at h; cases h) hlk fun fs hr => q _ (X.areturnOut hx rfl hret ht (hb hby hd) hr)
/-! a method's contract -/
abbrev Met1 (l : Launch) (y : MethodName) (bytes : ByteArray) (maxL : Nat) (ret : Option FieldType) (ws : List Jvm.Cond) (rm : Room) (Z : State) (as : Array Value) (h0 : Heap) (n0 : Nat) (Q : Option Value → Heap → Prop) : Prop :=
  MetFree l y (head1 (Jvm.Cond.code y bytes maxL ret :: ws) rm) (fun a U => a = as ∧ Z.Warmed39 U.vm ∧ U.heap = h0) (fun _ _ _ _ _ => True) (fun _ U o U' => ∃ v L, o = .returned v ∧ (Fr n0 L ∧ Q v U'.heap) ∧ FrameEnd U o U' L rm.cells rm.slots)
theorem Met1.of {y : MethodName} {bytes : ByteArray} {maxL : Nat} {ret : Option FieldType} {ws : List Jvm.Cond} {rm : Room} {as : Array Value} {h0 : Heap} {Q : Option Value → Heap → Prop} {L0 : Array Slot} (hpn : plainFor y = true) (hef : ∀ m, entryFrame m as maxL = mkF m 0 L0 []) (Z0 : n0 ≤ h0.size)
    (body : ∀ p e s m below meth c st, Sit p l e rm s m as below meth c bytes st n0 0 0 (fun h => h = h0) 0 L0 [] → Z.Warmed39 s.vm → s.vm.findClass y.cls = some m.cls → meth.sig.returnType = ret → meth.locks = false → meth.name = y.name → c.maxLocals = maxL → Out p e below s st n0 rm.cells rm.slots Q) : Met1 l y bytes maxL ret ws rm Z as h0 n0 Q := by
  refine MetFree.of_bodySF hpn hisR ?_
  intro p e s m args below meth c s₁ Bd hml0 hP hK
  obtain ⟨rfl, hZ, hh⟩ := hP
  have e0 : s₁.heap = h0 := by rw [← hh, Bd.state]; rfl
  exact body p e s m below meth c _ ⟨s₁, [], 0, 0, Stand.of_body Bd, Nat.le_refl _, Nat.le_refl _, Fr.nil n0, by rw [hh]; exact Z0, e0, Bd.exec, Bd.bytes, fun t k => castTop (hef m) k⟩ hZ (findClass_of_methodNamed Bd.named) Bd.returns Bd.notSynchronized (name_of_methodNamed Bd.named Bd.method).1 hml0
theorem Met1.mono {y : MethodName} {bytes : ByteArray} {maxL : Nat} {ret : Option FieldType} {ws : List Jvm.Cond} {rm : Room} {as : Array Value} {h0 : Heap} {Q Q' : Option Value → Heap → Prop} (h : Met1 l y bytes maxL ret ws rm Z as h0 n0 Q) (f : ∀ v hh, Q v hh → Q' v hh) : Met1 l y bytes maxL ret ws rm Z as h0 n0 Q' := by
  intro p e ha hc hk s m args below hf happ hP hK
  obtain ⟨n, o, h1, h2, h3, v, L, h4, ⟨h5, h6⟩, h7⟩ := h p e ha hc hk s m args below hf happ hP hK
  exact ⟨n, o, h1, h2, h3, v, L, h4, ⟨h5, f _ _ h6⟩, h7⟩
/-! a static call by its contract -/
theorem Sit.callS {index : Nat} {y : MethodName} {bytes : ByteArray} {maxL maxO : Nat} {ret : Option FieldType} {rm : Room} {Q : Option Value → Heap → Prop} {W : Nat} (argsL rest : List Value) (h : Sit p l e R s m args below meth c bs st n0 cells slots P pc L (argsL.reverse ++ rest)) (hZ : Z.Warmed39 s.vm) (hown : s.vm.findClass own = some m.cls)
    (w1 : (Cond.methodLink own index y).before a0 Z = true) (w2 : (Cond.static y).before a0 Z = true) (w3 : (Cond.initialized y.cls).before a0 Z = true) (w4 : (Cond.code y bytes maxL ret).before a0 Z = true) (hy : y.cls ≠ "java/lang/invoke/MethodHandle" ∧ y.cls ≠ "java/lang/invoke/VarHandle")
    (hM : ∀ h0, P h0 → n0 ≤ h0.size → Met1 l y bytes maxL ret [] rm Z argsL.toArray h0 n0 Q) (hml : c.maxLocals = maxO) (hsz : L.size = maxO) (hlen : ∀ sig, parseMethodDescriptor y.desc = some sig → argsL.length = sig.parameters.length) (hd : decode bs pc = .ok (.invokestatic index, 3)) (hW : 2 * 0 + (rest.map fun v => v.category).sum ≤ W)
    (hf : rm.frames + 1 ≤ R.frames) (hl : W + (maxL + 11) + rm.locals ≤ R.locals) (hcl : cells + rm.cells ≤ R.cells) (hsl : slots + rm.slots ≤ R.slots) (hp : pc + 3 = pc') :
    ∃ v : Option Value, Sit p l e R s m args below meth c bs st n0 (cells + rm.cells) (slots + rm.slots) (fun hh => Q v hh) pc' L (v.toList ++ rest) := by
  subst hp
  obtain ⟨T, locs, k, n, X, q1, q2, q3, q4, q5, hx, hby, q⟩ := h
  obtain ⟨v, _, ⟨T2, L2, k2, n2⟩, -, X2, ⟨Lc2, ⟨hN2, hQ2⟩, l2, y2, z2⟩, st2⟩ := Jvm.LawKit.callS X hx (y := y) hown (mvT hZ w1) (mvT hZ w2) (mvT hZ w3) (mvT hZ w4) hy (backOf (W := W) (Q := fun v hh L => Fr n0 L ∧ Q v hh) (hM T.heap q5 (Nat.le_trans q4 X.same.2.1)) hZ w4 w3 hf hl) (g := mkF m pc L (argsL.reverse ++ rest)) rfl (by rw [hml]; exact hsz) (argsL := argsL) (rest := rest) hlen rfl hW (hb hby hd) (fun _ _ => ⟨rfl, rfl, Nat.le_trans (Nat.add_le_add_right q1 _) hcl, Nat.le_trans (Nat.add_le_add_right q2 _) hsl⟩)
  dsimp only [Pt.U, Pt.locs, Pt.cells, Pt.slots] at X2 l2 y2 z2 st2 hQ2
  subst l2 y2 z2
  exact ⟨v, T2, _, _, _, X2, Nat.add_le_add_right q1 _, Nat.add_le_add_right q2 _, Fr.app q3 hN2, q4, hQ2, hx, hby, fun t z => q t (st2 t z)⟩
end OwnKit

section OwnHeap
variable {p : Program} {l : Launch} {e : Env} {R : Room} {s : State} {m : MethodId} {args : Array Value} {below : List Frame} {meth : Method} {c : Code} {bs : ByteArray} {st : State} {n0 cells slots : Nat} {P P' : Heap → Prop} {pc pc' : Nat} {L L' : Array Slot} {S S' : List Value} {Z : State} {a0 : Array Value} {own : String} {hh hh' : Heap} {a b : Addr} {ty : FieldType} {vs : List Value} {v w : Value} {j : Nat}
/-- an array and its components -/
def AV (Z : State) (h : Heap) (a : Addr) (ty : FieldType) (vs : List Value) : Prop := ∃ cl : Cell, Arr Z h a cl ty ∧ cl.slots.toList = vs
theorem AV.lt (A : AV Z hh a ty vs) : a < hh.size := by obtain ⟨cl, A, -⟩ := A; exact A.lt
theorem AV.ext (A : AV Z hh a ty vs) (E : Ext hh hh') : AV Z hh' a ty vs := by obtain ⟨cl, A, r⟩ := A; exact ⟨cl, A.ext E, r⟩
theorem AV.other (A : AV Z hh a ty vs) (X : Wr hh hh' b j v) (q : a ≠ b) : AV Z hh' a ty vs := by obtain ⟨cl, A, r⟩ := A; exact ⟨cl, A.other X q, r⟩
theorem AV.keep {ws : List Addr} (A : AV Z hh a ty vs) (K : Keep hh hh' ws) (q : a ∉ ws) : AV Z hh' a ty vs := by obtain ⟨cl, A, r⟩ := A; exact ⟨cl, ⟨K.2.1 a cl A.1 q, A.2⟩, r⟩
theorem AV.set (A : AV Z hh a ty vs) (X : Wr hh hh' a j v) : AV Z hh' a ty (vs.set j v) := by
  obtain ⟨cl, A, rfl⟩ := A
  exact ⟨_, A.same X, by simp [Cell.setSlot]⟩
theorem AV.new {k : ClassId} {n : Int32} (A : Arr Z hh a (newA k ty n) ty) : AV Z hh a ty (List.replicate n.toNatClampNeg (defaultValue ty)) := ⟨_, A, by simp [newA]⟩
theorem AV.uniq {us : List Value} (A : AV Z hh a ty vs) (B : AV Z hh a ty us) : vs = us := by
  obtain ⟨c1, A, rfl⟩ := A
  obtain ⟨c2, B, rfl⟩ := B
  cases A.1.symm.trans B.1; rfl
theorem clamp_of {x : Int32} {i : Nat} (h : x.toInt = (i : Int)) : x.toNatClampNeg = i := by
  show x.toInt.toNat = i
  omega
theorem nlt0 {x : Int32} (h : 0 ≤ x.toInt) : ¬ x < 0 := by rw [Int32.lt_iff_toInt_lt]; show ¬ x.toInt < 0; omega
theorem AV.inb {cl : Cell} {x : Int32} (hx : 0 ≤ x.toInt) (r : cl.slots.toList = vs) (h : x.toNatClampNeg < vs.length) : ¬ (x < 0 ∨ cl.slots.size ≤ x.toNatClampNeg) := by
  rintro (q | q)
  · exact nlt0 hx q
  · subst r; simp at h; omega
theorem Sit.alen {n : Nat} (v : Int32) (h : Sit p l e R s m args below meth c bs st n0 cells slots P pc L (.ref a :: S)) (hZ : Z.Warmed39 s.vm) (hP : ∀ hh, P hh → ∃ vs, AV Z hh a ty vs ∧ vs.length = n) (hd : decode bs pc = .ok (.arraylength, 1)) (hv : n.toInt32 = v) (hp : pc + 1 = pc') : Sit p l e R s m args below meth c bs st n0 cells slots P pc' L (.int v :: S) := by
  subst hp hv
  refine h.go fun T _ _ _ X hx hby hT t z => ?_
  obtain ⟨vs, ⟨cl, A, r⟩, rfl⟩ := hP _ hT
  refine X.arraylength hx A.1 (State.isArrayOf_alike hZ.alike A.2.1) (g := mkF m pc L (.ref a :: S)) rfl rfl (hb hby hd) t ?_
  have e : cl.slots.size = vs.length := by rw [← r]; simp
  rw [e]; exact z
theorem Sit.iaload {x v : Int32} (h : Sit p l e R s m args below meth c bs st n0 cells slots P pc L (.int x :: .ref a :: S)) (hZ : Z.Warmed39 s.vm) (hx0 : 0 ≤ x.toInt) (hP : ∀ hh, P hh → ∃ vs, AV Z hh a .int vs ∧ vs[x.toNatClampNeg]? = some (.int v)) (hd : decode bs pc = .ok (.iaload, 1)) (hp : pc + 1 = pc') : Sit p l e R s m args below meth c bs st n0 cells slots P pc' L (.int v :: S) := by
  subst hp
  refine h.go fun T _ _ _ X hx hby hT t z => ?_
  obtain ⟨vs, ⟨cl, A, r⟩, q⟩ := hP _ hT
  exact X.iaload hx A.1 (State.isArrayOf_alike hZ.alike A.2.1) A.2.2 (AV.inb hx0 r (List.getElem?_eq_some_iff.mp q).1) (by subst r; simpa using q) (g := mkF m pc L (.int x :: .ref a :: S)) rfl rfl (hb hby hd) t z
theorem Sit.laload {x : Int32} {v : Int64} (h : Sit p l e R s m args below meth c bs st n0 cells slots P pc L (.int x :: .ref a :: S)) (hZ : Z.Warmed39 s.vm) (hx0 : 0 ≤ x.toInt) (hP : ∀ hh, P hh → ∃ vs, AV Z hh a .long vs ∧ vs[x.toNatClampNeg]? = some (.long v)) (hd : decode bs pc = .ok (.laload, 1)) (hp : pc + 1 = pc') : Sit p l e R s m args below meth c bs st n0 cells slots P pc' L (.long v :: S) := by
  subst hp
  refine h.go fun T _ _ _ X hx hby hT t z => ?_
  obtain ⟨vs, ⟨cl, A, r⟩, q⟩ := hP _ hT
  exact X.laload hx A.1 (State.isArrayOf_alike hZ.alike A.2.1) A.2.2 (AV.inb hx0 r (List.getElem?_eq_some_iff.mp q).1) (by subst r; simpa using q) (g := mkF m pc L (.int x :: .ref a :: S)) rfl rfl (hb hby hd) t z
theorem Sit.baload {x v : Int32} (h : Sit p l e R s m args below meth c bs st n0 cells slots P pc L (.int x :: .ref a :: S)) (hZ : Z.Warmed39 s.vm) (hx0 : 0 ≤ x.toInt) (hP : ∀ hh, P hh → ∃ vs, AV Z hh a .byte vs ∧ vs[x.toNatClampNeg]? = some (.int v)) (hd : decode bs pc = .ok (.baload, 1)) (hp : pc + 1 = pc') : Sit p l e R s m args below meth c bs st n0 cells slots P pc' L (.int v :: S) := by
  subst hp
  refine h.go fun T _ _ _ X hx hby hT t z => ?_
  obtain ⟨vs, ⟨cl, A, r⟩, q⟩ := hP _ hT
  exact X.baloadBytes hx A.1 (State.isArrayOf_alike hZ.alike A.2.1) A.2.2 (AV.inb hx0 r (List.getElem?_eq_some_iff.mp q).1) (by subst r; simpa using q) (g := mkF m pc L (.int x :: .ref a :: S)) rfl rfl (hb hby hd) t z
/-- a step that writes one slot of a new cell -/
theorem Sit.wr {sl : Nat} (h : Sit p l e R s m args below meth c bs st n0 cells slots P pc L S) (ha : n0 ≤ a) (hP' : ∀ hh hh', P hh → Wr hh hh' a sl v → P' hh')
    (f : ∀ T locs k n, Stand p l e R s m args below meth c T locs k n → p.tables.exec = Jvm.exec → c.code = bs → P T.heap → ∃ T' h', Stand p l e R s m args below meth c T' (locs ++ [⟨a, sl⟩]) k n ∧ T'.heap = h' ∧ Wr T.heap h' a sl v ∧ ∀ t, Steps p.tables e below (T'.setTop (mkF m pc' L' S')) t → Steps p.tables e below (T.setTop (mkF m pc L S)) t) :
    Sit p l e R s m args below meth c bs st n0 cells slots P' pc' L' S' := by
  obtain ⟨T, locs, k, n, X, q1, q2, q3, q4, q5, hx, hby, q⟩ := h
  obtain ⟨T', h', X', rfl, hW, stp⟩ := f T locs k n X hx hby q5
  exact ⟨T', _, k, n, X', q1, q2, Fr.snoc X' q3 ha, q4, hP' _ _ q5 hW, hx, hby, fun t z => q t (stp t z)⟩
theorem Sit.iastore {x i : Int32} (h : Sit p l e R s m args below meth c bs st n0 cells slots P pc L (.int x :: .int i :: .ref a :: S)) (hZ : Z.Warmed39 s.vm) (ha : n0 ≤ a) (hx0 : 0 ≤ i.toInt) (hP : ∀ hh, P hh → ∃ vs, AV Z hh a .int vs ∧ i.toNatClampNeg < vs.length) (hP' : ∀ hh hh', P hh → Wr hh hh' a i.toNatClampNeg (.int x) → P' hh') (hd : decode bs pc = .ok (.iastore, 1)) (hp : pc + 1 = pc') : Sit p l e R s m args below meth c bs st n0 cells slots P' pc' L S := by
  subst hp
  refine h.wr ha hP' fun T _ _ _ X hx hby hT => ?_
  obtain ⟨vs, ⟨cl, A, r⟩, q⟩ := hP _ hT
  exact stI X hx hZ rfl A (j := i) (AV.inb hx0 r q) (g := mkF m pc L (.int x :: .int i :: .ref a :: S)) rfl rfl (hb hby hd)
theorem Sit.lastore {x : Int64} {i : Int32} (h : Sit p l e R s m args below meth c bs st n0 cells slots P pc L (.long x :: .int i :: .ref a :: S)) (hZ : Z.Warmed39 s.vm) (ha : n0 ≤ a) (hx0 : 0 ≤ i.toInt) (hP : ∀ hh, P hh → ∃ vs, AV Z hh a .long vs ∧ i.toNatClampNeg < vs.length) (hP' : ∀ hh hh', P hh → Wr hh hh' a i.toNatClampNeg (.long x) → P' hh') (hd : decode bs pc = .ok (.lastore, 1)) (hp : pc + 1 = pc') : Sit p l e R s m args below meth c bs st n0 cells slots P' pc' L S := by
  subst hp
  refine h.wr ha hP' fun T _ _ _ X hx hby hT => ?_
  obtain ⟨vs, ⟨cl, A, r⟩, q⟩ := hP _ hT
  exact stJ X hx hZ rfl A (j := i) (AV.inb hx0 r q) (g := mkF m pc L (.long x :: .int i :: .ref a :: S)) rfl rfl (hb hby hd)
theorem Sit.bastore {x i : Int32} (h : Sit p l e R s m args below meth c bs st n0 cells slots P pc L (.int x :: .int i :: .ref a :: S)) (hZ : Z.Warmed39 s.vm) (ha : n0 ≤ a) (hx0 : 0 ≤ i.toInt) (hP : ∀ hh, P hh → ∃ vs, AV Z hh a .byte vs ∧ i.toNatClampNeg < vs.length) (hP' : ∀ hh hh', P hh → Wr hh hh' a i.toNatClampNeg (.int x.toInt8.toInt32) → P' hh') (hd : decode bs pc = .ok (.bastore, 1)) (hp : pc + 1 = pc') : Sit p l e R s m args below meth c bs st n0 cells slots P' pc' L S := by
  subst hp
  refine h.wr ha hP' fun T _ _ _ X hx hby hT => ?_
  obtain ⟨vs, ⟨cl, A, r⟩, q⟩ := hP _ hT
  exact stB X hx hZ rfl A (j := i) (AV.inb hx0 r q) (g := mkF m pc L (.int x :: .int i :: .ref a :: S)) rfl rfl (hb hby hd)
/-- a step that makes one cell -/
theorem Sit.mk1 {d : Nat} {F : Addr → Heap → Heap → Prop} {P' : Addr → Heap → Prop} {S' : Addr → List Value} (h : Sit p l e R s m args below meth c bs st n0 cells slots P pc L S) (hP' : ∀ hh hh' a, P hh → a = hh.size → Ext hh hh' → F a hh hh' → P' a hh')
    (f : ∀ T locs k n, Stand p l e R s m args below meth c T locs k n → k ≤ cells → n ≤ slots → p.tables.exec = Jvm.exec → c.code = bs → P T.heap → ∃ T' h', Stand p l e R s m args below meth c T' locs (k + 1) (n + d) ∧ T'.heap = h' ∧ Ext T.heap h' ∧ F T.heap.size T.heap h' ∧ ∀ t, Steps p.tables e below (T'.setTop (mkF m pc' L' (S' T.heap.size))) t → Steps p.tables e below (T.setTop (mkF m pc L S)) t) :
    ∃ a, n0 ≤ a ∧ Sit p l e R s m args below meth c bs st n0 (cells + 1) (slots + d) (P' a) pc' L' (S' a) := by
  obtain ⟨T, locs, k, n, X, q1, q2, q3, q4, q5, hx, hby, q⟩ := h
  obtain ⟨T', h', X', rfl, hE, hF, stp⟩ := f T locs k n X q1 q2 hx hby q5
  exact ⟨T.heap.size, Nat.le_trans q4 X.same.2.1, T', _, _, _, X', Nat.add_le_add_right q1 _, Nat.add_le_add_right q2 _, q3, q4, hP' _ _ _ q5 rfl hE hF, hx, hby, fun t z => q t (stp t z)⟩
theorem Sit.newarr {n : Int32} {aty : ArrayType} {P' : Addr → Heap → Prop} (cap : Nat) (h : Sit p l e R s m args below meth c bs st n0 cells slots P pc L (.int n :: S)) (hZ : Z.Warmed39 s.vm) (w : (Cond.arrayClass (newarray.typeOf aty)).before a0 Z = true) (hn : 0 ≤ n.toInt) (hcap : n.toNatClampNeg ≤ cap) (hB : cap * 8 ≤ 536870912) (hc : cells + 1 ≤ R.cells) (hl : slots + cap ≤ R.slots)
    (hP' : ∀ hh hh' a, P hh → a = hh.size → Ext hh hh' → AV Z hh' a (newarray.typeOf aty) (List.replicate n.toNatClampNeg (defaultValue (newarray.typeOf aty))) → P' a hh') (hd : decode bs pc = .ok (.newarray aty, 2)) (hp : pc + 2 = pc') : ∃ a, n0 ≤ a ∧ Sit p l e R s m args below meth c bs st n0 (cells + 1) (slots + cap) (P' a) pc' L (.ref a :: S) := by
  subst hp
  refine h.mk1 (F := fun a _ hh' => AV Z hh' a (newarray.typeOf aty) (List.replicate n.toNatClampNeg (defaultValue (newarray.typeOf aty)))) (S' := fun a => .ref a :: S) hP' fun T locs k i X q1 q2 hx hby hT => ?_
  obtain ⟨T', h', cA, X', e', E', A', st'⟩ := newP X hx hZ w rfl (g := mkF m pc L (.int n :: S)) rfl (hb hby hd) rfl (nlt0 hn) hcap hB (Nat.le_trans (Nat.add_le_add_right q1 1) hc) (Nat.le_trans (Nat.add_le_add_right q2 cap) hl)
  exact ⟨T', h', X', e', E', AV.new A', st'⟩
end OwnHeap


/-- the mask of the low r bits, as the law's own 'expected' makes it -/
def mk1 (r : Int32) : Int64 := shl64 (1 : Int64) r - (1 : Int64)
def mk2 (r : Int32) : Int64 := ushr64 (-1 : Int64) ((64 : Int32) - r)
theorem mk_eq64 : ∀ n : Fin 64, n.val = 0 ∨ mk2 (Int32.ofNat n.val) = mk1 (Int32.ofNat n.val) := by decide +kernel
theorem mk_eq (r : Int32) (h1 : 0 < r.toInt) (h2 : r.toInt < 64) : mk2 r = mk1 r := by
  obtain ⟨n, hn⟩ : ∃ n : Nat, r.toInt = (n : Int) := ⟨r.toInt.toNat, by omega⟩
  have e : r = Int32.ofNat n := by
    apply Int32.toInt_inj.mp
    rw [hn, Int32.toInt_ofNat_of_lt (by omega)]
  rcases mk_eq64 ⟨n, by omega⟩ with q | q
  · simp at q; omega
  · rw [e]; exact q
/-- a word of the row behind the call: n rows, the word's index i -/
def exF (w : Int64) (i n : Int) : Int64 := if 64 * i < n ∧ n < 64 * i + 64 then w &&& mk1 (Int32.ofInt (n - 64 * i)) else w
theorem ofInt_of {r : Int32} {n : Int} (h : r.toInt = n) : Int32.ofInt n = r := by rw [← h, Int32.ofInt_toInt]
theorem rem64 (r : Int32) (h : 0 ≤ r.toInt) : (r % (64 : Int32)).toInt = r.toInt % 64 := by
  rw [Int32.toInt_mod, Int.tmod_eq_emod_of_nonneg h]; rfl
theorem div64 (r : Int32) (h : 0 ≤ r.toInt) : (r / (64 : Int32)).toInt = r.toInt / 64 := by
  rw [Int32.toInt_div_of_ne_right _ _ (by decide), Int.tdiv_eq_ediv_of_nonneg h]; rfl


theorem own_rem193 (u : Int32) : 0 ≤ ((u &&& (2147483647 : Int32)) % (193 : Int32)).toInt ∧ ((u &&& (2147483647 : Int32)) % (193 : Int32)).toInt < 193 := by
  have h := (c_and u 2147483647 (by decide)).1
  rw [Int32.toInt_mod, Int.tmod_eq_emod_of_nonneg h]
  have e : (193 : Int32).toInt = 193 := rfl
  rw [e]; omega

theorem pn_rm1 : plainName "com/example/planesift/planesift/Selection" = true := by first | (simp [plainName, overriddenIn]; done) | decide +kernel
theorem d1_0 : decode prog_2_method_11_code 0 = .ok (.iload_n 1, 1) := by decide +kernel
theorem d1_1 : decode prog_2_method_11_code 1 = .ok (.bipush 64, 2) := by decide +kernel
theorem d1_3 : decode prog_2_method_11_code 3 = .ok (.irem, 1) := by decide +kernel
theorem d1_4 : decode prog_2_method_11_code 4 = .ok (.istore_n 2, 1) := by decide +kernel
theorem d1_5 : decode prog_2_method_11_code 5 = .ok (.iload_n 2, 1) := by decide +kernel
theorem d1_6 : decode prog_2_method_11_code 6 = .ok (.ifCond .eq 20, 3) := by decide +kernel
theorem d1_9 : decode prog_2_method_11_code 9 = .ok (.aload_n 0, 1) := by decide +kernel
theorem d1_10 : decode prog_2_method_11_code 10 = .ok (.iload_n 1, 1) := by decide +kernel
theorem d1_11 : decode prog_2_method_11_code 11 = .ok (.bipush 64, 2) := by decide +kernel
theorem d1_13 : decode prog_2_method_11_code 13 = .ok (.idiv, 1) := by decide +kernel
theorem d1_14 : decode prog_2_method_11_code 14 = .ok (.dup2, 1) := by decide +kernel
theorem d1_15 : decode prog_2_method_11_code 15 = .ok (.laload, 1) := by decide +kernel
theorem d1_16 : decode prog_2_method_11_code 16 = .ok (.ldc2_w 24, 3) := by decide +kernel
theorem d1_19 : decode prog_2_method_11_code 19 = .ok (.bipush 64, 2) := by decide +kernel
theorem d1_21 : decode prog_2_method_11_code 21 = .ok (.iload_n 2, 1) := by decide +kernel
theorem d1_22 : decode prog_2_method_11_code 22 = .ok (.isub, 1) := by decide +kernel
theorem d1_23 : decode prog_2_method_11_code 23 = .ok (.lushr, 1) := by decide +kernel
theorem d1_24 : decode prog_2_method_11_code 24 = .ok (.land, 1) := by decide +kernel
theorem d1_25 : decode prog_2_method_11_code 25 = .ok (.lastore, 1) := by decide +kernel
theorem d1_26 : decode prog_2_method_11_code 26 = .ok (.return_, 1) := by decide +kernel
theorem ef_rm1 (m : MethodId) (a : Addr) (r : Int32) : entryFrame m #[(.ref a), (.int r)] 3 = mkF m 0 #[.val (.ref a), .val (.int r), .unset] [] := by first | (simp [entryFrame, mkF, argsToLocals, Value.category]; done) | rfl
set_option maxRecDepth 65536 in
set_option maxHeartbeats 40000000 in
theorem rm1 (l : Launch) (Z : State) (a0 : Array Value) (hw : ∀ d ∈ tables_1, d.before a0 Z = true) (wcs : List Jvm.Cond) (a : Addr) (r : Int32) (x0 x1 x2 : Int64) (h0 : Heap) (n0 : Nat) (Z0 : n0 ≤ h0.size) (ha : n0 ≤ a) (hA : AV Z h0 a .long [.long x0, .long x1, .long x2]) (r0 : 0 ≤ r.toInt) (r1 : r.toInt ≤ 192) : Met1 l (⟨"com/example/planesift/planesift/Selection", "clearPastLastRow", "([JI)V"⟩ : MethodName) prog_2_method_11_code 3 none wcs ({ frames := 0, cells := 0, slots := 0, locals := 0 } : Room) Z #[(.ref a), (.int r)] h0 n0 (fun v hh => v = none ∧ AV Z hh a .long [.long (exF x0 0 r.toInt), .long (exF x1 1 r.toInt), .long (exF x2 2 r.toInt)]) := by
  refine Met1.of (L0 := #[.val (.ref a), .val (.int r), .unset]) (plainFor_of_name pn_rm1) (fun m => ef_rm1 m a r) Z0 ?_
  intro p e s m below meth c st s0 hZ hown hret hlk hnm hml
  have s1 : Sit p l e _ s m _ below meth c _ st n0 0 0 _ 3 #[.val (.ref a), .val (.int r), .unset] [(.int (64 : Int32)), (.int r)] := s0
    |>.iloadN d1_0 rfl rfl
    |>.bipush (64 : Int32) d1_1 rfl rfl
  have s2 : Sit p l e _ s m _ below meth c _ st n0 0 0 _ 6 #[.val (.ref a), .val (.int r), .val (.int (r % (64 : Int32)))] [(.int (r % (64 : Int32)))] := s1
    |>.irem d1_3 (by decide) rfl
    |>.istoreN #[.val (.ref a), .val (.int r), .val (.int (r % (64 : Int32)))] d1_4 rfl rfl
    |>.iloadN d1_5 rfl rfl
  have e1 := rem64 r r0
  have e2 := div64 r r0
  by_cases c0 : (r % (64 : Int32)) = 0
  · have s3 : Sit p l e _ s m _ below meth c _ st n0 0 0 _ 26 #[.val (.ref a), .val (.int r), .val (.int (r % (64 : Int32)))] [] := s2
      |>.ifY d1_6 (eqT c0) (by decide) (by decide)
    have z : r.toInt % 64 = 0 := by rw [← e1, c0]; rfl
    exact s3.retV d1_26 hret hlk (fun hh q => ⟨rfl, by subst q; rw [exF, exF, exF, if_neg (by omega), if_neg (by omega), if_neg (by omega)]; exact hA⟩)
  · have s4 : Sit p l e _ s m _ below meth c _ st n0 0 0 _ 13 #[.val (.ref a), .val (.int r), .val (.int (r % (64 : Int32)))] [(.int (64 : Int32)), (.int r), (.ref a)] := s2
      |>.ifN d1_6 (eqF c0) rfl
      |>.aloadN d1_9 rfl rfl
      |>.iloadN d1_10 rfl rfl
      |>.bipush (64 : Int32) d1_11 rfl rfl
    have s5 : Sit p l e _ s m _ below meth c _ st n0 0 0 _ 15 #[.val (.ref a), .val (.int r), .val (.int (r % (64 : Int32)))] [(.int (r / (64 : Int32))), (.ref a), (.int (r / (64 : Int32))), (.ref a)] := s4
      |>.idiv d1_13 (by decide) rfl
      |>.dup2 d1_14 rfl rfl rfl
    have z : r.toInt % 64 ≠ 0 := fun h => c0 (Int32.toInt_inj.mp (by rw [e1, h]; rfl))
    have cs : r.toInt / 64 = 0 ∨ r.toInt / 64 = 1 ∨ r.toInt / 64 = 2 := by omega
    have mm : mk2 (r % (64 : Int32)) = mk1 (r % (64 : Int32)) := mk_eq _ (by omega) (by omega)
    rcases cs with cs | cs | cs
    · have ci : (r / (64 : Int32)).toNatClampNeg = 0 := clamp_of (by rw [e2, cs]; rfl)
      have s6 : Sit p l e _ s m _ below meth c _ st n0 0 0 _ 25 #[.val (.ref a), .val (.int r), .val (.int (r % (64 : Int32)))] [(.long (x0 &&& (ushr64 (-1 : Int64) ((64 : Int32) - (r % (64 : Int32)))))), (.int (r / (64 : Int32))), (.ref a)] := s5
        |>.laload (v := x0) hZ (by omega) (fun hh q => ⟨_, q ▸ hA, by rw [ci]; rfl⟩) d1_15 rfl
        |>.ldc2 hZ hown (wi hw 6 rfl) d1_16 rfl
        |>.bipush (64 : Int32) d1_19 rfl rfl
        |>.iloadN d1_21 rfl rfl
        |>.isub d1_22 rfl
        |>.lushr d1_23 rfl
        |>.land d1_24 rfl
      have s7 : Sit p l e _ s m _ below meth c _ st n0 0 0 _ 26 #[.val (.ref a), .val (.int r), .val (.int (r % (64 : Int32)))] [] := s6
        |>.lastore (P' := fun hh => AV Z hh a .long [.long (x0 &&& mk2 (r % (64 : Int32))), .long x1, .long x2]) hZ (ha) (by omega) (fun hh q => ⟨_, q ▸ hA, by rw [ci]; exact Nat.le_of_ble_eq_true rfl⟩) (fun hh hh' q X => by subst q; rw [ci] at X; exact hA.set X) d1_25 rfl
      have y0 : exF x0 0 r.toInt = (x0 &&& mk2 (r % (64 : Int32))) := by
        rw [exF, if_pos (by omega), mm, ofInt_of (r := r % (64 : Int32)) (by omega)]
      have y1 : exF x1 1 r.toInt = x1 := by rw [exF, if_neg (by omega)]
      have y2 : exF x2 2 r.toInt = x2 := by rw [exF, if_neg (by omega)]
      exact s7.retV d1_26 hret hlk (fun hh q => ⟨rfl, by rw [y0, y1, y2]; exact q⟩)
    · have ci : (r / (64 : Int32)).toNatClampNeg = 1 := clamp_of (by rw [e2, cs]; rfl)
      have s8 : Sit p l e _ s m _ below meth c _ st n0 0 0 _ 25 #[.val (.ref a), .val (.int r), .val (.int (r % (64 : Int32)))] [(.long (x1 &&& (ushr64 (-1 : Int64) ((64 : Int32) - (r % (64 : Int32)))))), (.int (r / (64 : Int32))), (.ref a)] := s5
        |>.laload (v := x1) hZ (by omega) (fun hh q => ⟨_, q ▸ hA, by rw [ci]; rfl⟩) d1_15 rfl
        |>.ldc2 hZ hown (wi hw 6 rfl) d1_16 rfl
        |>.bipush (64 : Int32) d1_19 rfl rfl
        |>.iloadN d1_21 rfl rfl
        |>.isub d1_22 rfl
        |>.lushr d1_23 rfl
        |>.land d1_24 rfl
      have s9 : Sit p l e _ s m _ below meth c _ st n0 0 0 _ 26 #[.val (.ref a), .val (.int r), .val (.int (r % (64 : Int32)))] [] := s8
        |>.lastore (P' := fun hh => AV Z hh a .long [.long x0, .long (x1 &&& mk2 (r % (64 : Int32))), .long x2]) hZ (ha) (by omega) (fun hh q => ⟨_, q ▸ hA, by rw [ci]; exact Nat.le_of_ble_eq_true rfl⟩) (fun hh hh' q X => by subst q; rw [ci] at X; exact hA.set X) d1_25 rfl
      have y0 : exF x0 0 r.toInt = x0 := by rw [exF, if_neg (by omega)]
      have y1 : exF x1 1 r.toInt = (x1 &&& mk2 (r % (64 : Int32))) := by
        rw [exF, if_pos (by omega), mm, ofInt_of (r := r % (64 : Int32)) (by omega)]
      have y2 : exF x2 2 r.toInt = x2 := by rw [exF, if_neg (by omega)]
      exact s9.retV d1_26 hret hlk (fun hh q => ⟨rfl, by rw [y0, y1, y2]; exact q⟩)
    · have ci : (r / (64 : Int32)).toNatClampNeg = 2 := clamp_of (by rw [e2, cs]; rfl)
      have s10 : Sit p l e _ s m _ below meth c _ st n0 0 0 _ 25 #[.val (.ref a), .val (.int r), .val (.int (r % (64 : Int32)))] [(.long (x2 &&& (ushr64 (-1 : Int64) ((64 : Int32) - (r % (64 : Int32)))))), (.int (r / (64 : Int32))), (.ref a)] := s5
        |>.laload (v := x2) hZ (by omega) (fun hh q => ⟨_, q ▸ hA, by rw [ci]; rfl⟩) d1_15 rfl
        |>.ldc2 hZ hown (wi hw 6 rfl) d1_16 rfl
        |>.bipush (64 : Int32) d1_19 rfl rfl
        |>.iloadN d1_21 rfl rfl
        |>.isub d1_22 rfl
        |>.lushr d1_23 rfl
        |>.land d1_24 rfl
      have s11 : Sit p l e _ s m _ below meth c _ st n0 0 0 _ 26 #[.val (.ref a), .val (.int r), .val (.int (r % (64 : Int32)))] [] := s10
        |>.lastore (P' := fun hh => AV Z hh a .long [.long x0, .long x1, .long (x2 &&& mk2 (r % (64 : Int32)))]) hZ (ha) (by omega) (fun hh q => ⟨_, q ▸ hA, by rw [ci]; exact Nat.le_of_ble_eq_true rfl⟩) (fun hh hh' q X => by subst q; rw [ci] at X; exact hA.set X) d1_25 rfl
      have y0 : exF x0 0 r.toInt = x0 := by rw [exF, if_neg (by omega)]
      have y1 : exF x1 1 r.toInt = x1 := by rw [exF, if_neg (by omega)]
      have y2 : exF x2 2 r.toInt = (x2 &&& mk2 (r % (64 : Int32))) := by
        rw [exF, if_pos (by omega), mm, ofInt_of (r := r % (64 : Int32)) (by omega)]
      exact s11.retV d1_26 hret hlk (fun hh q => ⟨rfl, by rw [y0, y1, y2]; exact q⟩)
theorem pn_rm2 : plainName "com/example/planesift/planesift/SelectionClearPastLastRowPinLaw" = true := by first | (simp [plainName, overriddenIn]; done) | decide +kernel
theorem d2_0 : decode method_3_code 0 = .ok (.iload_n 3, 1) := by decide +kernel
theorem d2_1 : decode method_3_code 1 = .ok (.bipush 64, 2) := by decide +kernel
theorem d2_3 : decode method_3_code 3 = .ok (.iload_n 2, 1) := by decide +kernel
theorem d2_4 : decode method_3_code 4 = .ok (.imul, 1) := by decide +kernel
theorem d2_5 : decode method_3_code 5 = .ok (.isub, 1) := by decide +kernel
theorem d2_6 : decode method_3_code 6 = .ok (.istore 4, 2) := by decide +kernel
theorem d2_8 : decode method_3_code 8 = .ok (.iload 4, 2) := by decide +kernel
theorem d2_10 : decode method_3_code 10 = .ok (.ifCond .gt 5, 3) := by decide +kernel
theorem d2_13 : decode method_3_code 13 = .ok (.lload_n 0, 1) := by decide +kernel
theorem d2_14 : decode method_3_code 14 = .ok (.lreturn, 1) := by decide +kernel
theorem d2_15 : decode method_3_code 15 = .ok (.iload 4, 2) := by decide +kernel
theorem d2_17 : decode method_3_code 17 = .ok (.bipush 64, 2) := by decide +kernel
theorem d2_19 : decode method_3_code 19 = .ok (.if_icmp .lt 5, 3) := by decide +kernel
theorem d2_22 : decode method_3_code 22 = .ok (.lload_n 0, 1) := by decide +kernel
theorem d2_23 : decode method_3_code 23 = .ok (.lreturn, 1) := by decide +kernel
theorem d2_24 : decode method_3_code 24 = .ok (.lload_n 0, 1) := by decide +kernel
theorem d2_25 : decode method_3_code 25 = .ok (.lconst 1, 1) := by decide +kernel
theorem d2_26 : decode method_3_code 26 = .ok (.iload 4, 2) := by decide +kernel
theorem d2_28 : decode method_3_code 28 = .ok (.lshl, 1) := by decide +kernel
theorem d2_29 : decode method_3_code 29 = .ok (.lconst 1, 1) := by decide +kernel
theorem d2_30 : decode method_3_code 30 = .ok (.lsub, 1) := by decide +kernel
theorem d2_31 : decode method_3_code 31 = .ok (.land, 1) := by decide +kernel
theorem d2_32 : decode method_3_code 32 = .ok (.lreturn, 1) := by decide +kernel
theorem ef_rm2 (m : MethodId) (w : Int64) (i : Int32) (r : Int32) : entryFrame m #[(.long w), (.int i), (.int r)] 5 = mkF m 0 #[.val (.long w), .second, .val (.int i), .val (.int r), .unset] [] := by first | (simp [entryFrame, mkF, argsToLocals, Value.category]; done) | rfl
set_option maxRecDepth 65536 in
set_option maxHeartbeats 40000000 in
theorem rm2 (l : Launch) (Z : State) (a0 : Array Value) (hw : ∀ d ∈ tables_1, d.before a0 Z = true) (wcs : List Jvm.Cond) (w : Int64) (i : Int32) (r : Int32)  (h0 : Heap) (n0 : Nat) (Z0 : n0 ≤ h0.size) (r0 : 0 ≤ r.toInt) (r1 : r.toInt ≤ 192) (i0 : 0 ≤ i.toInt) (i1 : i.toInt ≤ 2) : Met1 l (⟨"com/example/planesift/planesift/SelectionClearPastLastRowPinLaw", "expected", "(JII)J"⟩ : MethodName) method_3_code 5 (some .long) wcs ({ frames := 0, cells := 0, slots := 0, locals := 0 } : Room) Z #[(.long w), (.int i), (.int r)] h0 n0 (fun v hh => v = some (.long (exF w i.toInt r.toInt)) ∧ hh = h0) := by
  refine Met1.of (L0 := #[.val (.long w), .second, .val (.int i), .val (.int r), .unset]) (plainFor_of_name pn_rm2) (fun m => ef_rm2 m w i r) Z0 ?_
  intro p e s m below meth c st s0 hZ hown hret hlk hnm hml
  have s1 : Sit p l e _ s m _ below meth c _ st n0 0 0 _ 6 #[.val (.long w), .second, .val (.int i), .val (.int r), .unset] [(.int (r - ((64 : Int32) * i)))] := s0
    |>.iloadN d2_0 rfl rfl
    |>.bipush (64 : Int32) d2_1 rfl rfl
    |>.iloadN d2_3 rfl rfl
    |>.imul d2_4 rfl
    |>.isub d2_5 rfl
  obtain ⟨d, e_d, s2⟩ : ∃ d : Int32, d = (r - ((64 : Int32) * i)) ∧ Sit p l e _ s m _ below meth c _ st n0 0 0 _ 6 #[.val (.long w), .second, .val (.int i), .val (.int r), .unset] [(.int d)] := ⟨_, rfl, s1⟩
  have ed : d.toInt = r.toInt - 64 * i.toInt := by
    have h1 := c_imul (64 : Int32) i
    have h2 := c_isub r ((64 : Int32) * i)
    rw [← e_d] at h2
    have h3 : (64 : Int32).toInt = 64 := rfl
    rw [h3] at h1
    have h4 := rng32 ((64 : Int32) * i)
    have h5 := rng32 d
    omega
  have s3 : Sit p l e _ s m _ below meth c _ st n0 0 0 _ 10 #[.val (.long w), .second, .val (.int i), .val (.int r), .val (.int d)] [(.int d)] := s2
    |>.istore #[.val (.long w), .second, .val (.int i), .val (.int r), .val (.int d)] d2_6 rfl rfl
    |>.iload d2_8 rfl rfl
  by_cases c4 : d.toInt > 0
  · have s5 : Sit p l e _ s m _ below meth c _ st n0 0 0 _ 19 #[.val (.long w), .second, .val (.int i), .val (.int r), .val (.int d)] [(.int (64 : Int32)), (.int d)] := s3
      |>.ifY d2_10 (cmpT0 (cd := .gt) c4) (by decide) (by decide)
      |>.iload d2_15 rfl rfl
      |>.bipush (64 : Int32) d2_17 rfl rfl
    by_cases c6 : d.toInt < (64 : Int)
    · have s7 : Sit p l e _ s m _ below meth c _ st n0 0 0 _ 32 #[.val (.long w), .second, .val (.int i), .val (.int r), .val (.int d)] [(.long (w &&& ((shl64 (1 : Int64) d) - (1 : Int64))))] := s5
        |>.icmpY d2_19 (cmpT (cd := .lt) c6) (by decide) (by decide)
        |>.lloadN d2_24 rfl rfl
        |>.lconst (1 : Int64) d2_25 rfl rfl
        |>.iload d2_26 rfl rfl
        |>.lshl d2_28 rfl
        |>.lconst (1 : Int64) d2_29 rfl rfl
        |>.lsub d2_30 rfl
        |>.land d2_31 rfl
      exact s7.retJ d2_32 hret hlk (fun hh q => ⟨by rw [exF, if_pos (by omega), ofInt_of (r := d) (by omega)]; rfl, q⟩)
    · have s8 : Sit p l e _ s m _ below meth c _ st n0 0 0 _ 23 #[.val (.long w), .second, .val (.int i), .val (.int r), .val (.int d)] [(.long w)] := s5
        |>.icmpN d2_19 (cmpF (cd := .lt) c6) rfl
        |>.lloadN d2_22 rfl rfl
      exact s8.retJ d2_23 hret hlk (fun hh q => ⟨by rw [exF, if_neg (by omega)], q⟩)
  · have s9 : Sit p l e _ s m _ below meth c _ st n0 0 0 _ 14 #[.val (.long w), .second, .val (.int i), .val (.int r), .val (.int d)] [(.long w)] := s3
      |>.ifN d2_10 (cmpF0 (cd := .gt) c4) rfl
      |>.lloadN d2_13 rfl rfl
    exact s9.retJ d2_14 hret hlk (fun hh q => ⟨by rw [exF, if_neg (by omega)], q⟩)
theorem pd_0 : parseMethodDescriptor "([JI)V" = some ⟨[(.array .long), .int], none⟩ := by decide +kernel
theorem pd_1 : parseMethodDescriptor "(JII)J" = some ⟨[.long, .int, .int], some .long⟩ := by decide +kernel
theorem pn_rm0 : plainName "com/example/planesift/planesift/SelectionClearPastLastRowPinLaw" = true := by first | (simp [plainName, overriddenIn]; done) | decide +kernel
theorem ef_rm0 (m : MethodId) (x0 : Int64) (x1 : Int64) (x2 : Int64) (u : Int32) : entryFrame m #[(.long x0), (.long x1), (.long x2), (.int u)] maxLocals = mkF m 0 #[.val (.long x0), .second, .val (.long x1), .second, .val (.long x2), .second, .val (.int u), .unset, .unset] [] := by first | (simp [entryFrame, mkF, argsToLocals, Value.category, maxLocals]; done) | rfl
set_option maxRecDepth 65536 in
set_option maxHeartbeats 40000000 in
theorem rm0 (l : Launch) (Z : State) (a0 : Array Value) (hw : ∀ d ∈ tables_1, d.before a0 Z = true) (wcs : List Jvm.Cond) (x0 : Int64) (x1 : Int64) (x2 : Int64) (u : Int32)  (h0 : Heap) (n0 : Nat) (Z0 : n0 ≤ h0.size)  : Met1 l x code maxLocals ret wcs room_1 Z #[(.long x0), (.long x1), (.long x2), (.int u)] h0 n0 (fun v hh => v = some (.int 1)) := by
  refine Met1.of (L0 := #[.val (.long x0), .second, .val (.long x1), .second, .val (.long x2), .second, .val (.int u), .unset, .unset]) (plainFor_of_name pn_rm0) (fun m => ef_rm0 m x0 x1 x2 u) Z0 ?_
  intro p e s m below meth c st s0 hZ hown hret hlk hnm hml
  have hown : s.vm.findClass "com/example/planesift/planesift/SelectionClearPastLastRowPinLaw" = some m.cls := hown
  have hret : meth.sig.returnType = some .boolean := hret
  have hml : c.maxLocals = 9 := hml
  have s1 : Sit p l e _ s m _ below meth c _ st n0 0 0 _ 8 #[.val (.long x0), .second, .val (.long x1), .second, .val (.long x2), .second, .val (.int u), .unset, .unset] [(.int (193 : Int32)), (.int (u &&& (2147483647 : Int32)))] := s0
    |>.iload at_0 rfl rfl
    |>.ldc hZ hown (wi hw 0 rfl) at_2 rfl
    |>.iand at_4 rfl
    |>.sipush (193 : Int32) at_5 rfl rfl
  have s2 : Sit p l e _ s m _ below meth c _ st n0 0 0 _ 9 #[.val (.long x0), .second, .val (.long x1), .second, .val (.long x2), .second, .val (.int u), .unset, .unset] [(.int ((u &&& (2147483647 : Int32)) % (193 : Int32)))] := s1
    |>.irem at_8 (by decide) rfl
  obtain ⟨r, e_r, s3⟩ : ∃ r : Int32, r = ((u &&& (2147483647 : Int32)) % (193 : Int32)) ∧ Sit p l e _ s m _ below meth c _ st n0 0 0 _ 9 #[.val (.long x0), .second, .val (.long x1), .second, .val (.long x2), .second, .val (.int u), .unset, .unset] [(.int r)] := ⟨_, rfl, s2⟩
  have hr := own_rem193 u
  rw [← e_r] at hr
  have s4 : Sit p l e _ s m _ below meth c _ st n0 0 0 _ 12 #[.val (.long x0), .second, .val (.long x1), .second, .val (.long x2), .second, .val (.int u), .val (.int r), .unset] [(.int (3 : Int32))] := s3
    |>.istore #[.val (.long x0), .second, .val (.long x1), .second, .val (.long x2), .second, .val (.int u), .val (.int r), .unset] at_9 rfl rfl
    |>.iconst (3 : Int32) at_11 rfl rfl
  obtain ⟨b, g_b, s5⟩ := Sit.newarr (aty := .long) (P' := fun b => fun hh => AV Z hh b .long [.long (0 : Int64), .long (0 : Int64), .long (0 : Int64)]) 3 s4 hZ (wi hw 1 rfl) (by decide) (by decide) (by decide) (by decide) (by decide) (fun hh hh' a _ _ _ A => A) at_12 (pc' := 14) rfl
  have s6 : Sit p l e _ s m _ below meth c _ st n0 1 3 _ 14 #[.val (.long x0), .second, .val (.long x1), .second, .val (.long x2), .second, .val (.int u), .val (.int r), .unset] [(.ref b)] := s5
  have s7 : Sit p l e _ s m _ below meth c _ st n0 1 3 _ 20 #[.val (.long x0), .second, .val (.long x1), .second, .val (.long x2), .second, .val (.int u), .val (.int r), .val (.ref b)] [(.long x0), (.int (0 : Int32)), (.ref b)] := s6
    |>.astore #[.val (.long x0), .second, .val (.long x1), .second, .val (.long x2), .second, .val (.int u), .val (.int r), .val (.ref b)] at_14 rfl rfl
    |>.aload at_16 rfl rfl
    |>.iconst (0 : Int32) at_18 rfl rfl
    |>.lloadN at_19 rfl rfl
  have s8 : Sit p l e _ s m _ below meth c _ st n0 1 3 _ 21 #[.val (.long x0), .second, .val (.long x1), .second, .val (.long x2), .second, .val (.int u), .val (.int r), .val (.ref b)] [] := s7
    |>.lastore (P' := fun hh => AV Z hh b .long [.long x0, .long (0 : Int64), .long (0 : Int64)]) hZ (g_b) (by decide) (fun hh q => ⟨_, q, Nat.le_of_ble_eq_true rfl⟩) (fun hh hh' q X => q.set X) at_20 rfl
  have s9 : Sit p l e _ s m _ below meth c _ st n0 1 3 _ 25 #[.val (.long x0), .second, .val (.long x1), .second, .val (.long x2), .second, .val (.int u), .val (.int r), .val (.ref b)] [(.long x1), (.int (1 : Int32)), (.ref b)] := s8
    |>.aload at_21 rfl rfl
    |>.iconst (1 : Int32) at_23 rfl rfl
    |>.lloadN at_24 rfl rfl
  have s10 : Sit p l e _ s m _ below meth c _ st n0 1 3 _ 26 #[.val (.long x0), .second, .val (.long x1), .second, .val (.long x2), .second, .val (.int u), .val (.int r), .val (.ref b)] [] := s9
    |>.lastore (P' := fun hh => AV Z hh b .long [.long x0, .long x1, .long (0 : Int64)]) hZ (g_b) (by decide) (fun hh q => ⟨_, q, Nat.le_of_ble_eq_true rfl⟩) (fun hh hh' q X => q.set X) at_25 rfl
  have s11 : Sit p l e _ s m _ below meth c _ st n0 1 3 _ 31 #[.val (.long x0), .second, .val (.long x1), .second, .val (.long x2), .second, .val (.int u), .val (.int r), .val (.ref b)] [(.long x2), (.int (2 : Int32)), (.ref b)] := s10
    |>.aload at_26 rfl rfl
    |>.iconst (2 : Int32) at_28 rfl rfl
    |>.lload at_29 rfl rfl
  have s12 : Sit p l e _ s m _ below meth c _ st n0 1 3 _ 32 #[.val (.long x0), .second, .val (.long x1), .second, .val (.long x2), .second, .val (.int u), .val (.int r), .val (.ref b)] [] := s11
    |>.lastore (P' := fun hh => AV Z hh b .long [.long x0, .long x1, .long x2]) hZ (g_b) (by decide) (fun hh q => ⟨_, q, Nat.le_of_ble_eq_true rfl⟩) (fun hh hh' q X => q.set X) at_31 rfl
  have s13 : Sit p l e _ s m _ below meth c _ st n0 1 3 _ 36 #[.val (.long x0), .second, .val (.long x1), .second, .val (.long x2), .second, .val (.int u), .val (.int r), .val (.ref b)] [(.int r), (.ref b)] := s12
    |>.aload at_32 rfl rfl
    |>.iload at_34 rfl rfl
  obtain ⟨r15, s14⟩ := Sit.callS (y := (⟨"com/example/planesift/planesift/Selection", "clearPastLastRow", "([JI)V"⟩ : MethodName)) (W := 0) (Q := fun v hh => (v = none) ∧ (fun hh => AV Z hh b .long [.long (exF x0 0 r.toInt), .long (exF x1 1 r.toInt), .long (exF x2 2 r.toInt)]) hh) [(.ref b), (.int r)] [] s13 hZ hown (wi hw 2 rfl) (wi hw 3 rfl) (wi hw 4 rfl) (wi hw 5 rfl) (by decide) (fun h1 hP hn => (rm1 l Z a0 hw [] b r x0 x1 x2 h1 n0 hn g_b hP hr.1 (by omega)).mono fun v hh q => q) hml rfl (lenOf pd_0 rfl) at_36 (Nat.le_of_eq rfl) (by decide) (by decide) (by decide) (by decide) (pc' := 39) rfl
  obtain ⟨_, er15, _⟩ := s14.facts
  subst er15
  have s16 : Sit p l e _ s m _ below meth c _ st n0 1 3 (fun hh => AV Z hh b .long [.long (exF x0 0 r.toInt), .long (exF x1 1 r.toInt), .long (exF x2 2 r.toInt)]) 39 #[.val (.long x0), .second, .val (.long x1), .second, .val (.long x2), .second, .val (.int u), .val (.int r), .val (.ref b)] [] := s14.mono fun _ q => q.2
  have s17 : Sit p l e _ s m _ below meth c _ st n0 1 3 _ 42 #[.val (.long x0), .second, .val (.long x1), .second, .val (.long x2), .second, .val (.int u), .val (.int r), .val (.ref b)] [(.int (0 : Int32)), (.ref b)] := s16
    |>.aload at_39 rfl rfl
    |>.iconst (0 : Int32) at_41 rfl rfl
  have s18 : Sit p l e _ s m _ below meth c _ st n0 1 3 _ 47 #[.val (.long x0), .second, .val (.long x1), .second, .val (.long x2), .second, .val (.int u), .val (.int r), .val (.ref b)] [(.int r), (.int (0 : Int32)), (.long x0), (.long (exF x0 0 r.toInt))] := s17
    |>.laload (v := (exF x0 0 r.toInt)) hZ (by decide) (fun hh q => ⟨_, q, rfl⟩) at_42 rfl
    |>.lloadN at_43 rfl rfl
    |>.iconst (0 : Int32) at_44 rfl rfl
    |>.iload at_45 rfl rfl
  obtain ⟨r20, s19⟩ := Sit.callS (y := (⟨"com/example/planesift/planesift/SelectionClearPastLastRowPinLaw", "expected", "(JII)J"⟩ : MethodName)) (W := 2) (Q := fun v hh => (v = some (.long (exF x0 (0 : Int32).toInt r.toInt))) ∧ (fun hh => AV Z hh b .long [.long (exF x0 0 r.toInt), .long (exF x1 1 r.toInt), .long (exF x2 2 r.toInt)]) hh) [(.long x0), (.int (0 : Int32)), (.int r)] [(.long (exF x0 0 r.toInt))] s18 hZ hown (wi hw 7 rfl) (wi hw 8 rfl) (wi hw 9 rfl) (wi hw 10 rfl) (by decide) (fun h1 hP hn => (rm2 l Z a0 hw [] x0 (0 : Int32) r h1 n0 hn hr.1 (by omega) (by decide) (by decide)).mono fun v hh q => ⟨q.1, q.2 ▸ hP⟩) hml rfl (lenOf pd_1 rfl) at_47 (Nat.le_of_eq rfl) (by decide) (by decide) (by decide) (by decide) (pc' := 50) rfl
  obtain ⟨_, er20, _⟩ := s19.facts
  subst er20
  have s21 : Sit p l e _ s m _ below meth c _ st n0 1 3 (fun hh => AV Z hh b .long [.long (exF x0 0 r.toInt), .long (exF x1 1 r.toInt), .long (exF x2 2 r.toInt)]) 50 #[.val (.long x0), .second, .val (.long x1), .second, .val (.long x2), .second, .val (.int u), .val (.int r), .val (.ref b)] [(.long (exF x0 (0 : Int32).toInt r.toInt)), (.long (exF x0 0 r.toInt))] := s19.mono fun _ q => q.2
  have s22 : Sit p l e _ s m _ below meth c _ st n0 1 3 _ 51 #[.val (.long x0), .second, .val (.long x1), .second, .val (.long x2), .second, .val (.int u), .val (.int r), .val (.ref b)] [(.int (lcmp3 (exF x0 0 r.toInt) (exF x0 (0 : Int32).toInt r.toInt)))] := s21
    |>.lcmp at_50 rfl
  have s23 : Sit p l e _ s m _ below meth c _ st n0 1 3 _ 57 #[.val (.long x0), .second, .val (.long x1), .second, .val (.long x2), .second, .val (.int u), .val (.int r), .val (.ref b)] [(.int (1 : Int32)), (.ref b)] := s22
    |>.ifN at_51 (lcF (cd := .ne) (fun h => h rfl)) rfl
    |>.aload at_54 rfl rfl
    |>.iconst (1 : Int32) at_56 rfl rfl
  have s24 : Sit p l e _ s m _ below meth c _ st n0 1 3 _ 62 #[.val (.long x0), .second, .val (.long x1), .second, .val (.long x2), .second, .val (.int u), .val (.int r), .val (.ref b)] [(.int r), (.int (1 : Int32)), (.long x1), (.long (exF x1 1 r.toInt))] := s23
    |>.laload (v := (exF x1 1 r.toInt)) hZ (by decide) (fun hh q => ⟨_, q, rfl⟩) at_57 rfl
    |>.lloadN at_58 rfl rfl
    |>.iconst (1 : Int32) at_59 rfl rfl
    |>.iload at_60 rfl rfl
  obtain ⟨r26, s25⟩ := Sit.callS (y := (⟨"com/example/planesift/planesift/SelectionClearPastLastRowPinLaw", "expected", "(JII)J"⟩ : MethodName)) (W := 2) (Q := fun v hh => (v = some (.long (exF x1 (1 : Int32).toInt r.toInt))) ∧ (fun hh => AV Z hh b .long [.long (exF x0 0 r.toInt), .long (exF x1 1 r.toInt), .long (exF x2 2 r.toInt)]) hh) [(.long x1), (.int (1 : Int32)), (.int r)] [(.long (exF x1 1 r.toInt))] s24 hZ hown (wi hw 7 rfl) (wi hw 8 rfl) (wi hw 9 rfl) (wi hw 10 rfl) (by decide) (fun h1 hP hn => (rm2 l Z a0 hw [] x1 (1 : Int32) r h1 n0 hn hr.1 (by omega) (by decide) (by decide)).mono fun v hh q => ⟨q.1, q.2 ▸ hP⟩) hml rfl (lenOf pd_1 rfl) at_62 (Nat.le_of_eq rfl) (by decide) (by decide) (by decide) (by decide) (pc' := 65) rfl
  obtain ⟨_, er26, _⟩ := s25.facts
  subst er26
  have s27 : Sit p l e _ s m _ below meth c _ st n0 1 3 (fun hh => AV Z hh b .long [.long (exF x0 0 r.toInt), .long (exF x1 1 r.toInt), .long (exF x2 2 r.toInt)]) 65 #[.val (.long x0), .second, .val (.long x1), .second, .val (.long x2), .second, .val (.int u), .val (.int r), .val (.ref b)] [(.long (exF x1 (1 : Int32).toInt r.toInt)), (.long (exF x1 1 r.toInt))] := s25.mono fun _ q => q.2
  have s28 : Sit p l e _ s m _ below meth c _ st n0 1 3 _ 66 #[.val (.long x0), .second, .val (.long x1), .second, .val (.long x2), .second, .val (.int u), .val (.int r), .val (.ref b)] [(.int (lcmp3 (exF x1 1 r.toInt) (exF x1 (1 : Int32).toInt r.toInt)))] := s27
    |>.lcmp at_65 rfl
  have s29 : Sit p l e _ s m _ below meth c _ st n0 1 3 _ 72 #[.val (.long x0), .second, .val (.long x1), .second, .val (.long x2), .second, .val (.int u), .val (.int r), .val (.ref b)] [(.int (2 : Int32)), (.ref b)] := s28
    |>.ifN at_66 (lcF (cd := .ne) (fun h => h rfl)) rfl
    |>.aload at_69 rfl rfl
    |>.iconst (2 : Int32) at_71 rfl rfl
  have s30 : Sit p l e _ s m _ below meth c _ st n0 1 3 _ 78 #[.val (.long x0), .second, .val (.long x1), .second, .val (.long x2), .second, .val (.int u), .val (.int r), .val (.ref b)] [(.int r), (.int (2 : Int32)), (.long x2), (.long (exF x2 2 r.toInt))] := s29
    |>.laload (v := (exF x2 2 r.toInt)) hZ (by decide) (fun hh q => ⟨_, q, rfl⟩) at_72 rfl
    |>.lload at_73 rfl rfl
    |>.iconst (2 : Int32) at_75 rfl rfl
    |>.iload at_76 rfl rfl
  obtain ⟨r32, s31⟩ := Sit.callS (y := (⟨"com/example/planesift/planesift/SelectionClearPastLastRowPinLaw", "expected", "(JII)J"⟩ : MethodName)) (W := 2) (Q := fun v hh => (v = some (.long (exF x2 (2 : Int32).toInt r.toInt))) ∧ (fun hh => AV Z hh b .long [.long (exF x0 0 r.toInt), .long (exF x1 1 r.toInt), .long (exF x2 2 r.toInt)]) hh) [(.long x2), (.int (2 : Int32)), (.int r)] [(.long (exF x2 2 r.toInt))] s30 hZ hown (wi hw 7 rfl) (wi hw 8 rfl) (wi hw 9 rfl) (wi hw 10 rfl) (by decide) (fun h1 hP hn => (rm2 l Z a0 hw [] x2 (2 : Int32) r h1 n0 hn hr.1 (by omega) (by decide) (by decide)).mono fun v hh q => ⟨q.1, q.2 ▸ hP⟩) hml rfl (lenOf pd_1 rfl) at_78 (Nat.le_of_eq rfl) (by decide) (by decide) (by decide) (by decide) (pc' := 81) rfl
  obtain ⟨_, er32, _⟩ := s31.facts
  subst er32
  have s33 : Sit p l e _ s m _ below meth c _ st n0 1 3 (fun hh => AV Z hh b .long [.long (exF x0 0 r.toInt), .long (exF x1 1 r.toInt), .long (exF x2 2 r.toInt)]) 81 #[.val (.long x0), .second, .val (.long x1), .second, .val (.long x2), .second, .val (.int u), .val (.int r), .val (.ref b)] [(.long (exF x2 (2 : Int32).toInt r.toInt)), (.long (exF x2 2 r.toInt))] := s31.mono fun _ q => q.2
  have s34 : Sit p l e _ s m _ below meth c _ st n0 1 3 _ 82 #[.val (.long x0), .second, .val (.long x1), .second, .val (.long x2), .second, .val (.int u), .val (.int r), .val (.ref b)] [(.int (lcmp3 (exF x2 2 r.toInt) (exF x2 (2 : Int32).toInt r.toInt)))] := s33
    |>.lcmp at_81 rfl
  have s35 : Sit p l e _ s m _ below meth c _ st n0 1 3 _ 90 #[.val (.long x0), .second, .val (.long x1), .second, .val (.long x2), .second, .val (.int u), .val (.int r), .val (.ref b)] [(.int (1 : Int32))] := s34
    |>.ifN at_82 (lcF (cd := .ne) (fun h => h rfl)) rfl
    |>.iconst (1 : Int32) at_85 rfl rfl
    |>.goto at_86 (by decide) (by decide)
  exact (s35.bound (by decide) (by decide)).retZ at_90 hret hlk (fun hh q => rfl)
set_option maxRecDepth 65536 in
set_option maxHeartbeats 40000000 in
theorem comes_1 {Post : Tables → Env → Array Value → State → Outcome → State → Prop} (hpost : ∀ tb e args s v u, (limb_1_1.after args s (.returned v) u = true ∧ limb_1_2.after args s (.returned v) u = true ∧ True) → FrameEnd s (.returned v) u (Jvm.fieldLocs frame_1_writes args s ++ Jvm.arrayLocs frame_1_arrays args s ++ Jvm.staticLocs frame_1_statics s) 16 128 → Post tb e args s (.returned v) u) :
    ArmFor flags0 classFile x code maxLocals ret World_1 tables_1 room_1 Calls_1 rest_1 Pre_1 Post := by
  intro l hfl _ _ p e ha hc hk s m args below hf hA hF happ hP
  obtain ⟨hcalls, hrest, hpre⟩ := hP
  obtain ⟨-, -, -, hnamed, -, -, -, hat⟩ := (Spec.applies_iff hf).mp happ
  obtain ⟨hg, hn⟩ := and_e (Cond.before_iff.mp (show (Jvm.Cond.and given_1 narrow_1).before args s = true from hpre))
  obtain ⟨g0, q0⟩ := and_e hg
  obtain ⟨g1, q1⟩ := and_e q0
  obtain ⟨g2, q2⟩ := and_e q1
  obtain ⟨g3, q3⟩ := and_e q2
  obtain ⟨w0, w1, w2, w3, rfl⟩ : ∃ w0 w1 w2 w3 : Value, args = #[w0, w1, w2, w3] := by
    have hs : args.size = 4 := by simpa [Cond.value, given_1] using g0
    obtain ⟨L⟩ := args
    match L, hs with
    | [w0, w1, w2, w3], _ => exact ⟨w0, w1, w2, w3, rfl⟩
  have hw := fun d (hd : d ∈ tables_1) => atoms_spec (ws := Jvm.Cond.code x code maxLocals ret :: tables_1) hat d (List.mem_cons_of_mem _ hd)
  obtain ⟨i0, ei0⟩ := isL_v g1
  obtain rfl : w0 = (.long i0) := Option.some.inj ei0
  obtain ⟨i1, ei1⟩ := isL_v g2
  obtain rfl : w1 = (.long i1) := Option.some.inj ei1
  obtain ⟨i2, ei2⟩ := isL_v g3
  obtain rfl : w2 = (.long i2) := Option.some.inj ei2
  obtain ⟨i3, ei3⟩ := is_v q3
  obtain rfl : w3 = (.int i3) := Option.some.inj ei3
  obtain ⟨n, o, h1, h2, h3, _, L, rfl, ⟨N, rfl⟩, hq⟩ := rm0 l s _ hw tables_1 i0 i1 i2 i3 s.heap s.heap.size (Nat.le_refl _) p e ha hc hk s m _ below hf ((Spec.applies_iff_loose hf).mp happ).1 ⟨rfl, State.Warmed39.refl s, rfl⟩ trivial
  refine ⟨n, _, h1, h2, h3, hpost _ _ _ _ _ _ ⟨Cond.after_iff.mpr rfl, Cond.after_iff.mpr (eq_i res_at (Term.int_eval (1)) rfl), trivial⟩ ⟨hq.1, hq.2.1, (hq.2.2.sift fun y hy => Or.inr (N y hy)).mono (by decide) (by decide)⟩⟩
theorem main_1_1 : Claimed_1_1 := comes_1 fun _ _ _ _ _ _ h hF => ⟨h.1, hF⟩
theorem main_1_2 : Claimed_1_2 := comes_1 fun _ _ _ _ _ _ h hF => ⟨h.2.1, hF⟩
end Jvm.Pilot.@@N@@
namespace Jvm.Pilot.@@N@@
open Jvm Jvm.ClassFile Sem Op Lib Jvm.Free Jvm.Stand Jvm.Pilot.@@N@@.Jvm.D
/-! MADE BY PROGRAM (witnessworld.py) out of the Statement's table words and the real class files: 11 classes; the members and pool entries that the words name. The judged class is class 1, her method 1. -/
namespace start1
open Jvm.ClassFile
def u (s : String) : CpInfo := .utf8 (stringToUtf16 s)
/-- a pool by its gaps: so many unusable entries, then the entry; so many at the end -/
def gap : Nat → List CpInfo → List CpInfo
  | 0, r => r
  | n + 1, r => .unusable :: gap n r
def poolList (es : List (Nat × CpInfo)) (last : Nat) : List CpInfo := es.foldr (fun e r => gap e.1 (e.2 :: r)) (gap last [])
def pool (es : List (Nat × CpInfo)) (last : Nat) : Array CpInfo := ⟨poolList es last⟩
def fileOf (pool : Array CpInfo) (this : Nat) (attrs : Array Attribute := #[]) (ms : Array MethodInfo := #[]) (fl : Nat := 33) (sup : Nat := 0) (ifs : Array Nat := #[]) (fds : Array FieldInfo := #[]) : ClassFile where
  minorVersion := 0
  majorVersion := 65
  constantPool := pool
  accessFlags := fl
  thisClass := this
  superClass := sup
  interfaces := ifs
  fields := fds
  methods := ms
  attributes := attrs
def plain (name : String) (sup : Option ClassId) : Class where
  name := name
  kind := .ordinary
  loader := none
  accessFlags := 33
  super := sup
  interfaces := #[]
  cf := none
  fields := #[]
  methods := #[]
  instanceTypes := #[]
  staticTypes := #[]
  resolved := #[]
  callSites := []
  init := .initialized
  statics := none
  mirror := none

def pool0 : Array CpInfo := pool [(5, u "<init>"), (0, u "()V"), (1, .class_ 10), (1, u "java/lang/Object")] 113

def k0m0 : Method := { name := "<init>", desc := "()V", sig := { parameters := [], returnType := none }, accessFlags := 1, code := none }
/-- java/lang/Object -/
def k0 : Class := { plain "java/lang/Object" none with
  accessFlags := 33
  interfaces := #[]
  cf := some (fileOf pool0 8 #[] #[{ accessFlags := 1, nameIndex := 5, descriptorIndex := 6, attributes := #[] }] 33 0 #[] #[])
  fields := #[]
  methods := #[k0m0]
  instanceTypes := #[]
  staticTypes := #[]
  resolved := Array.replicate 124 none
  statics := none }

def pool1 : Array CpInfo := pool [(2, .class_ 4), (1, u "java/lang/Object"), (0, u "<init>"), (0, u "()V"), (0, .integer 2147483647), (0, .methodref 9 10), (0, .class_ 11), (0, .nameAndType 12 13), (0, u "com/example/planesift/planesift/Selection"), (0, u "clearPastLastRow"), (0, u "([JI)V"), (0, .methodref 15 16), (0, .class_ 17), (0, .nameAndType 18 19), (0, u "com/example/planesift/planesift/SelectionClearPastLastRowPinLaw"), (0, u "expected"), (0, u "(JII)J"), (2, u "law"), (0, u "(JJJI)Z")] 5

def k1m0 : Method := { name := "<init>", desc := "()V", sig := { parameters := [], returnType := none }, accessFlags := 1, code := none }
def k1c1 : Code := { maxStack := 6, maxLocals := 9, code := code, exceptionTable := #[], attributes := #[] }
def k1m1 : Method := { name := "law", desc := "(JJJI)Z", sig := { parameters := [.long, .long, .long, .int], returnType := some .boolean }, accessFlags := 9, code := some k1c1 }
def k1c2 : Code := { maxStack := 6, maxLocals := 5, code := method_3_code, exceptionTable := #[], attributes := #[] }
def k1m2 : Method := { name := "expected", desc := "(JII)J", sig := { parameters := [.long, .int, .int], returnType := some .long }, accessFlags := 10, code := some k1c2 }
/-- com/example/planesift/planesift/SelectionClearPastLastRowPinLaw -/
def k1 : Class := { plain "com/example/planesift/planesift/SelectionClearPastLastRowPinLaw" (some 0) with
  accessFlags := 49
  interfaces := #[]
  cf := some (fileOf pool1 15 #[] #[{ accessFlags := 1, nameIndex := 5, descriptorIndex := 6, attributes := #[] }, { accessFlags := 9, nameIndex := 22, descriptorIndex := 23, attributes := #[] }, { accessFlags := 10, nameIndex := 18, descriptorIndex := 19, attributes := #[] }] 49 2 #[] #[])
  fields := #[]
  methods := #[k1m0, k1m1, k1m2]
  instanceTypes := #[]
  staticTypes := #[]
  resolved := Array.replicate 29 none
  statics := none }

def pool2 : Array CpInfo := pool [(2, .class_ 4), (1, u "java/lang/Object"), (3, .class_ 10), (1, u "com/example/planesift/planesift/Selection"), (0, u "selected"), (0, u "[J"), (2, u "unknown"), (2, u "rowCount"), (0, u "I"), (2, u "clearPastLastRow"), (0, u "([JI)V"), (0, .long 18446744073709551615)] 78

def k2c0 : Code := { maxStack := 8, maxLocals := 3, code := prog_2_method_11_code, exceptionTable := #[], attributes := #[] }
def k2m0 : Method := { name := "clearPastLastRow", desc := "([JI)V", sig := { parameters := [(.array .long), .int], returnType := none }, accessFlags := 8, code := some k2c0 }
/-- com/example/planesift/planesift/Selection -/
def k2 : Class := { plain "com/example/planesift/planesift/Selection" (some 0) with
  accessFlags := 49
  interfaces := #[]
  cf := some (fileOf pool2 8 #[] #[{ accessFlags := 8, nameIndex := 22, descriptorIndex := 23, attributes := #[] }] 49 2 #[] #[{ accessFlags := 18, nameIndex := 11, descriptorIndex := 12, attributes := #[] }, { accessFlags := 18, nameIndex := 15, descriptorIndex := 12, attributes := #[] }, { accessFlags := 18, nameIndex := 18, descriptorIndex := 19, attributes := #[] }])
  fields := #[{ name := "selected", type := (.array .long), accessFlags := 18, slot := 0, constantValue := 0 }, { name := "unknown", type := (.array .long), accessFlags := 18, slot := 1, constantValue := 0 }, { name := "rowCount", type := .int, accessFlags := 18, slot := 2, constantValue := 0 }]
  methods := #[k2m0]
  instanceTypes := #[(.array .long), (.array .long), .int]
  staticTypes := #[]
  resolved := Array.replicate 103 none
  statics := none }

def pool3 : Array CpInfo := pool [(1, u "java/lang/Cloneable"), (0, .class_ 1), (0, u "java/lang/Object"), (0, .class_ 3)] 3

/-- java/lang/Cloneable -/
def k3 : Class := { plain "java/lang/Cloneable" (some 0) with
  accessFlags := 1537
  interfaces := #[]
  cf := some (fileOf pool3 2 #[] #[] 1537 4 #[] #[])
  fields := #[]
  methods := #[]
  instanceTypes := #[]
  staticTypes := #[]
  resolved := Array.replicate 8 none
  statics := none }

def pool4 : Array CpInfo := pool [(1, u "java/io/Serializable"), (0, .class_ 1), (0, u "java/lang/Object"), (0, .class_ 3)] 3

/-- java/io/Serializable -/
def k4 : Class := { plain "java/io/Serializable" (some 0) with
  accessFlags := 1537
  interfaces := #[]
  cf := some (fileOf pool4 2 #[] #[] 1537 4 #[] #[])
  fields := #[]
  methods := #[]
  instanceTypes := #[]
  staticTypes := #[]
  resolved := Array.replicate 8 none
  statics := none }

/-- the primitive byte -/
def k5 : Class := { plain "byte" none with kind := .primitive 'B', accessFlags := 0x411 }
/-- [B -/
def k6 : Class := { plain "[B" (some 0) with kind := .array 5 .byte, interfaces := #[3, 4], accessFlags := 1041 }

/-- the primitive int -/
def k7 : Class := { plain "int" none with kind := .primitive 'I', accessFlags := 0x411 }
/-- [I -/
def k8 : Class := { plain "[I" (some 0) with kind := .array 7 .int, interfaces := #[3, 4], accessFlags := 1041 }

/-- the primitive long -/
def k9 : Class := { plain "long" none with kind := .primitive 'J', accessFlags := 0x411 }
/-- [J -/
def k10 : Class := { plain "[J" (some 0) with kind := .array 9 .long, interfaces := #[3, 4], accessFlags := 1041 }

def heap : Heap := #[]
def classes : Array Class := #[k0, k1, k2, k3, k4, k5, k6, k7, k8, k9, k10]
def interned : List (Array UInt16 × Addr) := []
def slotsUsed : Nat := 0
def theMethod : MethodId := ⟨1, 1⟩
def args0 : Array Value := #[.long 5, .long 7, .long 2, .int 9]
def aboutOver (below : List Frame) : State where
  vm := { classes := classes, interned := interned.toArray }
  heap := heap
  slotsUsed := slotsUsed
  threads := #[{ frames := .invoking theMethod args0 :: below }]
def below0 : List Frame := [.native { method := ⟨0, 0⟩, args := #[] }]
def about1 : State := aboutOver below0
def p0 : Program := .bare "" "" ""
def e0 : Env := launch0.env 0 0 0
theorem w_frames : about1.frames = Frame.invoking theMethod args0 :: below0 := rfl
set_option maxRecDepth 65536 in
theorem w_args : argsFit about1.vm theMethod args0 = true := by decide +kernel
set_option maxRecDepth 65536 in
theorem w_heap : heapFits about1 = true := by decide +kernel
set_option maxRecDepth 65536 in
theorem w_runnable : about1.curStatus? = some .runnable := by decide +kernel
set_option maxRecDepth 65536 in
theorem w_alone : about1.alone = true := by decide +kernel
set_option maxRecDepth 65536 in
theorem w_named : about1.methodNamed? x = some theMethod := by decide +kernel
set_option maxRecDepth 65536 in
theorem w_hears : about1.hears theMethod below0 = true := by decide +kernel
set_option maxRecDepth 65536 in
theorem w_ripe : about1.ripe theMethod args0 below0 = true := by decide +kernel
theorem w_running : about1.status = .running := rfl
set_option maxRecDepth 65536 in
theorem w_room : about1.hasRoom e0.platform room_1 = true :=
  launch0.hasRoom_least _ room_1 (by decide +kernel) (by decide +kernel) (by decide +kernel) (by decide +kernel) (by decide +kernel) (by decide +kernel)
theorem allAtoms_all (ts : List Jvm.Cond) (a : Array Jvm.Value) (st : Jvm.State) : (allAtoms ts).before a st = ts.all (fun c => c.before a st) := by
  induction ts with
  | nil => rfl
  | cons c t ih =>
    show (Jvm.Cond.and c (allAtoms t)).before a st = _
    rw [Jvm.Cond.before_and, ih, List.all_cons]
def words1 : List Jvm.Cond := Jvm.Cond.code x code maxLocals ret :: tables_1
/-- a 'code' word, met by the world's own term for the bytes: nothing is compared byte by byte -/
theorem code_word {y : MethodName} {bytes : ByteArray} {mx : Nat} {rt : Option FieldType} {a : Array Value} {s : State} {m : MethodId} {meth : Method} {c : Code} (h1 : s.methodNamed? y = some m) (h2 : s.vm.method? m = some meth) (h3 : meth.code = some c) (h4 : c.code = bytes)
    (h5 : (c.maxLocals == mx && c.exceptionTable.isEmpty && decide (c.maxStack ≤ mostOperands) && decide (meth.sig.returnType = rt) && !meth.locks && decide (parseMethodDescriptor y.desc = some meth.sig)) = true) : (Jvm.Cond.code y bytes mx rt).before a s = true := by
  simp only [Bool.and_eq_true, beq_iff_eq, Bool.not_eq_true', decide_eq_true_eq] at h5
  obtain ⟨⟨⟨⟨⟨g1, g2⟩, g3⟩, g4⟩, g5⟩, g6⟩ := h5
  simp [Cond.before, Cond.holds, Cond.value, h1, h2, h3, h4, g1, g2, g3, g4, g5, g6]
def isCode : Jvm.Cond → Bool
  | .code _ _ _ _ => true
  | _ => false
theorem all_split {L : List Jvm.Cond} {P : Jvm.Cond → Bool} (h1 : L.all (fun c => isCode c || P c) = true) (h2 : ∀ c ∈ L.filter isCode, P c = true) : L.all P = true := by
  refine List.all_eq_true.mpr fun c hc => ?_
  have h := List.all_eq_true.mp h1 c hc
  rcases Bool.eq_false_or_eq_true (isCode c) with hi | hi
  · exact h2 c (List.mem_filter.mpr ⟨hc, hi⟩)
  · simpa [hi] using h
set_option maxRecDepth 65536 in
theorem w_c0 : (Jvm.Cond.code x code maxLocals ret).before args0 about1 = true := code_word (m := ⟨1, 1⟩) (meth := k1m1) (c := k1c1) (by decide +kernel) rfl rfl rfl (by decide +kernel)
set_option maxRecDepth 65536 in
theorem w_c1 : (Jvm.Cond.code ({ cls := "com/example/planesift/planesift/Selection", name := "clearPastLastRow", desc := "([JI)V" } : Jvm.MethodName) prog_2_method_11_code (3 : Nat) (Option.none : Option Jvm.ClassFile.FieldType)).before args0 about1 = true := code_word (m := ⟨2, 0⟩) (meth := k2m0) (c := k2c0) (by decide +kernel) rfl rfl rfl (by decide +kernel)
set_option maxRecDepth 65536 in
theorem w_c2 : (Jvm.Cond.code ({ cls := "com/example/planesift/planesift/SelectionClearPastLastRowPinLaw", name := "expected", desc := "(JII)J" } : Jvm.MethodName) method_3_code (5 : Nat) (Option.some Jvm.ClassFile.FieldType.long)).before args0 about1 = true := code_word (m := ⟨1, 2⟩) (meth := k1m2) (c := k1c2) (by decide +kernel) rfl rfl rfl (by decide +kernel)
def codes1 : List Jvm.Cond := [Jvm.Cond.code x code maxLocals ret, Jvm.Cond.code ({ cls := "com/example/planesift/planesift/Selection", name := "clearPastLastRow", desc := "([JI)V" } : Jvm.MethodName) prog_2_method_11_code (3 : Nat) (Option.none : Option Jvm.ClassFile.FieldType), Jvm.Cond.code ({ cls := "com/example/planesift/planesift/SelectionClearPastLastRowPinLaw", name := "expected", desc := "(JII)J" } : Jvm.MethodName) method_3_code (5 : Nat) (Option.some Jvm.ClassFile.FieldType.long)]
set_option maxRecDepth 65536 in
theorem codes_eq : words1.filter isCode = codes1 := rfl
theorem w_codes : ∀ c ∈ words1.filter isCode, c.before args0 about1 = true := by
  rw [codes_eq]
  intro c hc
  simp only [codes1, List.mem_cons, List.not_mem_nil, or_false] at hc
  rcases hc with rfl | rfl | rfl
  · exact w_c0
  · exact w_c1
  · exact w_c2
set_option maxRecDepth 65536 in
theorem w_t1 : words1.all (fun c => isCode c || c.before args0 about1) = true := by decide +kernel
theorem w_tables : (allAtoms (Jvm.Cond.code x code maxLocals ret :: tables_1)).before args0 about1 = true := by
  rw [allAtoms_all]
  show words1.all (fun c => c.before args0 about1) = true
  refine all_split ?_ w_codes
  rw [w_t1]
set_option maxRecDepth 65536 in
theorem w_case : (Jvm.Cond.and given_1 narrow_1).before args0 about1 = true := by decide +kernel
theorem w_applies : (headSpec (Jvm.Cond.code x code maxLocals ret :: tables_1) room_1).applies x e0.platform about1 = true :=
  (Spec.applies_iff w_frames).mpr ⟨w_running, w_runnable, w_alone, w_named, w_hears, w_ripe, w_room, w_tables⟩
theorem atStart : AtStart classFile x code maxLocals ret World_1 tables_1 room_1 Calls_1 rest_1 Pre_1 launch0 p0 e0 about1 theMethod args0 below0 :=
  ⟨lists_1, trivial, launch0.admits_env _ _ _, launch0.least_env, fairChoices_fair.cas, fairChoices_fair.clock, w_frames, w_args, w_heap, w_applies, trivial, trivial, w_case⟩
end start1
theorem witness_1 : WitnessClaimed_1 := ⟨start1.p0, start1.e0, start1.about1, start1.theMethod, start1.args0, start1.below0, start1.atStart⟩
end Jvm.Pilot.@@N@@
