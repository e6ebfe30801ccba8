import JvmDerived
import JvmDerived.Pilot.@@N@@Statement
import JvmDerived.Pilot.@@N@@Code
set_option linter.unusedVariables false
set_option linter.unusedSimpArgs false
namespace Jvm.RoadKit
open Sem ClassFile Op Lib Jvm.Stand Jvm.Free Jvm.LawKit
section New
variable {p : Program} {l : Launch} {e : Env} {R : Room} {s : State} {m : MethodId} {args : Array Value} {below : List Frame} {meth : Method} {c : Code} {T : State} {locs : List Loc} {cells slots : Nat}
theorem retI (X : Stand p l e R s m args below meth c T locs cells slots) (hx : p.tables.exec = Jvm.exec) {pc : Nat} {Ls : Array Slot} {z : Int32} {rest : List Value} (hret : meth.sig.returnType = some .int) (hd : decode c.code pc = .ok (.ireturn, 1)) {fs : List Frame}
    (hl : ∀ (f : JFrame) (acts : List Action), f.method = m → f.locked = none → f.entered = [] → (doReturn e (T.setTop f) acts (some (.int z))).1 = T.setFrames fs) : Steps p.tables e below (T.setTop (mkF m pc Ls (.int z :: rest))) (T.setFrames fs) := by
  have hm' : T.vm.method? m = some meth := X.method'
  have hn : narrow .int (.int z) = .int z := rfl
  show Steps p.tables e below (T.setTop { method := m, pc := pc, locals := Ls, stack := _ :: rest, locked := none }) _
  jvm_step X.here [X.here.top, hx, hd, hm', hret, hn]
  first | (intro acts; rw [hl _ acts rfl rfl rfl]) | rw [hl _ _ rfl rfl rfl]
  exact Steps.refl _
end New
end Jvm.RoadKit
namespace Jvm.Pilot.@@N@@
open Jvm Jvm.ClassFile Sem Op Lib Jvm.Free Jvm.Stand Jvm.LawKit Jvm.RoadKit Bundle Jvm.Pilot.@@N@@.Jvm.D

theorem wi {Z : State} {a0 : Array Value} (hw : ∀ d ∈ tables_1, d.before a0 Z = true) (i : Nat) {d : Jvm.Cond} (h : tables_1[i]? = some d) : d.before a0 Z = true := hw d (List.mem_of_getElem? h)
section OwnKit
variable {p : Program} {l : Launch} {e : Env} {R : Room} {s : State} {m : MethodId} {args : Array Value} {below : List Frame} {meth : Method} {c : Code} {bs : ByteArray} {st : State} {n0 cells slots : Nat} {P P' : Heap → Prop} {pc pc' : Nat} {L L' : Array Slot} {S S' : List Value} {Z : State} {a0 : Array Value} {own : String}
/-- where a walk stands: some state T reached from st, with what is known of its heap -/
def Sit (p : Program) (l : Launch) (e : Env) (R : Room) (s : State) (m : MethodId) (args : Array Value) (below : List Frame) (meth : Method) (c : Code) (bs : ByteArray) (st : State) (n0 cells slots : Nat) (P : Heap → Prop) (pc : Nat) (L : Array Slot) (S : List Value) : Prop :=
  ∃ (T : State) (locs : List Loc) (k n : Nat), Stand p l e R s m args below meth c T locs k n ∧ k ≤ cells ∧ n ≤ slots ∧ Fr n0 locs ∧ n0 ≤ s.heap.size ∧ P T.heap ∧ p.tables.exec = Jvm.exec ∧ c.code = bs ∧ ∀ t, Steps p.tables e below (T.setTop (mkF m pc L S)) t → Steps p.tables e below st t
theorem Sit.go (h : Sit p l e R s m args below meth c bs st n0 cells slots P pc L S)
    (f : ∀ T locs k n, Stand p l e R s m args below meth c T locs k n → p.tables.exec = Jvm.exec → c.code = bs → P T.heap → ∀ t, Steps p.tables e below (T.setTop (mkF m pc' L' S')) t → Steps p.tables e below (T.setTop (mkF m pc L S)) t) :
    Sit p l e R s m args below meth c bs st n0 cells slots P pc' L' S' := by
  obtain ⟨T, locs, k, n, X, q1, q2, q3, q4, q5, hx, hby, q⟩ := h
  exact ⟨T, locs, k, n, X, q1, q2, q3, q4, q5, hx, hby, fun t z => q t (f T locs k n X hx hby q5 t z)⟩
theorem Sit.mono (h : Sit p l e R s m args below meth c bs st n0 cells slots P pc L S) (f : ∀ hh, P hh → P' hh) : Sit p l e R s m args below meth c bs st n0 cells slots P' pc L S := by
  obtain ⟨T, locs, k, n, X, q1, q2, q3, q4, q5, r⟩ := h
  exact ⟨T, locs, k, n, X, q1, q2, q3, q4, f _ q5, r⟩
theorem Sit.bound {cells' slots' : Nat} (h : Sit p l e R s m args below meth c bs st n0 cells slots P pc L S) (h1 : cells ≤ cells') (h2 : slots ≤ slots') : Sit p l e R s m args below meth c bs st n0 cells' slots' P pc L S := by
  obtain ⟨T, locs, k, n, X, q1, q2, r⟩ := h
  exact ⟨T, locs, k, n, X, Nat.le_trans q1 h1, Nat.le_trans q2 h2, r⟩
theorem Sit.facts (h : Sit p l e R s m args below meth c bs st n0 cells slots P pc L S) : ∃ hh, P hh := by
  obtain ⟨T, locs, k, n, X, q1, q2, q3, q4, q5, r⟩ := h
  exact ⟨_, q5⟩
theorem Sit.ex {α : Type} {Q : α → Heap → Prop} (h : Sit p l e R s m args below meth c bs st n0 cells slots (fun hh => ∃ x, Q x hh) pc L S) : ∃ x, Sit p l e R s m args below meth c bs st n0 cells slots (Q x) pc L S := by
  obtain ⟨T, locs, k, n, X, q1, q2, q3, q4, ⟨x, q5⟩, r⟩ := h
  exact ⟨x, T, locs, k, n, X, q1, q2, q3, q4, q5, r⟩
theorem Sit.size (h : Sit p l e R s m args below meth c bs st n0 cells slots P pc L S) : Sit p l e R s m args below meth c bs st n0 cells slots (fun hh => P hh ∧ n0 ≤ hh.size) pc L S := by
  obtain ⟨T, locs, k, n, X, q1, q2, q3, q4, q5, r⟩ := h
  exact ⟨T, locs, k, n, X, q1, q2, q3, q4, ⟨q5, Nat.le_trans q4 X.same.2.1⟩, r⟩
/-! plain steps -/
theorem Sit.iload {k : Nat} {v : Int32} (h : Sit p l e R s m args below meth c bs st n0 cells slots P pc L S) (hd : decode bs pc = .ok (.iload k, 2)) (hl : L[k]? = some (.val (.int v))) (hp : pc + 2 = pc') : Sit p l e R s m args below meth c bs st n0 cells slots P pc' L (.int v :: S) := by
  subst hp; exact h.go fun T _ _ _ X hx hby _ t z => XS.iload X.here hx rfl (hb hby hd) hl z
theorem Sit.iloadN {k : Fin 4} {v : Int32} (h : Sit p l e R s m args below meth c bs st n0 cells slots P pc L S) (hd : decode bs pc = .ok (.iload_n k, 1)) (hl : L[k.val]? = some (.val (.int v))) (hp : pc + 1 = pc') : Sit p l e R s m args below meth c bs st n0 cells slots P pc' L (.int v :: S) := by
  subst hp; exact h.go fun T _ _ _ X hx hby _ t z => XS.iloadN X.here hx rfl (hb hby hd) hl z
theorem Sit.lload {k : Nat} {v : Int64} (h : Sit p l e R s m args below meth c bs st n0 cells slots P pc L S) (hd : decode bs pc = .ok (.lload k, 2)) (hl : L[k]? = some (.val (.long v))) (hp : pc + 2 = pc') : Sit p l e R s m args below meth c bs st n0 cells slots P pc' L (.long v :: S) := by
  subst hp; exact h.go fun T _ _ _ X hx hby _ t z => XS.lload X.here hx rfl (hb hby hd) hl z
theorem Sit.lloadN {k : Fin 4} {v : Int64} (h : Sit p l e R s m args below meth c bs st n0 cells slots P pc L S) (hd : decode bs pc = .ok (.lload_n k, 1)) (hl : L[k.val]? = some (.val (.long v))) (hp : pc + 1 = pc') : Sit p l e R s m args below meth c bs st n0 cells slots P pc' L (.long v :: S) := by
  subst hp; exact h.go fun T _ _ _ X hx hby _ t z => XS.lloadN X.here hx rfl (hb hby hd) hl z
theorem Sit.aload {k : Nat} {v : Addr} (h : Sit p l e R s m args below meth c bs st n0 cells slots P pc L S) (hd : decode bs pc = .ok (.aload k, 2)) (hl : L[k]? = some (.val (.ref v))) (hp : pc + 2 = pc') : Sit p l e R s m args below meth c bs st n0 cells slots P pc' L (.ref v :: S) := by
  subst hp; exact h.go fun T _ _ _ X hx hby _ t z => XS.aload X.here hx rfl (hb hby hd) hl rfl z
theorem Sit.aloadN {k : Fin 4} {v : Addr} (h : Sit p l e R s m args below meth c bs st n0 cells slots P pc L S) (hd : decode bs pc = .ok (.aload_n k, 1)) (hl : L[k.val]? = some (.val (.ref v))) (hp : pc + 1 = pc') : Sit p l e R s m args below meth c bs st n0 cells slots P pc' L (.ref v :: S) := by
  subst hp; exact h.go fun T _ _ _ X hx hby _ t z => XS.aloadN X.here hx rfl (hb hby hd) hl rfl z
theorem Sit.istore {k : Nat} {v : Int32} (L' : Array Slot) (h : Sit p l e R s m args below meth c bs st n0 cells slots P pc L (.int v :: S)) (hd : decode bs pc = .ok (.istore k, 2)) (hl : storeLocals L k (.int v) = some L') (hp : pc + 2 = pc') : Sit p l e R s m args below meth c bs st n0 cells slots P pc' L' S := by
  subst hp; exact h.go fun T _ _ _ X hx hby _ t z => XS.istore X.here hx rfl (hb hby hd) rfl hl z
theorem Sit.istoreN {k : Fin 4} {v : Int32} (L' : Array Slot) (h : Sit p l e R s m args below meth c bs st n0 cells slots P pc L (.int v :: S)) (hd : decode bs pc = .ok (.istore_n k, 1)) (hl : storeLocals L k.val (.int v) = some L') (hp : pc + 1 = pc') : Sit p l e R s m args below meth c bs st n0 cells slots P pc' L' S := by
  subst hp; exact h.go fun T _ _ _ X hx hby _ t z => XS.istoreN X.here hx rfl (hb hby hd) rfl hl z
theorem Sit.lstore {k : Nat} {v : Int64} (L' : Array Slot) (h : Sit p l e R s m args below meth c bs st n0 cells slots P pc L (.long v :: S)) (hd : decode bs pc = .ok (.lstore k, 2)) (hl : storeLocals L k (.long v) = some L') (hp : pc + 2 = pc') : Sit p l e R s m args below meth c bs st n0 cells slots P pc' L' S := by
  subst hp; exact h.go fun T _ _ _ X hx hby _ t z => XS.lstore X.here hx rfl (hb hby hd) rfl hl z
theorem Sit.lstoreN {k : Fin 4} {v : Int64} (L' : Array Slot) (h : Sit p l e R s m args below meth c bs st n0 cells slots P pc L (.long v :: S)) (hd : decode bs pc = .ok (.lstore_n k, 1)) (hl : storeLocals L k.val (.long v) = some L') (hp : pc + 1 = pc') : Sit p l e R s m args below meth c bs st n0 cells slots P pc' L' S := by
  subst hp; exact h.go fun T _ _ _ X hx hby _ t z => XS.lstoreN X.here hx rfl (hb hby hd) rfl hl z
theorem Sit.astore {k : Nat} {v : Addr} (L' : Array Slot) (h : Sit p l e R s m args below meth c bs st n0 cells slots P pc L (.ref v :: S)) (hd : decode bs pc = .ok (.astore k, 2)) (hl : storeLocals L k (.ref v) = some L') (hp : pc + 2 = pc') : Sit p l e R s m args below meth c bs st n0 cells slots P pc' L' S := by
  subst hp; exact h.go fun T _ _ _ X hx hby _ t z => XS.astore X.here hx rfl (hb hby hd) rfl rfl hl z
theorem Sit.astoreN {k : Fin 4} {v : Addr} (L' : Array Slot) (h : Sit p l e R s m args below meth c bs st n0 cells slots P pc L (.ref v :: S)) (hd : decode bs pc = .ok (.astore_n k, 1)) (hl : storeLocals L k.val (.ref v) = some L') (hp : pc + 1 = pc') : Sit p l e R s m args below meth c bs st n0 cells slots P pc' L' S := by
  subst hp; exact h.go fun T _ _ _ X hx hby _ t z => XS.astoreN X.here hx rfl (hb hby hd) rfl rfl hl z
theorem Sit.iconst {i : Int} (v : Int32) (h : Sit p l e R s m args below meth c bs st n0 cells slots P pc L S) (hd : decode bs pc = .ok (.iconst i, 1)) (hv : Int32.ofInt i = v) (hp : pc + 1 = pc') : Sit p l e R s m args below meth c bs st n0 cells slots P pc' L (.int v :: S) := by
  subst hp hv; exact h.go fun T _ _ _ X hx hby _ t z => XS.iconst X.here hx rfl (hb hby hd) z
theorem Sit.bipush {i : Int} (v : Int32) (h : Sit p l e R s m args below meth c bs st n0 cells slots P pc L S) (hd : decode bs pc = .ok (.bipush i, 2)) (hv : (Int8.ofInt i).toInt32 = v) (hp : pc + 2 = pc') : Sit p l e R s m args below meth c bs st n0 cells slots P pc' L (.int v :: S) := by
  subst hp hv; exact h.go fun T _ _ _ X hx hby _ t z => XS.bipush X.here hx rfl (hb hby hd) z
theorem Sit.sipush {i : Int} (v : Int32) (h : Sit p l e R s m args below meth c bs st n0 cells slots P pc L S) (hd : decode bs pc = .ok (.sipush i, 3)) (hv : (Int16.ofInt i).toInt32 = v) (hp : pc + 3 = pc') : Sit p l e R s m args below meth c bs st n0 cells slots P pc' L (.int v :: S) := by
  subst hp hv; exact h.go fun T _ _ _ X hx hby _ t z => XS.sipush X.here hx rfl (hb hby hd) z
theorem Sit.lconst {k : Fin 2} (v : Int64) (h : Sit p l e R s m args below meth c bs st n0 cells slots P pc L S) (hd : decode bs pc = .ok (.lconst k, 1)) (hv : Int64.ofNat k = v) (hp : pc + 1 = pc') : Sit p l e R s m args below meth c bs st n0 cells slots P pc' L (.long v :: S) := by
  subst hp hv; exact h.go fun T _ _ _ X hx hby _ t z => XS.lconst X.here hx rfl (hb hby hd) z
theorem Sit.ldc {index : Nat} {v : Int32} (h : Sit p l e R s m args below meth c bs st n0 cells slots P pc L S) (hZ : Z.Warmed39 s.vm) (hown : s.vm.findClass own = some m.cls) (w : (Cond.constant own index v).before a0 Z = true) (hd : decode bs pc = .ok (.ldc index, 2)) (hp : pc + 2 = pc') : Sit p l e R s m args below meth c bs st n0 cells slots P pc' L (.int v :: S) := by
  subst hp; exact h.go fun T _ _ _ X hx hby _ t z => X.ldcInt hx hown (mvT hZ w) (g := mkF m pc L S) rfl (hb hby hd) t z
theorem Sit.ldcw {index : Nat} {v : Int32} (h : Sit p l e R s m args below meth c bs st n0 cells slots P pc L S) (hZ : Z.Warmed39 s.vm) (hown : s.vm.findClass own = some m.cls) (w : (Cond.constant own index v).before a0 Z = true) (hd : decode bs pc = .ok (.ldc_w index, 3)) (hp : pc + 3 = pc') : Sit p l e R s m args below meth c bs st n0 cells slots P pc' L (.int v :: S) := by
  subst hp; exact h.go fun T _ _ _ X hx hby _ t z => X.ldcwInt hx hown (mvT hZ w) (g := mkF m pc L S) rfl (hb hby hd) t z
theorem Sit.ldc2 {index : Nat} {v : Int64} (h : Sit p l e R s m args below meth c bs st n0 cells slots P pc L S) (hZ : Z.Warmed39 s.vm) (hown : s.vm.findClass own = some m.cls) (w : (Cond.constantLong own index v).before a0 Z = true) (hd : decode bs pc = .ok (.ldc2_w index, 3)) (hp : pc + 3 = pc') : Sit p l e R s m args below meth c bs st n0 cells slots P pc' L (.long v :: S) := by
  subst hp; exact h.go fun T _ _ _ X hx hby _ t z => X.ldc2Long hx hown (mvT hZ w) (g := mkF m pc L S) rfl (hb hby hd) t z
/-! Java's shifts on longs and >>> on ints -/
def ushr32 (x y : Int32) : Int32 := (x.toUInt32 >>> (y &&& 31).toUInt32).toInt32
def shl64 (x : Int64) (y : Int32) : Int64 := x <<< (y &&& 0x3f).toInt64
def ushr64 (x : Int64) (y : Int32) : Int64 := (x.toUInt64 >>> (y &&& 0x3f).toInt64.toUInt64).toInt64
def lcmp3 (x y : Int64) : Int32 := if x > y then 1 else if x = y then 0 else -1
theorem Sit.iadd {x : Int32} {y : Int32} (h : Sit p l e R s m args below meth c bs st n0 cells slots P pc L (.int y :: .int x :: S)) (hd : decode bs pc = .ok (.iadd, 1)) (hp : pc + 1 = pc') : Sit p l e R s m args below meth c bs st n0 cells slots P pc' L (.int (x + y) :: S) := by
  subst hp; exact h.go fun T _ _ _ X hx hby _ t z => XS.iadd X.here hx rfl (hb hby hd) rfl z
theorem Sit.isub {x : Int32} {y : Int32} (h : Sit p l e R s m args below meth c bs st n0 cells slots P pc L (.int y :: .int x :: S)) (hd : decode bs pc = .ok (.isub, 1)) (hp : pc + 1 = pc') : Sit p l e R s m args below meth c bs st n0 cells slots P pc' L (.int (x - y) :: S) := by
  subst hp; exact h.go fun T _ _ _ X hx hby _ t z => XS.isub X.here hx rfl (hb hby hd) rfl z
theorem Sit.imul {x : Int32} {y : Int32} (h : Sit p l e R s m args below meth c bs st n0 cells slots P pc L (.int y :: .int x :: S)) (hd : decode bs pc = .ok (.imul, 1)) (hp : pc + 1 = pc') : Sit p l e R s m args below meth c bs st n0 cells slots P pc' L (.int (x * y) :: S) := by
  subst hp; exact h.go fun T _ _ _ X hx hby _ t z => XS.imul X.here hx rfl (hb hby hd) rfl z
theorem Sit.iand {x : Int32} {y : Int32} (h : Sit p l e R s m args below meth c bs st n0 cells slots P pc L (.int y :: .int x :: S)) (hd : decode bs pc = .ok (.iand, 1)) (hp : pc + 1 = pc') : Sit p l e R s m args below meth c bs st n0 cells slots P pc' L (.int (x &&& y) :: S) := by
  subst hp; exact h.go fun T _ _ _ X hx hby _ t z => XS.iand X.here hx rfl (hb hby hd) rfl z
theorem Sit.ior {x : Int32} {y : Int32} (h : Sit p l e R s m args below meth c bs st n0 cells slots P pc L (.int y :: .int x :: S)) (hd : decode bs pc = .ok (.ior, 1)) (hp : pc + 1 = pc') : Sit p l e R s m args below meth c bs st n0 cells slots P pc' L (.int (x ||| y) :: S) := by
  subst hp; exact h.go fun T _ _ _ X hx hby _ t z => XS.ior X.here hx rfl (hb hby hd) rfl z
theorem Sit.ixor {x : Int32} {y : Int32} (h : Sit p l e R s m args below meth c bs st n0 cells slots P pc L (.int y :: .int x :: S)) (hd : decode bs pc = .ok (.ixor, 1)) (hp : pc + 1 = pc') : Sit p l e R s m args below meth c bs st n0 cells slots P pc' L (.int (x ^^^ y) :: S) := by
  subst hp; exact h.go fun T _ _ _ X hx hby _ t z => XS.ixor X.here hx rfl (hb hby hd) rfl z
theorem Sit.ishl {x : Int32} {y : Int32} (h : Sit p l e R s m args below meth c bs st n0 cells slots P pc L (.int y :: .int x :: S)) (hd : decode bs pc = .ok (.ishl, 1)) (hp : pc + 1 = pc') : Sit p l e R s m args below meth c bs st n0 cells slots P pc' L (.int (x <<< (y &&& 31)) :: S) := by
  subst hp; exact h.go fun T _ _ _ X hx hby _ t z => XS.ishl X.here hx rfl (hb hby hd) rfl z
theorem Sit.ishr {x : Int32} {y : Int32} (h : Sit p l e R s m args below meth c bs st n0 cells slots P pc L (.int y :: .int x :: S)) (hd : decode bs pc = .ok (.ishr, 1)) (hp : pc + 1 = pc') : Sit p l e R s m args below meth c bs st n0 cells slots P pc' L (.int (x >>> (y &&& 31)) :: S) := by
  subst hp; exact h.go fun T _ _ _ X hx hby _ t z => XS.ishr X.here hx rfl (hb hby hd) rfl z
theorem Sit.iushr {x : Int32} {y : Int32} (h : Sit p l e R s m args below meth c bs st n0 cells slots P pc L (.int y :: .int x :: S)) (hd : decode bs pc = .ok (.iushr, 1)) (hp : pc + 1 = pc') : Sit p l e R s m args below meth c bs st n0 cells slots P pc' L (.int (ushr32 x y) :: S) := by
  subst hp; exact h.go fun T _ _ _ X hx hby _ t z => XS.iushr X.here hx rfl (hb hby hd) rfl z
theorem Sit.ladd {x : Int64} {y : Int64} (h : Sit p l e R s m args below meth c bs st n0 cells slots P pc L (.long y :: .long x :: S)) (hd : decode bs pc = .ok (.ladd, 1)) (hp : pc + 1 = pc') : Sit p l e R s m args below meth c bs st n0 cells slots P pc' L (.long (x + y) :: S) := by
  subst hp; exact h.go fun T _ _ _ X hx hby _ t z => XS.ladd X.here hx rfl (hb hby hd) rfl z
theorem Sit.lsub {x : Int64} {y : Int64} (h : Sit p l e R s m args below meth c bs st n0 cells slots P pc L (.long y :: .long x :: S)) (hd : decode bs pc = .ok (.lsub, 1)) (hp : pc + 1 = pc') : Sit p l e R s m args below meth c bs st n0 cells slots P pc' L (.long (x - y) :: S) := by
  subst hp; exact h.go fun T _ _ _ X hx hby _ t z => XS.lsub X.here hx rfl (hb hby hd) rfl z
theorem Sit.lmul {x : Int64} {y : Int64} (h : Sit p l e R s m args below meth c bs st n0 cells slots P pc L (.long y :: .long x :: S)) (hd : decode bs pc = .ok (.lmul, 1)) (hp : pc + 1 = pc') : Sit p l e R s m args below meth c bs st n0 cells slots P pc' L (.long (x * y) :: S) := by
  subst hp; exact h.go fun T _ _ _ X hx hby _ t z => XS.lmul X.here hx rfl (hb hby hd) rfl z
theorem Sit.land {x : Int64} {y : Int64} (h : Sit p l e R s m args below meth c bs st n0 cells slots P pc L (.long y :: .long x :: S)) (hd : decode bs pc = .ok (.land, 1)) (hp : pc + 1 = pc') : Sit p l e R s m args below meth c bs st n0 cells slots P pc' L (.long (x &&& y) :: S) := by
  subst hp; exact h.go fun T _ _ _ X hx hby _ t z => XS.land X.here hx rfl (hb hby hd) rfl z
theorem Sit.lor {x : Int64} {y : Int64} (h : Sit p l e R s m args below meth c bs st n0 cells slots P pc L (.long y :: .long x :: S)) (hd : decode bs pc = .ok (.lor, 1)) (hp : pc + 1 = pc') : Sit p l e R s m args below meth c bs st n0 cells slots P pc' L (.long (x ||| y) :: S) := by
  subst hp; exact h.go fun T _ _ _ X hx hby _ t z => XS.lor X.here hx rfl (hb hby hd) rfl z
theorem Sit.lxor {x : Int64} {y : Int64} (h : Sit p l e R s m args below meth c bs st n0 cells slots P pc L (.long y :: .long x :: S)) (hd : decode bs pc = .ok (.lxor, 1)) (hp : pc + 1 = pc') : Sit p l e R s m args below meth c bs st n0 cells slots P pc' L (.long (x ^^^ y) :: S) := by
  subst hp; exact h.go fun T _ _ _ X hx hby _ t z => XS.lxor X.here hx rfl (hb hby hd) rfl z
theorem Sit.lshl {x : Int64} {y : Int32} (h : Sit p l e R s m args below meth c bs st n0 cells slots P pc L (.int y :: .long x :: S)) (hd : decode bs pc = .ok (.lshl, 1)) (hp : pc + 1 = pc') : Sit p l e R s m args below meth c bs st n0 cells slots P pc' L (.long (shl64 x y) :: S) := by
  subst hp; exact h.go fun T _ _ _ X hx hby _ t z => XS.lshl X.here hx rfl (hb hby hd) rfl z
theorem Sit.lushr {x : Int64} {y : Int32} (h : Sit p l e R s m args below meth c bs st n0 cells slots P pc L (.int y :: .long x :: S)) (hd : decode bs pc = .ok (.lushr, 1)) (hp : pc + 1 = pc') : Sit p l e R s m args below meth c bs st n0 cells slots P pc' L (.long (ushr64 x y) :: S) := by
  subst hp; exact h.go fun T _ _ _ X hx hby _ t z => XS.lushr X.here hx rfl (hb hby hd) rfl z
theorem Sit.lcmp {x : Int64} {y : Int64} (h : Sit p l e R s m args below meth c bs st n0 cells slots P pc L (.long y :: .long x :: S)) (hd : decode bs pc = .ok (.lcmp, 1)) (hp : pc + 1 = pc') : Sit p l e R s m args below meth c bs st n0 cells slots P pc' L (.int (lcmp3 x y) :: S) := by
  subst hp; exact h.go fun T _ _ _ X hx hby _ t z => XS.lcmp X.here hx rfl (hb hby hd) rfl z
theorem Sit.i2l {x : Int32} (h : Sit p l e R s m args below meth c bs st n0 cells slots P pc L (.int x :: S)) (hd : decode bs pc = .ok (.i2l, 1)) (hp : pc + 1 = pc') : Sit p l e R s m args below meth c bs st n0 cells slots P pc' L (.long (x.toInt64) :: S) := by
  subst hp; exact h.go fun T _ _ _ X hx hby _ t z => XS.i2l X.here hx rfl (hb hby hd) rfl z
theorem Sit.l2i {x : Int64} (h : Sit p l e R s m args below meth c bs st n0 cells slots P pc L (.long x :: S)) (hd : decode bs pc = .ok (.l2i, 1)) (hp : pc + 1 = pc') : Sit p l e R s m args below meth c bs st n0 cells slots P pc' L (.int (x.toInt32) :: S) := by
  subst hp; exact h.go fun T _ _ _ X hx hby _ t z => XS.l2i X.here hx rfl (hb hby hd) rfl z
theorem Sit.i2b {x : Int32} (h : Sit p l e R s m args below meth c bs st n0 cells slots P pc L (.int x :: S)) (hd : decode bs pc = .ok (.i2b, 1)) (hp : pc + 1 = pc') : Sit p l e R s m args below meth c bs st n0 cells slots P pc' L (.int (x.toInt8.toInt32) :: S) := by
  subst hp; exact h.go fun T _ _ _ X hx hby _ t z => XS.i2b X.here hx rfl (hb hby hd) rfl z
theorem Sit.ineg {x : Int32} (h : Sit p l e R s m args below meth c bs st n0 cells slots P pc L (.int x :: S)) (hd : decode bs pc = .ok (.ineg, 1)) (hp : pc + 1 = pc') : Sit p l e R s m args below meth c bs st n0 cells slots P pc' L (.int (-x) :: S) := by
  subst hp; exact h.go fun T _ _ _ X hx hby _ t z => XS.ineg X.here hx rfl (hb hby hd) rfl z
theorem Sit.idiv {x y : Int32} (h : Sit p l e R s m args below meth c bs st n0 cells slots P pc L (.int y :: .int x :: S)) (hd : decode bs pc = .ok (.idiv, 1)) (hy : y ≠ 0) (hp : pc + 1 = pc') : Sit p l e R s m args below meth c bs st n0 cells slots P pc' L (.int (x / y) :: S) := by
  subst hp; exact h.go fun T _ _ _ X hx hby _ t z => XS.idiv X.here hx rfl (hb hby hd) rfl hy z
theorem Sit.irem {x y : Int32} (h : Sit p l e R s m args below meth c bs st n0 cells slots P pc L (.int y :: .int x :: S)) (hd : decode bs pc = .ok (.irem, 1)) (hy : y ≠ 0) (hp : pc + 1 = pc') : Sit p l e R s m args below meth c bs st n0 cells slots P pc' L (.int (x % y) :: S) := by
  subst hp; exact h.go fun T _ _ _ X hx hby _ t z => iremM X hx rfl (hb hby hd) rfl hy z
theorem Sit.lrem {x y : Int64} (h : Sit p l e R s m args below meth c bs st n0 cells slots P pc L (.long y :: .long x :: S)) (hd : decode bs pc = .ok (.lrem, 1)) (hy : y ≠ 0) (hp : pc + 1 = pc') : Sit p l e R s m args below meth c bs st n0 cells slots P pc' L (.long (x % y) :: S) := by
  subst hp; rw [← lrem_mod]; exact h.go fun T _ _ _ X hx hby _ t z => XS.lrem X.here hx rfl (hb hby hd) rfl hy z
theorem Sit.iinc {k : Nat} {i : Int} {x : Int32} (v : Int32) (L' : Array Slot) (h : Sit p l e R s m args below meth c bs st n0 cells slots P pc L S) (hd : decode bs pc = .ok (.iinc k i, 3)) (hl : L[k]? = some (.val (.int x))) (hv : x + Int32.ofInt i = v) (hl' : storeLocals L k (.int v) = some L') (hp : pc + 3 = pc') : Sit p l e R s m args below meth c bs st n0 cells slots P pc' L' S := by
  subst hp hv; exact h.go fun T _ _ _ X hx hby _ t z => XS.iinc X.here hx rfl (hb hby hd) hl hl' z
theorem Sit.dup {x : Value} (h : Sit p l e R s m args below meth c bs st n0 cells slots P pc L (x :: S)) (hd : decode bs pc = .ok (.dup, 1)) (hc : x.category = 1) (hp : pc + 1 = pc') : Sit p l e R s m args below meth c bs st n0 cells slots P pc' L (x :: x :: S) := by
  subst hp; exact h.go fun T _ _ _ X hx hby _ t z => XS.dup X.here hx rfl (hb hby hd) rfl hc z
theorem Sit.dupX1 {x y : Value} (h : Sit p l e R s m args below meth c bs st n0 cells slots P pc L (x :: y :: S)) (hd : decode bs pc = .ok (.dup_x1, 1)) (hc : x.category = 1) (hc' : y.category = 1) (hp : pc + 1 = pc') : Sit p l e R s m args below meth c bs st n0 cells slots P pc' L (x :: y :: x :: S) := by
  subst hp; exact h.go fun T _ _ _ X hx hby _ t z => XS.dupX1 X.here hx rfl (hb hby hd) rfl hc hc' z
theorem Sit.dup2 {x y : Value} (h : Sit p l e R s m args below meth c bs st n0 cells slots P pc L (x :: y :: S)) (hd : decode bs pc = .ok (.dup2, 1)) (hc : x.category = 1) (hc' : y.category = 1) (hp : pc + 1 = pc') : Sit p l e R s m args below meth c bs st n0 cells slots P pc' L (x :: y :: x :: y :: S) := by
  subst hp; exact h.go fun T _ _ _ X hx hby _ t z => Jvm.Free.XT.dup2 X.here hx rfl (hb hby hd) rfl hc hc' z
theorem Sit.pop {x : Value} (h : Sit p l e R s m args below meth c bs st n0 cells slots P pc L (x :: S)) (hd : decode bs pc = .ok (.pop, 1)) (hc : x.category = 1) (hp : pc + 1 = pc') : Sit p l e R s m args below meth c bs st n0 cells slots P pc' L S := by
  subst hp; exact h.go fun T _ _ _ X hx hby _ t z => XS.pop X.here hx rfl (hb hby hd) rfl hc z
theorem Sit.goto {o : Int} (h : Sit p l e R s m args below meth c bs st n0 cells slots P pc L S) (hd : decode bs pc = .ok (.goto o, 3)) (ho : 0 ≤ (pc : Int) + o) (hp : ((pc : Int) + o).toNat = pc') : Sit p l e R s m args below meth c bs st n0 cells slots P pc' L S :=
  h.go fun T _ _ _ X hx hby _ t z => XS.goto X.here hx rfl (pc0 := pc) rfl (hb hby hd) ho hp z
theorem Sit.ifY {cd : ClassFile.Cond} {x : Int32} {o : Int} (h : Sit p l e R s m args below meth c bs st n0 cells slots P pc L (.int x :: S)) (hd : decode bs pc = .ok (.ifCond cd o, 3)) (hc : if_icmp.holds cd x 0 = true) (ho : 0 ≤ (pc : Int) + o) (hp : ((pc : Int) + o).toNat = pc') : Sit p l e R s m args below meth c bs st n0 cells slots P pc' L S :=
  h.go fun T _ _ _ X hx hby _ t z => XS.ifYes X.here hx rfl (pc0 := pc) rfl (hb hby hd) rfl ((if0 _ _).trans hc) ho hp z
theorem Sit.ifN {cd : ClassFile.Cond} {x : Int32} {o : Int} (h : Sit p l e R s m args below meth c bs st n0 cells slots P pc L (.int x :: S)) (hd : decode bs pc = .ok (.ifCond cd o, 3)) (hc : if_icmp.holds cd x 0 = false) (hp : pc + 3 = pc') : Sit p l e R s m args below meth c bs st n0 cells slots P pc' L S := by
  subst hp; exact h.go fun T _ _ _ X hx hby _ t z => XS.ifNo X.here hx rfl (hb hby hd) rfl ((if0 _ _).trans hc) z
theorem Sit.icmpY {cd : ClassFile.Cond} {x y : Int32} {o : Int} (h : Sit p l e R s m args below meth c bs st n0 cells slots P pc L (.int y :: .int x :: S)) (hd : decode bs pc = .ok (.if_icmp cd o, 3)) (hc : if_icmp.holds cd x y = true) (ho : 0 ≤ (pc : Int) + o) (hp : ((pc : Int) + o).toNat = pc') : Sit p l e R s m args below meth c bs st n0 cells slots P pc' L S :=
  h.go fun T _ _ _ X hx hby _ t z => XS.icmpYes X.here hx rfl (pc0 := pc) rfl (hb hby hd) rfl hc ho hp z
theorem Sit.icmpN {cd : ClassFile.Cond} {x y : Int32} {o : Int} (h : Sit p l e R s m args below meth c bs st n0 cells slots P pc L (.int y :: .int x :: S)) (hd : decode bs pc = .ok (.if_icmp cd o, 3)) (hc : if_icmp.holds cd x y = false) (hp : pc + 3 = pc') : Sit p l e R s m args below meth c bs st n0 cells slots P pc' L S := by
  subst hp; exact h.go fun T _ _ _ X hx hby _ t z => XS.icmpNo X.here hx rfl (hb hby hd) rfl hc z
/-! comparisons as facts on whole numbers -/
def cmpP : ClassFile.Cond → Int32 → Int32 → Prop
  | .eq, x, y => x.toInt = y.toInt
  | .ne, x, y => x.toInt ≠ y.toInt
  | .lt, x, y => x.toInt < y.toInt
  | .ge, x, y => y.toInt ≤ x.toInt
  | .gt, x, y => y.toInt < x.toInt
  | .le, x, y => x.toInt ≤ y.toInt
theorem cmpP_holds (cd : ClassFile.Cond) (x y : Int32) : if_icmp.holds cd x y = true ↔ cmpP cd x y := by
  cases cd <;> simp [if_icmp.holds, cmpP, Int32.lt_iff_toInt_lt, Int32.le_iff_toInt_le, Int32.toInt_inj]
theorem cmpT {cd : ClassFile.Cond} {x y : Int32} (h : cmpP cd x y) : if_icmp.holds cd x y = true := (cmpP_holds cd x y).mpr h
theorem cmpF {cd : ClassFile.Cond} {x y : Int32} (h : ¬ cmpP cd x y) : if_icmp.holds cd x y = false := by
  rw [← Bool.not_eq_true, cmpP_holds]; exact h
def cmpZ : ClassFile.Cond → Int32 → Prop
  | .eq, x => x.toInt = 0
  | .ne, x => x.toInt ≠ 0
  | .lt, x => x.toInt < 0
  | .ge, x => 0 ≤ x.toInt
  | .gt, x => 0 < x.toInt
  | .le, x => x.toInt ≤ 0
theorem cmpT0 {cd : ClassFile.Cond} {x : Int32} (h : cmpZ cd x) : if_icmp.holds cd x 0 = true := cmpT (by cases cd <;> exact h)
theorem cmpF0 {cd : ClassFile.Cond} {x : Int32} (h : ¬ cmpZ cd x) : if_icmp.holds cd x 0 = false := cmpF (by cases cd <;> exact h)
def cmpJ : ClassFile.Cond → Int64 → Int64 → Prop
  | .eq, x, y => x = y
  | .ne, x, y => ¬ x = y
  | .lt, x, y => x.toInt < y.toInt
  | .ge, x, y => y.toInt ≤ x.toInt
  | .gt, x, y => y.toInt < x.toInt
  | .le, x, y => x.toInt ≤ y.toInt
theorem lc_iff (cd : ClassFile.Cond) (x y : Int64) : if_icmp.holds cd (lcmp3 x y) 0 = true ↔ cmpJ cd x y := by
  rw [cmpP_holds]
  obtain ⟨h1, h2, h3⟩ := c_lcmp x y
  have e : lcmp3 x y = lcmpW x y := rfl
  rw [e]
  have z : (0 : Int32).toInt = 0 := rfl
  have q : x = y ↔ x.toInt = y.toInt := Int64.toInt_inj.symm
  rcases Int.lt_trichotomy x.toInt y.toInt with h | h | h
  · have := h1 h; cases cd <;> simp only [cmpP, cmpJ, z, q] <;> omega
  · have := h2 h; cases cd <;> simp only [cmpP, cmpJ, z, q] <;> omega
  · have := h3 h; cases cd <;> simp only [cmpP, cmpJ, z, q] <;> omega
theorem lcT {cd : ClassFile.Cond} {x y : Int64} (h : cmpJ cd x y) : if_icmp.holds cd (lcmp3 x y) 0 = true := (lc_iff cd x y).mpr h
theorem lcF {cd : ClassFile.Cond} {x y : Int64} (h : ¬ cmpJ cd x y) : if_icmp.holds cd (lcmp3 x y) 0 = false := by
  rw [← Bool.not_eq_true, lc_iff]; exact h
theorem eqT {x y : Int32} (h : x = y) : if_icmp.holds .eq x y = true := (teq h).1
theorem eqF {x y : Int32} (h : ¬ x = y) : if_icmp.holds .eq x y = false := (feq h).1
theorem neT {x y : Int32} (h : ¬ x = y) : if_icmp.holds .ne x y = true := (feq h).2
theorem neF {x y : Int32} (h : x = y) : if_icmp.holds .ne x y = false := (teq h).2
/-! leaving -/
def Out (p : Program) (e : Env) (below : List Frame) (s st : State) (n0 cells slots : Nat) (Q : Option Value → Heap → Prop) : Prop :=
  ∃ s₂ o, Steps p.tables e below st s₂ ∧ s₂.status = .running ∧ Ended s₂ below o ∧ ∃ v L, o = .returned v ∧ (Fr n0 L ∧ Q v s₂.heap) ∧ FrameEnd s o s₂ L cells slots
theorem Out.mk {T : State} {locs : List Loc} {k n : Nat} {v : Option Value} {Q : Option Value → Heap → Prop} (X : Stand p l e R s m args below meth c T locs k n) (q1 : k ≤ cells) (q2 : n ≤ slots) (q3 : Fr n0 locs) (hQ : Q v T.heap) (hv : meth.sig.returnType = none → v = none) (hlk : meth.locks = false)
    (hst : ∀ fs : List Frame, (∀ (f : JFrame) (acts : List Action), f.method = m → f.locked = none → f.entered = [] → (doReturn e (T.setTop f) acts v).1 = T.setFrames fs) → Steps p.tables e below st (T.setFrames fs)) : Out p e below s st n0 cells slots Q := by
  obtain ⟨fs, hr, hrun, hended, hW, hsame⟩ := X.leave (v := v) hv hlk
  exact ⟨_, _, hst fs hr, hrun, hended, _, _, rfl, ⟨q3, hQ⟩, ⟨_, rfl⟩, hW, hsame.mono q1 q2⟩
theorem Sit.retI {z : Int32} {Q : Option Value → Heap → Prop} (h : Sit p l e R s m args below meth c bs st n0 cells slots P pc L (.int z :: S)) (hd : decode bs pc = .ok (.ireturn, 1)) (hret : meth.sig.returnType = some .int) (hlk : meth.locks = false) (hQ : ∀ hh, P hh → Q (some (.int z)) hh) : Out p e below s st n0 cells slots Q := by
  obtain ⟨T, locs, k, n, X, q1, q2, q3, q4, q5, hx, hby, q⟩ := h
  exact Out.mk X q1 q2 q3 (hQ _ q5) (fun h => by rw [hret] at h; cases h) hlk fun fs hr => q _ (Jvm.RoadKit.retI X hx hret (hb hby hd) hr)
theorem Sit.retZ {z : Int32} {Q : Option Value → Heap → Prop} (h : Sit p l e R s m args below meth c bs st n0 cells slots P pc L (.int z :: S)) (hd : decode bs pc = .ok (.ireturn, 1)) (hret : meth.sig.returnType = some .boolean) (hlk : meth.locks = false) (hQ : ∀ hh, P hh → Q (some (.int (z &&& 1))) hh) : Out p e below s st n0 cells slots Q := by
  obtain ⟨T, locs, k, n, X, q1, q2, q3, q4, q5, hx, hby, q⟩ := h
  exact Out.mk X q1 q2 q3 (hQ _ q5) (fun h => by rw [hret] at h; cases h) hlk fun fs hr => q _ (retN X hx (t := .boolean) hret (by simp) (hb hby hd) hr)
theorem Sit.retJ {z : Int64} {Q : Option Value → Heap → Prop} (h : Sit p l e R s m args below meth c bs st n0 cells slots P pc L [.long z]) (hd : decode bs pc = .ok (.lreturn, 1)) (hret : meth.sig.returnType = some .long) (hlk : meth.locks = false) (hQ : ∀ hh, P hh → Q (some (.long z)) hh) : Out p e below s st n0 cells slots Q := by
  obtain ⟨T, locs, k, n, X, q1, q2, q3, q4, q5, hx, hby, q⟩ := h
  exact Out.mk X q1 q2 q3 (hQ _ q5) (fun h => by rw [hret] at h; cases h) hlk fun fs hr => q _ (X.lreturnOut hx hret (hb hby hd) hr)
theorem Sit.retV {Q : Option Value → Heap → Prop} (h : Sit p l e R s m args below meth c bs st n0 cells slots P pc L []) (hd : decode bs pc = .ok (.return_, 1)) (hret : meth.sig.returnType = none) (hlk : meth.locks = false) (hQ : ∀ hh, P hh → Q none hh) : Out p e below s st n0 cells slots Q := by
  obtain ⟨T, locs, k, n, X, q1, q2, q3, q4, q5, hx, hby, q⟩ := h
  exact Out.mk X q1 q2 q3 (hQ _ q5) (fun _ => rfl) hlk fun fs hr => q _ (X.returnOut hx hret (hb hby hd) hr)
theorem Sit.retA {z : Addr} {t : FieldType} {Q : Option Value → Heap → Prop} (h : Sit p l e R s m args below meth c bs st n0 cells slots P pc L [.ref z]) (hd : decode bs pc = .ok (.areturn, 1)) (hret : meth.sig.returnType = some t) (ht : t.isReference = true) (hlk : meth.locks = false) (hQ : ∀ hh, P hh → Q (some (.ref z)) hh) : Out p e below s st n0 cells slots Q := by
  obtain ⟨T, locs, k, n, X, q1, q2, q3, q4, q5, hx, hby, q⟩ := h
  exact Out.mk X q1 q2 q3 (hQ _ q5) (fun h => by rw [hret] at h; cases h) hlk fun fs hr => q _ (X.areturnOut hx rfl hret ht (hb hby hd) hr)
/-! a method's contract -/
abbrev Met1 (l : Launch) (y : MethodName) (bytes : ByteArray) (maxL : Nat) (ret : Option FieldType) (ws : List Jvm.Cond) (rm : Room) (Z : State) (as : Array Value) (h0 : Heap) (n0 : Nat) (Q : Option Value → Heap → Prop) : Prop :=
  MetFree l y (head1 (Jvm.Cond.code y bytes maxL ret :: ws) rm) (fun a U => a = as ∧ Z.Warmed39 U.vm ∧ U.heap = h0) (fun _ _ _ _ _ => True) (fun _ U o U' => ∃ v L, o = .returned v ∧ (Fr n0 L ∧ Q v U'.heap) ∧ FrameEnd U o U' L rm.cells rm.slots)
theorem Met1.of {y : MethodName} {bytes : ByteArray} {maxL : Nat} {ret : Option FieldType} {ws : List Jvm.Cond} {rm : Room} {as : Array Value} {h0 : Heap} {Q : Option Value → Heap → Prop} {L0 : Array Slot} (hpn : plainFor y = true) (hef : ∀ m, entryFrame m as maxL = mkF m 0 L0 []) (Z0 : n0 ≤ h0.size)
    (body : ∀ p e s m below meth c st, Sit p l e rm s m as below meth c bytes st n0 0 0 (fun h => h = h0) 0 L0 [] → Z.Warmed39 s.vm → s.vm.findClass y.cls = some m.cls → meth.sig.returnType = ret → meth.locks = false → meth.name = y.name → c.maxLocals = maxL → Out p e below s st n0 rm.cells rm.slots Q) : Met1 l y bytes maxL ret ws rm Z as h0 n0 Q := by
  refine MetFree.of_bodySF hpn hisR ?_
  intro p e s m args below meth c s₁ Bd hml0 hP hK
  obtain ⟨rfl, hZ, hh⟩ := hP
  have e0 : s₁.heap = h0 := by rw [← hh, Bd.state]; rfl
  exact body p e s m below meth c _ ⟨s₁, [], 0, 0, Stand.of_body Bd, Nat.le_refl _, Nat.le_refl _, Fr.nil n0, by rw [hh]; exact Z0, e0, Bd.exec, Bd.bytes, fun t k => castTop (hef m) k⟩ hZ (findClass_of_methodNamed Bd.named) Bd.returns Bd.notSynchronized (name_of_methodNamed Bd.named Bd.method).1 hml0
theorem Met1.mono {y : MethodName} {bytes : ByteArray} {maxL : Nat} {ret : Option FieldType} {ws : List Jvm.Cond} {rm : Room} {as : Array Value} {h0 : Heap} {Q Q' : Option Value → Heap → Prop} (h : Met1 l y bytes maxL ret ws rm Z as h0 n0 Q) (f : ∀ v hh, Q v hh → Q' v hh) : Met1 l y bytes maxL ret ws rm Z as h0 n0 Q' := by
  intro p e ha hc hk s m args below hf happ hP hK
  obtain ⟨n, o, h1, h2, h3, v, L, h4, ⟨h5, h6⟩, h7⟩ := h p e ha hc hk s m args below hf happ hP hK
  exact ⟨n, o, h1, h2, h3, v, L, h4, ⟨h5, f _ _ h6⟩, h7⟩
/-! a static call by its contract -/
theorem Sit.callS {index : Nat} {y : MethodName} {bytes : ByteArray} {maxL maxO : Nat} {ret : Option FieldType} {rm : Room} {Q : Option Value → Heap → Prop} {W : Nat} (argsL rest : List Value) (h : Sit p l e R s m args below meth c bs st n0 cells slots P pc L (argsL.reverse ++ rest)) (hZ : Z.Warmed39 s.vm) (hown : s.vm.findClass own = some m.cls)
    (w1 : (Cond.methodLink own index y).before a0 Z = true) (w2 : (Cond.static y).before a0 Z = true) (w3 : (Cond.initialized y.cls).before a0 Z = true) (w4 : (Cond.code y bytes maxL ret).before a0 Z = true) (hy : y.cls ≠ "java/lang/invoke/MethodHandle" ∧ y.cls ≠ "java/lang/invoke/VarHandle")
    (hM : ∀ h0, P h0 → n0 ≤ h0.size → Met1 l y bytes maxL ret [] rm Z argsL.toArray h0 n0 Q) (hml : c.maxLocals = maxO) (hsz : L.size = maxO) (hlen : ∀ sig, parseMethodDescriptor y.desc = some sig → argsL.length = sig.parameters.length) (hd : decode bs pc = .ok (.invokestatic index, 3)) (hW : 2 * 0 + (rest.map fun v => v.category).sum ≤ W)
    (hf : rm.frames + 1 ≤ R.frames) (hl : W + (maxL + 11) + rm.locals ≤ R.locals) (hcl : cells + rm.cells ≤ R.cells) (hsl : slots + rm.slots ≤ R.slots) (hp : pc + 3 = pc') :
    ∃ v : Option Value, Sit p l e R s m args below meth c bs st n0 (cells + rm.cells) (slots + rm.slots) (fun hh => Q v hh) pc' L (v.toList ++ rest) := by
  subst hp
  obtain ⟨T, locs, k, n, X, q1, q2, q3, q4, q5, hx, hby, q⟩ := h
  obtain ⟨v, _, ⟨T2, L2, k2, n2⟩, -, X2, ⟨Lc2, ⟨hN2, hQ2⟩, l2, y2, z2⟩, st2⟩ := Jvm.LawKit.callS X hx (y := y) hown (mvT hZ w1) (mvT hZ w2) (mvT hZ w3) (mvT hZ w4) hy (backOf (W := W) (Q := fun v hh L => Fr n0 L ∧ Q v hh) (hM T.heap q5 (Nat.le_trans q4 X.same.2.1)) hZ w4 w3 hf hl) (g := mkF m pc L (argsL.reverse ++ rest)) rfl (by rw [hml]; exact hsz) (argsL := argsL) (rest := rest) hlen rfl hW (hb hby hd) (fun _ _ => ⟨rfl, rfl, Nat.le_trans (Nat.add_le_add_right q1 _) hcl, Nat.le_trans (Nat.add_le_add_right q2 _) hsl⟩)
  dsimp only [Pt.U, Pt.locs, Pt.cells, Pt.slots] at X2 l2 y2 z2 st2 hQ2
  subst l2 y2 z2
  exact ⟨v, T2, _, _, _, X2, Nat.add_le_add_right q1 _, Nat.add_le_add_right q2 _, Fr.app q3 hN2, q4, hQ2, hx, hby, fun t z => q t (st2 t z)⟩
end OwnKit

section OwnBits
theorem ushr64_bv (x : Int64) (y : Int32) : (ushr64 x y).toBitVec = x.toBitVec >>> (y.toBitVec.toNat % 64) := by
  have h1 : (y &&& 0x3f).toBitVec.toNat = y.toBitVec.toNat % 64 := by
    show (y.toBitVec &&& (0x3f : Int32).toBitVec).toNat = _
    rw [BitVec.toNat_and]
    show y.toBitVec.toNat &&& 63 = _
    exact Nat.and_two_pow_sub_one_eq_mod _ 6
  have h2 : (y &&& 0x3f).toInt64.toBitVec.toNat = y.toBitVec.toNat % 64 := by
    show ((y &&& 0x3f).toBitVec.signExtend 64).toNat = _
    have hm : (y &&& 0x3f).toBitVec.msb = false := by
      rw [BitVec.msb_eq_false_iff_two_mul_lt, h1]; omega
    rw [BitVec.signExtend_eq_setWidth_of_msb_false hm, BitVec.toNat_setWidth, h1]; omega
  show x.toBitVec >>> ((y &&& 0x3f).toInt64.toBitVec % 64) = _
  rw [BitVec.ushiftRight_eq', BitVec.toNat_umod, h2]
  show x.toBitVec >>> (y.toBitVec.toNat % 64 % 64) = _
  rw [Nat.mod_mod]
theorem shl64_bv (x : Int64) (y : Int32) : (shl64 x y).toBitVec = x.toBitVec <<< (y.toBitVec.toNat % 64) := by
  have h1 : (y &&& 0x3f).toBitVec.toNat = y.toBitVec.toNat % 64 := by
    show (y.toBitVec &&& (0x3f : Int32).toBitVec).toNat = _
    rw [BitVec.toNat_and]
    show y.toBitVec.toNat &&& 63 = _
    exact Nat.and_two_pow_sub_one_eq_mod _ 6
  have hm : (y &&& 0x3f).toBitVec.msb = false := by
    rw [BitVec.msb_eq_false_iff_two_mul_lt, h1]; omega
  have h2 : (y &&& 0x3f).toInt64.toBitVec.toNat = y.toBitVec.toNat % 64 := by
    show ((y &&& 0x3f).toBitVec.signExtend 64).toNat = _
    rw [BitVec.signExtend_eq_setWidth_of_msb_false hm, BitVec.toNat_setWidth, h1]; omega
  have h3 : (y &&& 0x3f).toInt64.toBitVec.msb = false := by
    rw [BitVec.msb_eq_false_iff_two_mul_lt, h2]; omega
  have h4 : ((y &&& 0x3f).toInt64.toBitVec.smod 64).toNat = y.toBitVec.toNat % 64 := by
    rw [BitVec.smod_eq, h3]
    show ((y &&& 0x3f).toInt64.toBitVec.umod 64).toNat = _
    rw [BitVec.umod_eq, BitVec.toNat_umod, h2]
    show y.toBitVec.toNat % 64 % 64 = _
    rw [Nat.mod_mod]
  show x.toBitVec <<< ((y &&& 0x3f).toInt64.toBitVec.smod 64) = _
  rw [BitVec.shiftLeft_eq', h4]
theorem ushr32_bv (x y : Int32) : (ushr32 x y).toBitVec = x.toBitVec >>> (y.toBitVec.toNat % 32) := by
  have h1 : (y &&& 31).toBitVec.toNat = y.toBitVec.toNat % 32 := by
    show (y.toBitVec &&& (31 : Int32).toBitVec).toNat = _
    rw [BitVec.toNat_and]
    show y.toBitVec.toNat &&& 31 = _
    exact Nat.and_two_pow_sub_one_eq_mod _ 5
  show x.toBitVec >>> ((y &&& 31).toBitVec % 32) = _
  rw [BitVec.ushiftRight_eq', BitVec.toNat_umod, h1]
  show x.toBitVec >>> (y.toBitVec.toNat % 32 % 32) = _
  rw [Nat.mod_mod]
theorem shl32_bv (x y : Int32) : (x <<< (y &&& 31)).toBitVec = x.toBitVec <<< (y.toBitVec.toNat % 32) := by
  show x.toBitVec <<< ((y &&& 31).toBitVec.smod 32) = _
  rw [BitVec.shiftLeft_eq', sm32 y _ rfl]
end OwnBits

section OwnBit
def bit (x : Int64) (j : Nat) : Bool := x.toBitVec.getLsbD j
theorem bit_ext {x y : Int64} (h : ∀ j, j < 64 → bit x j = bit y j) : x = y := by
  apply Int64.toBitVec_inj.mp
  exact BitVec.eq_of_getLsbD_eq h
theorem bit_xor (x y : Int64) (j : Nat) : bit (x ^^^ y) j = (bit x j ^^ bit y j) := by
  show (x.toBitVec ^^^ y.toBitVec).getLsbD j = _
  rw [BitVec.getLsbD_xor]; rfl
theorem bit_and (x y : Int64) (j : Nat) : bit (x &&& y) j = (bit x j && bit y j) := by
  show (x.toBitVec &&& y.toBitVec).getLsbD j = _
  rw [BitVec.getLsbD_and]; rfl
theorem bit_or (x y : Int64) (j : Nat) : bit (x ||| y) j = (bit x j || bit y j) := by
  show (x.toBitVec ||| y.toBitVec).getLsbD j = _
  rw [BitVec.getLsbD_or]; rfl
theorem bit_zero (j : Nat) : bit (0 : Int64) j = false := by
  show (0#64).getLsbD j = false
  rw [BitVec.getLsbD_zero]
theorem bit_ushr (x : Int64) (q : Int32) (n : Nat) (h : q.toBitVec.toNat % 64 = n) (j : Nat) : bit (ushr64 x q) j = bit x (n + j) := by
  unfold bit
  rw [ushr64_bv, h, BitVec.getLsbD_ushiftRight]
theorem bit_shl (x : Int64) (q : Int32) (n : Nat) (h : q.toBitVec.toNat % 64 = n) (j : Nat) (hj : j < 64) : bit (shl64 x q) j = (decide (n ≤ j) && bit x (j - n)) := by
  unfold bit
  rw [shl64_bv, h, BitVec.getLsbD_shiftLeft]
  by_cases q : j < n
  · have : ¬ n ≤ j := by omega
    simp [q, this]
  · have : n ≤ j := by omega
    simp [q, this, hj]
theorem bit_ge (x : Int64) {j : Nat} (h : 64 ≤ j) : bit x j = false := BitVec.getLsbD_of_ge _ _ h
theorem bit_low {x : Int64} {c n : Nat} (h : x.toInt = (c : Int)) (hc : c < 2 ^ n) {j : Nat} (hj : n ≤ j) : bit x j = false := by
  have r := rng64 x
  have e : x.toBitVec.toNat = c := by
    have q : x.toInt = x.toBitVec.toInt := rfl
    rw [BitVec.toInt_eq_toNat_cond] at q
    have l := x.toBitVec.isLt
    split at q <;> omega
  show x.toBitVec.toNat.testBit j = false
  rw [e]
  exact Nat.testBit_lt_two_pow (Nat.lt_of_lt_of_le hc (Nat.pow_le_pow_right (by decide) hj))
end OwnBit

section OwnHeap
variable {p : Program} {l : Launch} {e : Env} {R : Room} {s : State} {m : MethodId} {args : Array Value} {below : List Frame} {meth : Method} {c : Code} {bs : ByteArray} {st : State} {n0 cells slots : Nat} {P P' : Heap → Prop} {pc pc' : Nat} {L L' : Array Slot} {S S' : List Value} {Z : State} {a0 : Array Value} {own : String} {hh hh' : Heap} {a b : Addr} {ty : FieldType} {vs : List Value} {v w : Value} {j : Nat}
/-- an array and its components -/
def AV (Z : State) (h : Heap) (a : Addr) (ty : FieldType) (vs : List Value) : Prop := ∃ cl : Cell, Arr Z h a cl ty ∧ cl.slots.toList = vs
theorem AV.lt (A : AV Z hh a ty vs) : a < hh.size := by obtain ⟨cl, A, -⟩ := A; exact A.lt
theorem AV.ext (A : AV Z hh a ty vs) (E : Ext hh hh') : AV Z hh' a ty vs := by obtain ⟨cl, A, r⟩ := A; exact ⟨cl, A.ext E, r⟩
theorem AV.other (A : AV Z hh a ty vs) (X : Wr hh hh' b j v) (q : a ≠ b) : AV Z hh' a ty vs := by obtain ⟨cl, A, r⟩ := A; exact ⟨cl, A.other X q, r⟩
theorem AV.keep {ws : List Addr} (A : AV Z hh a ty vs) (K : Keep hh hh' ws) (q : a ∉ ws) : AV Z hh' a ty vs := by obtain ⟨cl, A, r⟩ := A; exact ⟨cl, ⟨K.2.1 a cl A.1 q, A.2⟩, r⟩
theorem AV.set (A : AV Z hh a ty vs) (X : Wr hh hh' a j v) : AV Z hh' a ty (vs.set j v) := by
  obtain ⟨cl, A, rfl⟩ := A
  exact ⟨_, A.same X, by simp [Cell.setSlot]⟩
theorem AV.new {k : ClassId} {n : Int32} (A : Arr Z hh a (newA k ty n) ty) : AV Z hh a ty (List.replicate n.toNatClampNeg (defaultValue ty)) := ⟨_, A, by simp [newA]⟩
theorem AV.uniq {us : List Value} (A : AV Z hh a ty vs) (B : AV Z hh a ty us) : vs = us := by
  obtain ⟨c1, A, rfl⟩ := A
  obtain ⟨c2, B, rfl⟩ := B
  cases A.1.symm.trans B.1; rfl
theorem clamp_of {x : Int32} {i : Nat} (h : x.toInt = (i : Int)) : x.toNatClampNeg = i := by
  show x.toInt.toNat = i
  omega
theorem nlt0 {x : Int32} (h : 0 ≤ x.toInt) : ¬ x < 0 := by rw [Int32.lt_iff_toInt_lt]; show ¬ x.toInt < 0; omega
theorem AV.inb {cl : Cell} {x : Int32} (hx : 0 ≤ x.toInt) (r : cl.slots.toList = vs) (h : x.toNatClampNeg < vs.length) : ¬ (x < 0 ∨ cl.slots.size ≤ x.toNatClampNeg) := by
  rintro (q | q)
  · exact nlt0 hx q
  · subst r; simp at h; omega
theorem Sit.alen {n : Nat} (v : Int32) (h : Sit p l e R s m args below meth c bs st n0 cells slots P pc L (.ref a :: S)) (hZ : Z.Warmed39 s.vm) (hP : ∀ hh, P hh → ∃ vs, AV Z hh a ty vs ∧ vs.length = n) (hd : decode bs pc = .ok (.arraylength, 1)) (hv : n.toInt32 = v) (hp : pc + 1 = pc') : Sit p l e R s m args below meth c bs st n0 cells slots P pc' L (.int v :: S) := by
  subst hp hv
  refine h.go fun T _ _ _ X hx hby hT t z => ?_
  obtain ⟨vs, ⟨cl, A, r⟩, rfl⟩ := hP _ hT
  refine X.arraylength hx A.1 (State.isArrayOf_alike hZ.alike A.2.1) (g := mkF m pc L (.ref a :: S)) rfl rfl (hb hby hd) t ?_
  have e : cl.slots.size = vs.length := by rw [← r]; simp
  rw [e]; exact z
theorem Sit.iaload {x v : Int32} (h : Sit p l e R s m args below meth c bs st n0 cells slots P pc L (.int x :: .ref a :: S)) (hZ : Z.Warmed39 s.vm) (hx0 : 0 ≤ x.toInt) (hP : ∀ hh, P hh → ∃ vs, AV Z hh a .int vs ∧ vs[x.toNatClampNeg]? = some (.int v)) (hd : decode bs pc = .ok (.iaload, 1)) (hp : pc + 1 = pc') : Sit p l e R s m args below meth c bs st n0 cells slots P pc' L (.int v :: S) := by
  subst hp
  refine h.go fun T _ _ _ X hx hby hT t z => ?_
  obtain ⟨vs, ⟨cl, A, r⟩, q⟩ := hP _ hT
  exact X.iaload hx A.1 (State.isArrayOf_alike hZ.alike A.2.1) A.2.2 (AV.inb hx0 r (List.getElem?_eq_some_iff.mp q).1) (by subst r; simpa using q) (g := mkF m pc L (.int x :: .ref a :: S)) rfl rfl (hb hby hd) t z
theorem Sit.laload {x : Int32} {v : Int64} (h : Sit p l e R s m args below meth c bs st n0 cells slots P pc L (.int x :: .ref a :: S)) (hZ : Z.Warmed39 s.vm) (hx0 : 0 ≤ x.toInt) (hP : ∀ hh, P hh → ∃ vs, AV Z hh a .long vs ∧ vs[x.toNatClampNeg]? = some (.long v)) (hd : decode bs pc = .ok (.laload, 1)) (hp : pc + 1 = pc') : Sit p l e R s m args below meth c bs st n0 cells slots P pc' L (.long v :: S) := by
  subst hp
  refine h.go fun T _ _ _ X hx hby hT t z => ?_
  obtain ⟨vs, ⟨cl, A, r⟩, q⟩ := hP _ hT
  exact X.laload hx A.1 (State.isArrayOf_alike hZ.alike A.2.1) A.2.2 (AV.inb hx0 r (List.getElem?_eq_some_iff.mp q).1) (by subst r; simpa using q) (g := mkF m pc L (.int x :: .ref a :: S)) rfl rfl (hb hby hd) t z
theorem Sit.baload {x v : Int32} (h : Sit p l e R s m args below meth c bs st n0 cells slots P pc L (.int x :: .ref a :: S)) (hZ : Z.Warmed39 s.vm) (hx0 : 0 ≤ x.toInt) (hP : ∀ hh, P hh → ∃ vs, AV Z hh a .byte vs ∧ vs[x.toNatClampNeg]? = some (.int v)) (hd : decode bs pc = .ok (.baload, 1)) (hp : pc + 1 = pc') : Sit p l e R s m args below meth c bs st n0 cells slots P pc' L (.int v :: S) := by
  subst hp
  refine h.go fun T _ _ _ X hx hby hT t z => ?_
  obtain ⟨vs, ⟨cl, A, r⟩, q⟩ := hP _ hT
  exact X.baloadBytes hx A.1 (State.isArrayOf_alike hZ.alike A.2.1) A.2.2 (AV.inb hx0 r (List.getElem?_eq_some_iff.mp q).1) (by subst r; simpa using q) (g := mkF m pc L (.int x :: .ref a :: S)) rfl rfl (hb hby hd) t z
/-- a step that writes one slot of a new cell -/
theorem Sit.wr {sl : Nat} (h : Sit p l e R s m args below meth c bs st n0 cells slots P pc L S) (ha : n0 ≤ a) (hP' : ∀ hh hh', P hh → Wr hh hh' a sl v → P' hh')
    (f : ∀ T locs k n, Stand p l e R s m args below meth c T locs k n → p.tables.exec = Jvm.exec → c.code = bs → P T.heap → ∃ T' h', Stand p l e R s m args below meth c T' (locs ++ [⟨a, sl⟩]) k n ∧ T'.heap = h' ∧ Wr T.heap h' a sl v ∧ ∀ t, Steps p.tables e below (T'.setTop (mkF m pc' L' S')) t → Steps p.tables e below (T.setTop (mkF m pc L S)) t) :
    Sit p l e R s m args below meth c bs st n0 cells slots P' pc' L' S' := by
  obtain ⟨T, locs, k, n, X, q1, q2, q3, q4, q5, hx, hby, q⟩ := h
  obtain ⟨T', h', X', rfl, hW, stp⟩ := f T locs k n X hx hby q5
  exact ⟨T', _, k, n, X', q1, q2, Fr.snoc X' q3 ha, q4, hP' _ _ q5 hW, hx, hby, fun t z => q t (stp t z)⟩
theorem Sit.iastore {x i : Int32} (h : Sit p l e R s m args below meth c bs st n0 cells slots P pc L (.int x :: .int i :: .ref a :: S)) (hZ : Z.Warmed39 s.vm) (ha : n0 ≤ a) (hx0 : 0 ≤ i.toInt) (hP : ∀ hh, P hh → ∃ vs, AV Z hh a .int vs ∧ i.toNatClampNeg < vs.length) (hP' : ∀ hh hh', P hh → Wr hh hh' a i.toNatClampNeg (.int x) → P' hh') (hd : decode bs pc = .ok (.iastore, 1)) (hp : pc + 1 = pc') : Sit p l e R s m args below meth c bs st n0 cells slots P' pc' L S := by
  subst hp
  refine h.wr ha hP' fun T _ _ _ X hx hby hT => ?_
  obtain ⟨vs, ⟨cl, A, r⟩, q⟩ := hP _ hT
  exact stI X hx hZ rfl A (j := i) (AV.inb hx0 r q) (g := mkF m pc L (.int x :: .int i :: .ref a :: S)) rfl rfl (hb hby hd)
theorem Sit.lastore {x : Int64} {i : Int32} (h : Sit p l e R s m args below meth c bs st n0 cells slots P pc L (.long x :: .int i :: .ref a :: S)) (hZ : Z.Warmed39 s.vm) (ha : n0 ≤ a) (hx0 : 0 ≤ i.toInt) (hP : ∀ hh, P hh → ∃ vs, AV Z hh a .long vs ∧ i.toNatClampNeg < vs.length) (hP' : ∀ hh hh', P hh → Wr hh hh' a i.toNatClampNeg (.long x) → P' hh') (hd : decode bs pc = .ok (.lastore, 1)) (hp : pc + 1 = pc') : Sit p l e R s m args below meth c bs st n0 cells slots P' pc' L S := by
  subst hp
  refine h.wr ha hP' fun T _ _ _ X hx hby hT => ?_
  obtain ⟨vs, ⟨cl, A, r⟩, q⟩ := hP _ hT
  exact stJ X hx hZ rfl A (j := i) (AV.inb hx0 r q) (g := mkF m pc L (.long x :: .int i :: .ref a :: S)) rfl rfl (hb hby hd)
theorem Sit.bastore {x i : Int32} (h : Sit p l e R s m args below meth c bs st n0 cells slots P pc L (.int x :: .int i :: .ref a :: S)) (hZ : Z.Warmed39 s.vm) (ha : n0 ≤ a) (hx0 : 0 ≤ i.toInt) (hP : ∀ hh, P hh → ∃ vs, AV Z hh a .byte vs ∧ i.toNatClampNeg < vs.length) (hP' : ∀ hh hh', P hh → Wr hh hh' a i.toNatClampNeg (.int x.toInt8.toInt32) → P' hh') (hd : decode bs pc = .ok (.bastore, 1)) (hp : pc + 1 = pc') : Sit p l e R s m args below meth c bs st n0 cells slots P' pc' L S := by
  subst hp
  refine h.wr ha hP' fun T _ _ _ X hx hby hT => ?_
  obtain ⟨vs, ⟨cl, A, r⟩, q⟩ := hP _ hT
  exact stB X hx hZ rfl A (j := i) (AV.inb hx0 r q) (g := mkF m pc L (.int x :: .int i :: .ref a :: S)) rfl rfl (hb hby hd)
/-- a step that makes one cell -/
theorem Sit.mk1 {d : Nat} {F : Addr → Heap → Heap → Prop} {P' : Addr → Heap → Prop} {S' : Addr → List Value} (h : Sit p l e R s m args below meth c bs st n0 cells slots P pc L S) (hP' : ∀ hh hh' a, P hh → a = hh.size → Ext hh hh' → F a hh hh' → P' a hh')
    (f : ∀ T locs k n, Stand p l e R s m args below meth c T locs k n → k ≤ cells → n ≤ slots → p.tables.exec = Jvm.exec → c.code = bs → P T.heap → ∃ T' h', Stand p l e R s m args below meth c T' locs (k + 1) (n + d) ∧ T'.heap = h' ∧ Ext T.heap h' ∧ F T.heap.size T.heap h' ∧ ∀ t, Steps p.tables e below (T'.setTop (mkF m pc' L' (S' T.heap.size))) t → Steps p.tables e below (T.setTop (mkF m pc L S)) t) :
    ∃ a, n0 ≤ a ∧ Sit p l e R s m args below meth c bs st n0 (cells + 1) (slots + d) (P' a) pc' L' (S' a) := by
  obtain ⟨T, locs, k, n, X, q1, q2, q3, q4, q5, hx, hby, q⟩ := h
  obtain ⟨T', h', X', rfl, hE, hF, stp⟩ := f T locs k n X q1 q2 hx hby q5
  exact ⟨T.heap.size, Nat.le_trans q4 X.same.2.1, T', _, _, _, X', Nat.add_le_add_right q1 _, Nat.add_le_add_right q2 _, q3, q4, hP' _ _ _ q5 rfl hE hF, hx, hby, fun t z => q t (stp t z)⟩
theorem Sit.newarr {n : Int32} {aty : ArrayType} {P' : Addr → Heap → Prop} (cap : Nat) (h : Sit p l e R s m args below meth c bs st n0 cells slots P pc L (.int n :: S)) (hZ : Z.Warmed39 s.vm) (w : (Cond.arrayClass (newarray.typeOf aty)).before a0 Z = true) (hn : 0 ≤ n.toInt) (hcap : n.toNatClampNeg ≤ cap) (hB : cap * 8 ≤ 536870912) (hc : cells + 1 ≤ R.cells) (hl : slots + cap ≤ R.slots)
    (hP' : ∀ hh hh' a, P hh → a = hh.size → Ext hh hh' → AV Z hh' a (newarray.typeOf aty) (List.replicate n.toNatClampNeg (defaultValue (newarray.typeOf aty))) → P' a hh') (hd : decode bs pc = .ok (.newarray aty, 2)) (hp : pc + 2 = pc') : ∃ a, n0 ≤ a ∧ Sit p l e R s m args below meth c bs st n0 (cells + 1) (slots + cap) (P' a) pc' L (.ref a :: S) := by
  subst hp
  refine h.mk1 (F := fun a _ hh' => AV Z hh' a (newarray.typeOf aty) (List.replicate n.toNatClampNeg (defaultValue (newarray.typeOf aty)))) (S' := fun a => .ref a :: S) hP' fun T locs k i X q1 q2 hx hby hT => ?_
  obtain ⟨T', h', cA, X', e', E', A', st'⟩ := newP X hx hZ w rfl (g := mkF m pc L (.int n :: S)) rfl (hb hby hd) rfl (nlt0 hn) hcap hB (Nat.le_trans (Nat.add_le_add_right q1 1) hc) (Nat.le_trans (Nat.add_le_add_right q2 cap) hl)
  exact ⟨T', h', X', e', E', AV.new A', st'⟩
theorem neN {a b : Nat} (h : a ≠ b) : a ≠ b := h
end OwnHeap

section OwnObj
variable {p : Program} {l : Launch} {e : Env} {R : Room} {s : State} {m : MethodId} {args : Array Value} {below : List Frame} {meth : Method} {c : Code} {bs : ByteArray} {st : State} {n0 cells slots : Nat} {P P' : Heap → Prop} {pc pc' : Nat} {L L' : Array Slot} {S S' : List Value} {Z : State} {a0 : Array Value} {own : String} {hh hh' : Heap} {a b : Addr} {ty : FieldType} {vs vd : List Value} {v w : Value} {j : Nat}
theorem Sit.go2 (h : Sit p l e R s m args below meth c bs st n0 cells slots P pc L S)
    (f : ∀ T locs k n, Stand p l e R s m args below meth c T locs k n → p.tables.exec = Jvm.exec → c.code = bs → P T.heap → ∃ T', Stand p l e R s m args below meth c T' locs k n ∧ T'.heap = T.heap ∧ ∀ t, Steps p.tables e below (T'.setTop (mkF m pc' L' S')) t → Steps p.tables e below (T.setTop (mkF m pc L S)) t) :
    Sit p l e R s m args below meth c bs st n0 cells slots P pc' L' S' := by
  obtain ⟨T, locs, k, n, X, q1, q2, q3, q4, q5, hx, hby, q⟩ := h
  obtain ⟨T', X', e', f'⟩ := f T locs k n X hx hby q5
  exact ⟨T', locs, k, n, X', q1, q2, q3, q4, by rw [e']; exact q5, hx, hby, fun t z => q t (f' t z)⟩
theorem Sit.getf {O n d : String} {index : Nat} (v : Value) (h : Sit p l e R s m args below meth c bs st n0 cells slots P pc L (.ref a :: S)) (hZ : Z.Warmed39 s.vm) (hown : s.vm.findClass own = some m.cls) (w : (Cond.fieldLink own index O n d).before a0 Z = true) (hF : ∀ hh, P hh → Fld Z hh a O n d v) (hd : decode bs pc = .ok (.getfield index, 3)) (hp : pc + 3 = pc') : Sit p l e R s m args below meth c bs st n0 cells slots P pc' L (v :: S) := by
  subst hp
  exact h.go2 fun T locs k n X hx hby hT => getF X hx hZ hown (host := "") (Or.inl w) Via.refl rfl (hF _ hT) (g := mkF m pc L (.ref a :: S)) rfl rfl (hb hby hd)
theorem Sit.putf {C O n d : String} {index kk : Nat} {old : Value} (ty : FieldType) (h : Sit p l e R s m args below meth c bs st n0 cells slots P pc L (v :: .ref a :: S)) (hZ : Z.Warmed39 s.vm) (hown : s.vm.findClass own = some m.cls) (w : (Cond.fieldLink own index O n d).before a0 Z = true) (ha : n0 ≤ a) (hF : ∀ hh, P hh → Fld Z hh a O n d old ∧ Exa Z hh a C) (hL : (Cond.lays C O n d).before a0 Z = true ∨ ((Cond.laysFinal C O n d).before a0 Z = true ∧ own = O ∧ meth.name = "<init>")) (wi : (Cond.instantiable C kk).before a0 Z = true)
    (hty : parseFieldDescriptor d = some ty) (hn : narrow ty v = v) (hf : fits ty v = true) (hP' : ∀ hh hh', P hh → Wr hh hh' a (Jvm.RoadKit.slotOf Z O n d) v → P' hh') (hd : decode bs pc = .ok (.putfield index, 3)) (hp : pc + 3 = pc') : Sit p l e R s m args below meth c bs st n0 cells slots P' pc' L S := by
  subst hp
  exact h.wr ha hP' fun T locs k i X hx hby hT => putF X hx hZ hown (host := "") (Or.inl w) Via.refl rfl (hF _ hT).1 (hF _ hT).2 hL wi hty hn hf (g := mkF m pc L (v :: .ref a :: S)) rfl rfl (hb hby hd)
theorem Sit.newo {C : String} {index d : Nat} {P' : Addr → Heap → Prop} (h : Sit p l e R s m args below meth c bs st n0 cells slots P pc L S) (hZ : Z.Warmed39 s.vm) (hown : s.vm.findClass own = some m.cls) (w1 : (Cond.classLink own index C).before a0 Z = true) (w2 : (Cond.instantiable C d).before a0 Z = true) (w3 : (Cond.initialized C).before a0 Z = true) (hc : cells + 1 ≤ R.cells) (hl : slots + d ≤ R.slots)
    (hP' : ∀ hh hh' a, P hh → a = hh.size → Ext hh hh' → (Exa Z hh' a C ∧ ∀ {O nm d : String} {ty : FieldType}, Laid Z a0 C O nm d → parseFieldDescriptor d = some ty → Fld Z hh' a O nm d (defaultValue ty)) → P' a hh') (hd : decode bs pc = .ok (.new index, 3)) (hp : pc + 3 = pc') : ∃ a, n0 ≤ a ∧ Sit p l e R s m args below meth c bs st n0 (cells + 1) (slots + d) (P' a) pc' L (.ref a :: S) := by
  subst hp
  refine h.mk1 (F := fun a _ hh' => Exa Z hh' a C ∧ ∀ {O nm d : String} {ty : FieldType}, Laid Z a0 C O nm d → parseFieldDescriptor d = some ty → Fld Z hh' a O nm d (defaultValue ty)) (S' := fun a => .ref a :: S) hP' fun T locs k i X q1 q2 hx hby hT => ?_
  obtain ⟨T', h', X', e', E', A', D', -, st'⟩ := newO X hx hZ hown w1 w2 w3 rfl (g := mkF m pc L S) rfl (hb hby hd) (Nat.le_trans (Nat.add_le_add_right q1 1) hc) (Nat.le_trans (Nat.add_le_add_right q2 d) hl)
  exact ⟨T', h', X', e', E', ⟨A', D'⟩, st'⟩
theorem Sit.initO {index maxO : Nat} {W : Nat} (h : Sit p l e R s m args below meth c bs st n0 cells slots P pc L (.ref a :: S)) (hZ : Z.Warmed39 s.vm) (hown : s.vm.findClass own = some m.cls) (w1 : (Cond.methodLink own index Lib.objectInit).before a0 Z = true) (w2 : (Cond.instanceMethod Lib.objectInit).before a0 Z = true) (w3 : (Cond.code Lib.objectInit object_method_1_code 1 none).before a0 Z = true) (hml : c.maxLocals = maxO) (hsz : L.size = maxO) (hd : decode bs pc = .ok (.invokespecial index, 3))
    (hW : 2 * 0 + (S.map fun v => v.category).sum ≤ W) (hf : 1 ≤ R.frames) (hl : W + 12 ≤ R.locals) (hp : pc + 3 = pc') : Sit p l e R s m args below meth c bs st n0 cells slots P pc' L S := by
  subst hp
  exact h.go2 fun T locs k n X hx hby hT => Jvm.RoadKit.initO X hx hZ hown w1 w2 w3 rfl (g := mkF m pc L (.ref a :: S)) rfl (by rw [hml]; exact hsz) rfl (hb hby hd) hf (W := W) hW hl
/-- a virtual call by the contract of the body that is selected -/
theorem Sit.callV {C : String} {index : Nat} {y : MethodName} {bytes : ByteArray} {maxL maxO : Nat} {ret : Option FieldType} {rm : Room} {Q : Option Value → Heap → Prop} {W : Nat} (argsL rest : List Value) (h : Sit p l e R s m args below meth c bs st n0 cells slots P pc L (argsL.reverse ++ .ref a :: rest)) (hZ : Z.Warmed39 s.vm) (hown : s.vm.findClass own = some m.cls)
    (w1 : (Cond.methodLink own index y).before a0 Z = true) (w2 : (Cond.declares y).before a0 Z = true) (w3 : (Cond.selects C y y).before a0 Z = true) (w4 : (Cond.instanceMethod y).before a0 Z = true) (w5 : (Cond.code y bytes maxL ret).before a0 Z = true) (w6 : (Cond.initialized y.cls).before a0 Z = true) (hy : y.cls ≠ "java/lang/invoke/MethodHandle" ∧ y.cls ≠ "java/lang/invoke/VarHandle") (hE : ∀ hh, P hh → Exa Z hh a C)
    (hM : ∀ h0, P h0 → n0 ≤ h0.size → Met1 l y bytes maxL ret [] rm Z (.ref a :: argsL).toArray h0 n0 Q) (hml : c.maxLocals = maxO) (hsz : L.size = maxO) (hlen : ∀ sig, parseMethodDescriptor y.desc = some sig → argsL.length = sig.parameters.length) (hd : decode bs pc = .ok (.invokevirtual index, 3)) (hW : 2 * 0 + (rest.map fun v => v.category).sum ≤ W)
    (hf : rm.frames + 1 ≤ R.frames) (hl : W + (maxL + 11) + rm.locals ≤ R.locals) (hcl : cells + rm.cells ≤ R.cells) (hsl : slots + rm.slots ≤ R.slots) (hp : pc + 3 = pc') :
    ∃ v : Option Value, Sit p l e R s m args below meth c bs st n0 (cells + rm.cells) (slots + rm.slots) (fun hh => Q v hh) pc' L (v.toList ++ rest) := by
  subst hp
  obtain ⟨T, locs, k, n, X, q1, q2, q3, q4, q5, hx, hby, q⟩ := h
  obtain ⟨cq, kq, qa, qb, qc⟩ := isOf hZ rfl (hE _ q5)
  obtain ⟨v, _, ⟨T2, L2, k2, n2⟩, -, X2, ⟨Lc2, ⟨hN2, hQ2⟩, l2, y2, z2⟩, st2⟩ := X.virtualBack hx (y := y) (z := y) hown (mvT hZ w1) (mvT hZ w2) (notFace_of_selects (args := #[]) (mvT hZ w3)) (mvT hZ w3) (mvT hZ w4) hy (backOf (W := W) (Q := fun v hh L => Fr n0 L ∧ Q v hh) (hM T.heap q5 (Nat.le_trans q4 X.same.2.1)) hZ w5 w6 hf hl) qa qc (g := mkF m pc L (argsL.reverse ++ .ref a :: rest)) rfl (by rw [hml]; exact hsz) (Steps.refl _) (argsL := argsL) (rest := rest) hlen rfl hW (hb hby hd) (fun _ _ => ⟨rfl, rfl, Nat.le_trans (Nat.add_le_add_right q1 _) hcl, Nat.le_trans (Nat.add_le_add_right q2 _) hsl⟩)
  dsimp only [Pt.U, Pt.locs, Pt.cells, Pt.slots] at X2 l2 y2 z2 st2 hQ2
  subst l2 y2 z2
  exact ⟨v, T2, _, _, _, X2, Nat.add_le_add_right q1 _, Nat.add_le_add_right q2 _, Fr.app q3 hN2, q4, hQ2, hx, hby, fun t z => q t (st2.trans z)⟩
/-- a private method (invokevirtual) by its contract -/
theorem Sit.callP {C : String} {index kk : Nat} {y : MethodName} {bytes : ByteArray} {maxL maxO : Nat} {ret : Option FieldType} {rm : Room} {Q : Option Value → Heap → Prop} {W : Nat} (argsL rest : List Value) (h : Sit p l e R s m args below meth c bs st n0 cells slots P pc L (argsL.reverse ++ .ref a :: rest)) (hZ : Z.Warmed39 s.vm) (hown : s.vm.findClass own = some m.cls)
    (w1 : (Cond.methodLink own index y).before a0 Z = true) (w2 : (Cond.instanceMethod y).before a0 Z = true) (w3 : (Cond.privateMethod y).before a0 Z = true) (w4 : (Cond.instantiable y.cls kk).before a0 Z = true) (w5 : (Cond.code y bytes maxL ret).before a0 Z = true) (w6 : (Cond.initialized y.cls).before a0 Z = true) (hy : y.cls ≠ "java/lang/invoke/MethodHandle" ∧ y.cls ≠ "java/lang/invoke/VarHandle") (hE : ∀ hh, P hh → Exa Z hh a C)
    (hM : ∀ h0, P h0 → n0 ≤ h0.size → Met1 l y bytes maxL ret [] rm Z (.ref a :: argsL).toArray h0 n0 Q) (hml : c.maxLocals = maxO) (hsz : L.size = maxO) (hlen : ∀ sig, parseMethodDescriptor y.desc = some sig → argsL.length = sig.parameters.length) (hd : decode bs pc = .ok (.invokevirtual index, 3)) (hW : 2 * 0 + (rest.map fun v => v.category).sum ≤ W)
    (hf : rm.frames + 1 ≤ R.frames) (hl : W + (maxL + 11) + rm.locals ≤ R.locals) (hcl : cells + rm.cells ≤ R.cells) (hsl : slots + rm.slots ≤ R.slots) (hp : pc + 3 = pc') :
    ∃ v : Option Value, Sit p l e R s m args below meth c bs st n0 (cells + rm.cells) (slots + rm.slots) (fun hh => Q v hh) pc' L (v.toList ++ rest) := by
  subst hp
  obtain ⟨T, locs, k, n, X, q1, q2, q3, q4, q5, hx, hby, q⟩ := h
  have hi : (Cond.instantiable y.cls kk).before args s = true := mvT hZ w4
  obtain ⟨ci, ki, i1, i2, -, i4, -⟩ := Cond.instantiable_spec hi
  have hp : s.PrivateAt y := Cond.privateMethod_at (mvP hZ w3 (args := #[]))
  have hsel : (Cond.selects y.cls y y).before args s = true := Jvm.Stand.selects_self_of_private i1 i2 (by simp at i4; exact i4.1) hp (mvT hZ w2) hy
  obtain ⟨cq, c1, c2⟩ := (hE _ q5).cell
  obtain ⟨v, _, ⟨T2, L2, k2, n2⟩, -, X2, ⟨Lc2, ⟨hN2, hQ2⟩, l2, y2, z2⟩, st2⟩ := X.privateBack hx (y := y) hown (mvT hZ w1) (mvT hZ w2) hsel hp (mvT hZ w5) hy (backOf (W := W) (Q := fun v hh L => Fr n0 L ∧ Q v hh) (hM T.heap q5 (Nat.le_trans q4 X.same.2.1)) hZ w5 w6 hf hl) (g := mkF m pc L (argsL.reverse ++ .ref a :: rest)) rfl (by rw [hml]; exact hsz) (Steps.refl _) (a := a) c1 c2 (argsL := argsL) (rest := rest) hlen rfl hW (hb hby hd) (fun _ _ => ⟨rfl, rfl, Nat.le_trans (Nat.add_le_add_right q1 _) hcl, Nat.le_trans (Nat.add_le_add_right q2 _) hsl⟩)
  dsimp only [Pt.U, Pt.locs, Pt.cells, Pt.slots] at X2 l2 y2 z2 st2 hQ2
  subst l2 y2 z2
  exact ⟨v, T2, _, _, _, X2, Nat.add_le_add_right q1 _, Nat.add_le_add_right q2 _, Fr.app q3 hN2, q4, hQ2, hx, hby, fun t z => q t (st2.trans z)⟩
/-- a constructor by its contract -/
theorem Sit.callI {index : Nat} {y : MethodName} {bytes : ByteArray} {maxL maxO : Nat} {rm : Room} {Q : Option Value → Heap → Prop} {W : Nat} (argsL rest : List Value) (h : Sit p l e R s m args below meth c bs st n0 cells slots P pc L (argsL.reverse ++ .ref a :: rest)) (hy1 : y.name = "<init>") (hZ : Z.Warmed39 s.vm) (hown : s.vm.findClass own = some m.cls)
    (w1 : (Cond.methodLink own index y).before a0 Z = true) (w2 : (Cond.instanceMethod y).before a0 Z = true) (w3 : (Cond.code y bytes maxL none).before a0 Z = true) (w4 : (Cond.initialized y.cls).before a0 Z = true) (hy : y.cls ≠ "java/lang/invoke/MethodHandle" ∧ y.cls ≠ "java/lang/invoke/VarHandle")
    (hM : ∀ h0, P h0 → n0 ≤ h0.size → Met1 l y bytes maxL none [] rm Z (.ref a :: argsL).toArray h0 n0 Q) (hml : c.maxLocals = maxO) (hsz : L.size = maxO) (hlen : ∀ sig, parseMethodDescriptor y.desc = some sig → argsL.length = sig.parameters.length) (hd : decode bs pc = .ok (.invokespecial index, 3)) (hW : 2 * 0 + (rest.map fun v => v.category).sum ≤ W)
    (hf : rm.frames + 1 ≤ R.frames) (hl : W + (maxL + 11) + rm.locals ≤ R.locals) (hcl : cells + rm.cells ≤ R.cells) (hsl : slots + rm.slots ≤ R.slots) (hp : pc + 3 = pc') :
    ∃ v : Option Value, Sit p l e R s m args below meth c bs st n0 (cells + rm.cells) (slots + rm.slots) (fun hh => Q v hh) pc' L (v.toList ++ rest) := by
  subst hp
  obtain ⟨T, locs, k, n, X, q1, q2, q3, q4, q5, hx, hby, q⟩ := h
  obtain ⟨v, _, ⟨T2, L2, k2, n2⟩, -, X2, ⟨Lc2, ⟨hN2, hQ2⟩, l2, y2, z2⟩, st2⟩ := X.specialBack hx (y := y) hy1 hown (mvT hZ w1) (mvT hZ w2) (mvT hZ w3) hy (backOf (W := W) (Q := fun v hh L => Fr n0 L ∧ Q v hh) (hM T.heap q5 (Nat.le_trans q4 X.same.2.1)) hZ w3 w4 hf hl) (g := mkF m pc L (argsL.reverse ++ .ref a :: rest)) rfl (by rw [hml]; exact hsz) (Steps.refl _) (a := a) (argsL := argsL) (rest := rest) hlen rfl hW (hb hby hd) (fun _ _ => ⟨rfl, rfl, Nat.le_trans (Nat.add_le_add_right q1 _) hcl, Nat.le_trans (Nat.add_le_add_right q2 _) hsl⟩)
  dsimp only [Pt.U, Pt.locs, Pt.cells, Pt.slots] at X2 l2 y2 z2 st2 hQ2
  subst l2 y2 z2
  exact ⟨v, T2, _, _, _, X2, Nat.add_le_add_right q1 _, Nat.add_le_add_right q2 _, Fr.app q3 hN2, q4, hQ2, hx, hby, fun t z => q t (st2.trans z)⟩
/-! System.arraycopy between two arrays of one plain kind -/
theorem AV.arv {k : ClassId} {n : Int32} {d : Value} (A : AV Z hh a ty vs) (hn : n.toInt = (vs.length : Int)) (hf : ∀ u ∈ vs, fits ty u = true) : ∃ k, Arv Z hh a k ty n vs d := by
  obtain ⟨cl, A, r⟩ := A
  have e : cl.slots.size = vs.length := by rw [← r]; simp
  have e2 : n.toNatClampNeg = vs.length := clamp_of hn
  refine ⟨cl.cls, cl, A, rfl, by rw [e, e2], nlt0 (by omega), fun i hi => ?_, fun i hi => ?_⟩
  · have hi' : i < vs.length := by omega
    rw [List.getD_eq_getElem?_getD, List.getElem?_eq_getElem hi']
    subst r
    simp
  · have hi' : i < vs.length := by omega
    rw [List.getD_eq_getElem?_getD, List.getElem?_eq_getElem hi']
    exact hf _ (List.getElem_mem hi')
theorem Arv.av {k : ClassId} {n : Int32} {d : Value} (A : Arv Z hh a k ty n vs d) (hn : n.toInt = (vs.length : Int)) : AV Z hh a ty vs := by
  obtain ⟨cl, A, -, e, -, H, -⟩ := A
  have e2 : n.toNatClampNeg = vs.length := clamp_of hn
  refine ⟨cl, A, List.ext_getElem? fun i => ?_⟩
  by_cases hi : i < vs.length
  · have q := H i (by omega)
    rw [List.getD_eq_getElem?_getD, List.getElem?_eq_getElem hi] at q
    rw [List.getElem?_eq_getElem hi]
    simpa using q
  · have hl : cl.slots.toList.length ≤ i := by rw [Array.length_toList, e, e2]; omega
    rw [List.getElem?_eq_none hl, List.getElem?_eq_none (by omega)]
theorem Sit.acopy {index maxO sn dn nn : Nat} {sp dp cn : Int32} {W : Nat} (vs vd : List Value) (hr : refKind ty = false) (h : Sit p l e R s m args below meth c bs st n0 cells slots P pc L (.int cn :: .int dp :: .ref b :: .int sp :: .ref a :: S)) (hZ : Z.Warmed39 s.vm) (hown : s.vm.findClass own = some m.cls)
    (w1 : (Cond.methodLink own index Jvm.Stand.acN).before a0 Z = true) (w2 : (Cond.native Jvm.Stand.acN).before a0 Z = true) (w3 : (Cond.static Jvm.Stand.acN).before a0 Z = true) (w4 : (Cond.initialized "java/lang/System").before a0 Z = true) (hA : ∀ hh, P hh → AV Z hh a ty vs ∧ AV Z hh b ty vd) (hfs : ∀ u ∈ vs, fits ty u = true) (hfd : ∀ u ∈ vd, fits ty u = true) (hls : vs.length < 2147483648) (hld : vd.length < 2147483648)
    (hsp : sp.toInt = (sn : Int)) (hdp : dp.toInt = (dn : Int)) (hcn : cn.toInt = (nn : Int)) (h4 : sn + nn ≤ vs.length) (h5 : dn + nn ≤ vd.length) (hb' : n0 ≤ b) (hP' : ∀ hh hh', P hh → Keep hh hh' [b] → AV Z hh' b ty (vd.take dn ++ (vs.drop sn).take nn ++ vd.drop (dn + nn)) → P' hh')
    (hml : c.maxLocals = maxO) (hsz : L.size = maxO) (hd : decode bs pc = .ok (.invokestatic index, 3)) (hW : 2 * 0 + (S.map fun v => v.category).sum ≤ W) (hf : 1 ≤ R.frames) (hl : W + (nativeFrameWords "java/lang/System" "arraycopy" 5 + 11) ≤ R.locals) (hp : pc + 3 = pc') : Sit p l e R s m args below meth c bs st n0 cells slots P' pc' L S := by
  subst hp
  obtain ⟨T, locs, k, n, X, q1, q2, q3, q4, q5, hx, hby, q⟩ := h
  obtain ⟨A, B⟩ := hA _ q5
  have i1 : (Int32.ofNat vs.length).toInt = (vs.length : Int) := Int32.toInt_ofNat_of_lt hls
  have i2 : (Int32.ofNat vd.length).toInt = (vd.length : Int) := Int32.toInt_ofNat_of_lt hld
  obtain ⟨k1, A1⟩ := A.arv (k := 0) (d := .null) i1 hfs
  obtain ⟨k2, B1⟩ := B.arv (k := 0) (d := .null) i2 hfd
  have c1 := clamp_of hsp
  have c2 := clamp_of hdp
  have c3 := clamp_of hcn
  have c4 := clamp_of i1
  have c5 := clamp_of i2
  have us : (vs.drop sn).take nn = (List.range cn.toNatClampNeg).map fun i => vs.getD (sp.toNatClampNeg + i) .null := by
    rw [c1, c3]
    apply List.ext_getElem?
    intro i
    by_cases hi : i < nn
    · rw [List.getElem?_take_of_lt hi, List.getElem?_drop, List.getElem?_map, List.getElem?_range hi]
      have : sn + i < vs.length := by omega
      simp [List.getD_eq_getElem?_getD, List.getElem?_eq_getElem this]
    · rw [List.getElem?_eq_none (by simp; omega), List.getElem?_eq_none (by simp; omega)]
  obtain ⟨T', h', L', X', e', N', K', B', st'⟩ := cpA X hx hZ hown w1 w2 w3 w4 rfl A1 B1 (us := (vs.drop sn).take nn) (Or.inl ⟨rfl, hr⟩) (sp := sp) (dp := dp) (nn := cn) (nlt0 (by omega)) (nlt0 (by omega)) (nlt0 (by omega)) (by rw [c1, c3, c4]; exact h4) (by rw [c2, c3, c5]; exact h5) us (by rw [c2, c3]; exact h5) q3 hb' (g := mkF m pc L (.int cn :: .int dp :: .ref b :: .int sp :: .ref a :: S)) rfl (by rw [hml]; exact hsz) rfl (hb hby hd) hf (W := W) hW hl
  rw [c2, c3] at B'
  have B2 := Arv.av B' (by rw [i2]; simp; omega)
  exact ⟨T', L', k, n, X', q1, q2, N', q4, by rw [e']; exact hP' _ _ q5 K' B2, hx, hby, fun t z => q t (st' t z)⟩
end OwnObj


def mxF (a b : Int32) : Int32 := if a.toInt < b.toInt then b else a


section OwnNlz
/-- r is the number of leading zeros of x, for x ≥ 0 -/
def nlzP (x : Int) (r : Nat) : Prop := (x = 0 ∧ r = 32) ∨ (0 < x ∧ r ≤ 31 ∧ (2 ^ (31 - r) : Nat) ≤ x ∧ x < (2 ^ (32 - r) : Nat))
theorem ush32 (x q : Int32) (k : Nat) (hk : q.toBitVec.toNat % 32 = k) (h0 : 0 < k) (hx : 0 ≤ x.toInt) : (ushr32 x q).toInt = x.toInt / (2 ^ k : Nat) := by
  have h := c_iushr x q k hk h0
  have e : ushr32 x q = (x.toUInt32 >>> (q &&& 31).toUInt32).toInt32 := rfl
  have r := rng32 x
  rw [e, h, Int.emod_eq_of_lt hx (by omega)]
end OwnNlz


section OwnHob
theorem min_shr : ∀ r : Fin 32, r.val = 0 ∨ ushr32 (-2147483648 : Int32) (Int32.ofNat r.val) = Int32.ofNat (2 ^ (31 - r.val)) := by decide +kernel
theorem hob_val {a : Int32} {r : Nat} (ha : 0 < a.toInt) (h : nlzP a.toInt r) : ∃ k : Nat, r + k = 31 ∧ (a &&& ushr32 (-2147483648 : Int32) (Int32.ofNat r)) = Int32.ofNat (2 ^ k) ∧ k ≤ 30 ∧ ((2 ^ k : Nat) : Int) ≤ a.toInt ∧ a.toInt < ((2 ^ (k + 1) : Nat) : Int) := by
  rcases h with ⟨e, -⟩ | ⟨-, h1, h2, h3⟩
  · omega
  have ra := rng32 a
  have r0 : r ≠ 0 := fun e => by subst e; simp only [Nat.reducePow, Nat.reduceSub] at h2; omega
  obtain ⟨k, hk⟩ : ∃ k : Nat, r + k = 31 := ⟨31 - r, by omega⟩
  have e1 : 31 - r = k := by omega
  have e2 : 32 - r = k + 1 := by omega
  rw [e1] at h2
  rw [e2] at h3
  refine ⟨k, hk, ?_, by omega, h2, h3⟩
  have q := (min_shr ⟨r, by omega⟩).resolve_left r0
  simp only at q
  rw [q, e1]
  apply Int32.toBitVec_inj.mp
  apply BitVec.eq_of_toNat_eq
  have an : a.toBitVec.toNat = a.toInt.toNat := by
    have e : a.toInt = a.toBitVec.toInt := rfl
    rw [BitVec.toInt_eq_toNat_cond] at e
    have l := a.toBitVec.isLt
    split at e <;> omega
  have pn : (Int32.ofNat (2 ^ k)).toBitVec.toNat = 2 ^ k := by
    show (BitVec.ofNat 32 (2 ^ k)).toNat = _
    rw [BitVec.toNat_ofNat]
    have : 2 ^ k < 2 ^ 32 := Nat.pow_lt_pow_right (by decide) (by omega)
    exact Nat.mod_eq_of_lt this
  show (a.toBitVec &&& (Int32.ofNat (2 ^ k)).toBitVec).toNat = _
  rw [BitVec.toNat_and, pn, an]
  have t : a.toInt.toNat.testBit k = true := Nat.testBit_of_two_pow_le_and_two_pow_add_one_gt (by omega) (by omega)
  apply Nat.eq_of_testBit_eq
  intro i
  rw [Nat.testBit_and, Nat.testBit_two_pow]
  by_cases e : k = i
  · subst e; rw [t]; simp
  · simp [e]
end OwnHob

section OwnIB
/-- the k-th bit of a row of words -/
def bitAt (ws : List Int64) (k : Nat) : Bool := bit (ws.getD (k / 64) 0) (k % 64)
def Inv (S : List Int) (b h g : Int) (ws : List Int64) : Prop :=
  S.Nodup ∧ 0 ≤ b ∧ b % 64 = 0 ∧ 0 ≤ h ∧ 2 * h + 1 < (ws.length : Int) ∧ 4 ≤ ws.length ∧ (S = [] → h = 0 ∧ g = -1) ∧ (∀ x ∈ S, b + 64 * h ≤ x ∧ x ≤ g) ∧ (S ≠ [] → (g - b) / 64 < (ws.length : Int) ∧ b ≤ g) ∧ (S ≠ [] → ∃ x ∈ S, x < b + 64 * h + 64) ∧ ∀ k : Nat, k < 64 * ws.length → (bitAt ws k = true ↔ (b + (k : Int)) ∈ S)
theorem one_bit {x : Int32} {n : Nat} (h : x.toBitVec.toNat % 64 = n) {j : Nat} (hj : j < 64) : bit (shl64 (1 : Int64) x) j = decide (j = n) := by
  rw [bit_shl _ x n h j hj]
  have e : ∀ i, bit (1 : Int64) i = decide (i = 0) := fun i => by
    show (1#64).getLsbD i = _
    rw [BitVec.getLsbD_one]; simp
  rw [e]
  by_cases q : j = n
  · subst q; simp
  · by_cases r : n ≤ j
    · have : ¬ j - n = 0 := by omega
      simp [q, this]
    · simp [q, r]
theorem bit_not (x : Int64) {j : Nat} (hj : j < 64) : bit (x ^^^ (-1 : Int64)) j = !(bit x j) := by
  rw [bit_xor]
  have e : bit (-1 : Int64) j = true := (by decide +kernel : ∀ j : Fin 64, bit (-1 : Int64) j.val = true) ⟨j, hj⟩
  rw [e]; simp
theorem and_one_zero {w : Int64} {x : Int32} {n : Nat} (h : x.toBitVec.toNat % 64 = n) : w &&& shl64 (1 : Int64) x = 0 ↔ bit w n = false := by
  have hn : n < 64 := by omega
  constructor
  · intro q
    have r := congrArg (fun z => bit z n) q
    simp only [bit_and, bit_zero] at r
    rw [one_bit h hn] at r
    simpa using r
  · intro q
    apply bit_ext
    intro j hj
    rw [bit_and, one_bit h hj, bit_zero]
    by_cases e : j = n
    · subst e; simp [q]
    · simp [e]
theorem getD_set (ws : List Int64) (i j : Nat) (v : Int64) (hi : i < ws.length) : (ws.set i v).getD j 0 = if j = i then v else ws.getD j 0 := by
  rw [List.getD_eq_getElem?_getD, List.getD_eq_getElem?_getD]
  by_cases e : j = i
  · subst e; rw [List.getElem?_set_self hi, if_pos rfl]; rfl
  · rw [List.getElem?_set_ne (fun q => e q.symm), if_neg e]
theorem bitAt_or {ws : List Int64} {x : Int32} {k : Nat} (hk : k < 64 * ws.length) (h : x.toBitVec.toNat % 64 = k % 64) (j : Nat) : bitAt (ws.set (k / 64) (ws.getD (k / 64) 0 ||| shl64 (1 : Int64) x)) j = (bitAt ws j || decide (j = k)) := by
  unfold bitAt
  rw [getD_set _ _ _ _ (by omega)]
  by_cases e : j / 64 = k / 64
  · rw [if_pos e, bit_or, one_bit h (by omega), e]
    have : (j % 64 = k % 64) ↔ (j = k) := by omega
    simp [this]
  · rw [if_neg e]
    have : ¬ j = k := fun q => e (by rw [q])
    simp [this]
theorem bitAt_clear {ws : List Int64} {x : Int32} {k : Nat} (hk : k < 64 * ws.length) (h : x.toBitVec.toNat % 64 = k % 64) (j : Nat) : bitAt (ws.set (k / 64) (ws.getD (k / 64) 0 &&& (shl64 (1 : Int64) x ^^^ (-1 : Int64)))) j = (bitAt ws j && !decide (j = k)) := by
  unfold bitAt
  rw [getD_set _ _ _ _ (by omega)]
  by_cases e : j / 64 = k / 64
  · rw [if_pos e, bit_and, bit_not _ (by omega), one_bit h (by omega), e]
    have : (j % 64 = k % 64) ↔ (j = k) := by omega
    simp [this]
  · rw [if_neg e]
    have : ¬ j = k := fun q => e (by rw [q])
    simp [this]
theorem bitAt_moved {ws : List Int64} {h sp len : Nat} (h1 : h + sp ≤ ws.length) (h2 : sp ≤ len) (k : Nat) : bitAt ((ws.drop h).take sp ++ List.replicate (len - sp) 0) k = if k < 64 * sp then bitAt ws (k + 64 * h) else false := by
  unfold bitAt
  have l1 : ((ws.drop h).take sp).length = sp := by simp; omega
  by_cases e : k < 64 * sp
  · have e1 : k / 64 < sp := by omega
    have e2 : (k + 64 * h) / 64 = h + k / 64 := by omega
    have e3 : (k + 64 * h) % 64 = k % 64 := by omega
    rw [if_pos e, List.getD_eq_getElem?_getD, List.getElem?_append_left (by omega), List.getElem?_take_of_lt e1, List.getElem?_drop, e2, e3, List.getD_eq_getElem?_getD]
  · rw [if_neg e, List.getD_eq_getElem?_getD, List.getElem?_append_right (by omega), List.getElem?_replicate]
    split
    · exact bit_zero _
    · exact bit_zero _
theorem word_zero {w : Int64} : w = 0 ↔ ∀ j, j < 64 → bit w j = false := by
  constructor
  · rintro rfl j hj; exact bit_zero j
  · intro q; exact bit_ext fun j hj => by rw [q j hj, bit_zero]
/-- a number's low six bits -/
theorem low6 (x : Int32) (h : 0 ≤ x.toInt) : x.toBitVec.toNat % 64 = (x.toInt % 64).toNat := by
  have e : x.toInt = x.toBitVec.toInt := rfl
  rw [BitVec.toInt_eq_toNat_cond] at e
  have l := x.toBitVec.isLt
  split at e <;> omega
theorem Inv.bitx {S : List Int} {b h g : Int} {ws : List Int64} (V : Inv S b h g ws) (hS : S ≠ []) {x : Int} (h1 : b ≤ x) (h2 : x ≤ g) : (x - b).toNat < 64 * ws.length ∧ (bitAt ws (x - b).toNat = true ↔ x ∈ S) := by
  obtain ⟨-, b0, b1, h0, hh, hn, -, hr, hg, -, hb⟩ := V
  obtain ⟨g1, g2⟩ := hg hS
  have k : (x - b).toNat < 64 * ws.length := by omega
  refine ⟨k, ?_⟩
  have q := hb _ k
  have e : b + ((x - b).toNat : Int) = x := by omega
  rw [e] at q; exact q
/-- a first number -/
theorem Inv.first {b g : Int} {ws : List Int64} (V : Inv [] b 0 g ws) {x : Int32} (hx : 0 ≤ x.toInt) : Inv [x.toInt] (x.toInt - x.toInt % 64) 0 x.toInt (ws.set 0 (ws.getD 0 0 ||| shl64 (1 : Int64) x)) := by
  obtain ⟨-, b0, b1, h0, hh, hn, -, hr, hg, -, hb⟩ := V
  have hl := low6 x hx
  refine ⟨by simp, by omega, by omega, by omega, by simpa using hh, by simpa using hn, by simp, by simp; omega, fun _ => ⟨by rw [List.length_set]; omega, by omega⟩, fun _ => ⟨_, List.mem_singleton.mpr rfl, by omega⟩, fun k hk => ?_⟩
  rw [List.length_set] at hk
  have k0 : (x.toInt % 64).toNat / 64 = 0 := by omega
  have q := bitAt_or (ws := ws) (x := x) (k := (x.toInt % 64).toNat) (by omega) (by omega) k
  rw [k0] at q
  rw [q]
  have z : bitAt ws k = false := by
    cases hz : bitAt ws k with
    | false => rfl
    | true => exact absurd ((hb k hk).mp hz) (by simp)
  rw [z]
  simp only [Bool.false_or, decide_eq_true_eq, List.mem_singleton]
  omega
/-- one more number, above all -/
theorem Inv.more {S : List Int} {b h g : Int} {ws : List Int64} (V : Inv S b h g ws) (hS : S ≠ []) {x : Int32} (hx : g < x.toInt) (hw : (x.toInt - b) / 64 < (ws.length : Int)) : Inv (x.toInt :: S) b h x.toInt (ws.set ((x.toInt - b) / 64).toNat (ws.getD ((x.toInt - b) / 64).toNat 0 ||| shl64 (1 : Int64) x)) := by
  obtain ⟨hd, b0, b1, h0, hh, hn, he, hr, hg, hm, hb⟩ := V
  obtain ⟨g1, g2⟩ := hg hS
  have hl := low6 x (by omega)
  have kk : ((x.toInt - b) / 64).toNat = (x.toInt - b).toNat / 64 := by omega
  rw [kk]
  refine ⟨List.nodup_cons.mpr ⟨fun q => by have := (hr _ q).2; omega, hd⟩, b0, b1, h0, by simpa using hh, by simpa using hn, fun q => by simp at q, fun y hy => ?_, fun _ => ⟨by rw [List.length_set]; exact hw, by omega⟩, fun _ => ?_, fun k hk => ?_⟩
  · rcases List.mem_cons.mp hy with rfl | hy
    · obtain ⟨z, hz, -⟩ := hm hS
      have := hr z hz
      omega
    · have := hr y hy; omega
  · obtain ⟨z, hz, q⟩ := hm hS
    exact ⟨z, List.mem_cons_of_mem _ hz, q⟩
  · rw [List.length_set] at hk
    rw [bitAt_or (by omega) (by omega), Bool.or_eq_true, hb k hk, decide_eq_true_eq, List.mem_cons]
    constructor
    · rintro (q | q)
      · exact Or.inr q
      · left; omega
    · rintro (q | q)
      · right; omega
      · exact Or.inl q
/-- a number taken out: the head not yet set -/
theorem Inv.less {S : List Int} {b h g : Int} {ws : List Int64} (V : Inv S b h g ws) {x : Int32} (hx : x.toInt ∈ S) : ∀ k : Nat, k < 64 * ws.length → (bitAt (ws.set ((x.toInt - b) / 64).toNat (ws.getD ((x.toInt - b) / 64).toNat 0 &&& (shl64 (1 : Int64) x ^^^ (-1 : Int64)))) k = true ↔ (b + (k : Int)) ∈ S.erase x.toInt) := by
  intro k hk
  obtain ⟨hd, b0, b1, h0, hh, hn, he, hr, hg, hm, hb⟩ := V
  have hS : S ≠ [] := fun e => by rw [e] at hx; simp at hx
  obtain ⟨g1, g2⟩ := hg hS
  have r := hr _ hx
  have hl := low6 x (by omega)
  have kk : ((x.toInt - b) / 64).toNat = (x.toInt - b).toNat / 64 := by omega
  rw [kk, bitAt_clear (by omega) (by omega), Bool.and_eq_true, hb k hk, hd.mem_erase_iff]
  simp only [Bool.not_eq_true', decide_eq_false_iff_not]
  constructor
  · rintro ⟨q1, q2⟩
    exact ⟨by omega, q1⟩
  · rintro ⟨q1, q2⟩
    exact ⟨q2, by omega⟩
/-- the words moved down -/
theorem Inv.moved {S : List Int} {b h g : Int} {ws : List Int64} (hn : S.Nodup) (b0 : 0 ≤ b) (b1 : b % 64 = 0) (h0 : 0 ≤ h) (hS : S ≠ []) (hr : ∀ x ∈ S, b + 64 * h ≤ x ∧ x ≤ g) (g1 : (g - b) / 64 < (ws.length : Int)) (hm : ∃ x ∈ S, x < b + 64 * h + 64) (hb : ∀ k : Nat, k < 64 * ws.length → (bitAt ws k = true ↔ (b + (k : Int)) ∈ S)) {sp len : Nat} (hsp : (sp : Int) = (g - b) / 64 - h + 1) (hlen : sp ≤ len) (h4 : 4 ≤ len) :
    Inv S (b + 64 * h) 0 g ((ws.drop h.toNat).take sp ++ List.replicate (len - sp) 0) := by
  obtain ⟨z, hz, zq⟩ := hm
  have rz := hr z hz
  have l1 : h.toNat + sp ≤ ws.length := by omega
  have l2 : ((ws.drop h.toNat).take sp ++ List.replicate (len - sp) (0 : Int64)).length = len := by simp; omega
  refine ⟨hn, by omega, by omega, by decide, by rw [l2]; omega, by rw [l2]; exact h4, fun q => absurd q hS, fun x hx => ?_, fun _ => ⟨by rw [l2]; omega, by omega⟩, fun _ => ⟨z, hz, by omega⟩, fun k hk => ?_⟩
  · have := hr x hx; omega
  · rw [bitAt_moved l1 hlen]
    split
    · rename_i q
      rw [hb _ (by omega)]
      have e : b + ((k + 64 * h.toNat : Nat) : Int) = b + 64 * h + (k : Int) := by omega
      rw [e]
    · rename_i q
      simp only [Bool.false_eq_true, false_iff]
      intro hx
      have := (hr _ hx).2
      omega
end OwnIB


section OwnIB2
theorem look_map {ws : List Int64} {i : Nat} (h : i < ws.length) : (ws.map Value.long)[i]? = some (.long (ws.getD i 0)) := by
  rw [List.getElem?_map, List.getElem?_eq_getElem h, List.getD_eq_getElem?_getD, List.getElem?_eq_getElem h]; rfl
theorem set_map (ws : List Int64) (i : Nat) (x : Int64) : (ws.map Value.long).set i (.long x) = (ws.set i x).map Value.long := (List.map_set).symm
theorem fits_longs (zs : List Int64) : ∀ u ∈ zs.map Value.long, fits .long u = true := fun u hu => by
  obtain ⟨x, -, rfl⟩ := List.mem_map.mp hu; rfl
theorem ofNat_ti {n : Nat} (h : n < 2147483648) : (Int32.ofNat n).toInt = (n : Int) := Int32.toInt_ofNat_of_lt h
theorem sub_ti {x y : Int32} (h0 : 0 ≤ x.toInt) (h1 : 0 ≤ y.toInt) : (x - y).toInt = x.toInt - y.toInt := by
  have a := c_isub x y
  have b := rng32 x
  have c := rng32 y
  have d := rng32 (x - y)
  omega
theorem div_ti {x : Int32} (h : 0 ≤ x.toInt) : (x / (64 : Int32)).toInt = x.toInt / 64 := by
  rw [Int32.toInt_div_of_ne_right _ _ (by decide), Int.tdiv_eq_ediv_of_nonneg h]; rfl
theorem half_ti {x : Int32} (h : 0 ≤ x.toInt) : (x / (2 : Int32)).toInt = x.toInt / 2 := by
  rw [Int32.toInt_div_of_ne_right _ _ (by decide), Int.tdiv_eq_ediv_of_nonneg h]; rfl
theorem idx_ti {x b : Int32} (h0 : 0 ≤ b.toInt) (h1 : b.toInt ≤ x.toInt) : ((x - b) / (64 : Int32)).toInt = (x.toInt - b.toInt) / 64 := by
  have e := sub_ti (x := x) (y := b) (by omega) h0
  rw [div_ti (by omega), e]
theorem add_ti {x y : Int32} (h0 : -1000000000 ≤ x.toInt + y.toInt) (h1 : x.toInt + y.toInt < 2147483648) : (x + y).toInt = x.toInt + y.toInt := by
  have a := c_iadd x y
  have b := rng32 x
  have c := rng32 y
  have d := rng32 (x + y)
  omega
theorem mul_ti {x y : Int32} (h0 : 0 ≤ x.toInt * y.toInt) (h1 : x.toInt * y.toInt < 2147483648) : (x * y).toInt = x.toInt * y.toInt := by
  have a := c_imul x y
  have d := rng32 (x * y)
  generalize x.toInt * y.toInt = z at *
  omega
theorem ti2 : (2 : Int32).toInt = 2 := rfl
theorem ti4 : (4 : Int32).toInt = 4 := rfl
theorem mul64 {x : Int32} (h0 : 0 ≤ x.toInt * 64) (h1 : x.toInt * 64 < 2147483648) : (x * (64 : Int32)).toInt = x.toInt * 64 := by
  have a : (64 : Int32).toInt = 64 := rfl
  have b := mul_ti (x := x) (y := (64 : Int32)) (by rw [a]; exact h0) (by rw [a]; exact h1)
  rw [a] at b
  exact b
theorem m64 {x : Int32} (h : 0 ≤ x.toInt) : (x &&& (-64 : Int32)).toInt = x.toInt - x.toInt % 64 := by
  have hm : (x &&& (63 : Int32)).toInt = x.toInt % 64 := c_mask x 63 6 (by decide) (by decide)
  have e : x = (x &&& (-64 : Int32)) + (x &&& (63 : Int32)) := by
    apply Int32.toBitVec_inj.mp
    show x.toBitVec = (x.toBitVec &&& (-64 : Int32).toBitVec) + (x.toBitVec &&& (63 : Int32).toBitVec)
    have z : (x.toBitVec &&& (-64 : Int32).toBitVec) &&& (x.toBitVec &&& (63 : Int32).toBitVec) = 0#32 := by
      rw [BitVec.and_comm x.toBitVec (63 : Int32).toBitVec, BitVec.and_assoc, ← BitVec.and_assoc (-64 : Int32).toBitVec]
      have e0 : (-64 : Int32).toBitVec &&& (63 : Int32).toBitVec = 0#32 := by decide
      rw [e0, BitVec.zero_and, BitVec.and_zero]
    rw [BitVec.add_eq_or_of_and_eq_zero _ _ z, ← BitVec.and_or_distrib_left]
    have e1 : (-64 : Int32).toBitVec ||| (63 : Int32).toBitVec = BitVec.allOnes 32 := by decide
    rw [e1, BitVec.and_allOnes]
  have c := c_iadd (x &&& (-64 : Int32)) (x &&& (63 : Int32))
  rw [← e] at c
  have r := rng32 (x &&& (-64 : Int32))
  have rx := rng32 x
  omega
theorem mv_list (ws : List Int64) (h sp ln : Nat) : (List.replicate ln (Value.long 0)).take 0 ++ ((ws.map Value.long).drop h).take sp ++ (List.replicate ln (Value.long 0)).drop (0 + sp) = (((ws.drop h).take sp ++ List.replicate (ln - sp) 0).map Value.long) := by
  rw [List.take_zero, List.nil_append, Nat.zero_add, List.drop_replicate, List.map_append, List.map_take, List.map_drop, List.map_replicate]
theorem inv0 : Inv [] 0 0 (-1) [0, 0, 0, 0] := by
  refine ⟨by simp, by decide, by decide, by decide, by decide, by decide, fun _ => ⟨rfl, rfl⟩, by simp, by simp, by simp, fun k hk => ?_⟩
  have z : bitAt [0, 0, 0, 0] k = false := by
    unfold bitAt
    have e : ∀ j : Nat, ([0, 0, 0, 0] : List Int64).getD j 0 = 0 := fun j => by
      match j with
      | 0 => rfl
      | 1 => rfl
      | 2 => rfl
      | 3 => rfl
      | n + 4 => rfl
    rw [e]; exact bit_zero _
  rw [z]; simp
theorem mx_ti (a b : Int32) : ((mxF a b).toInt = a.toInt ∧ b.toInt ≤ a.toInt) ∨ ((mxF a b).toInt = b.toInt ∧ a.toInt < b.toInt) := by
  unfold mxF
  split
  · right; exact ⟨rfl, by assumption⟩
  · left; exact ⟨rfl, by omega⟩
/-- a nonzero word ahead of a number that is held -/
theorem zero_head {S : List Int} {b : Int} {ws : List Int64} {h : Nat} (hb : ∀ k : Nat, k < 64 * ws.length → (bitAt ws k = true ↔ (b + (k : Int)) ∈ S)) (hh : h < ws.length) (hz : ws.getD h 0 = 0) : ∀ x ∈ S, ¬ (b + 64 * (h : Int) ≤ x ∧ x < b + 64 * (h : Int) + 64) := by
  rintro x hx ⟨q1, q2⟩
  have e : b + (((x - b).toNat : Nat) : Int) = x := by omega
  have t := (hb (x - b).toNat (by omega)).mpr (by rw [e]; exact hx)
  unfold bitAt at t
  have d : (x - b).toNat / 64 = h := by omega
  rw [d, hz, bit_zero] at t
  exact absurd t (by decide)
theorem head_some {S : List Int} {b : Int} {ws : List Int64} {h : Nat} (hb : ∀ k : Nat, k < 64 * ws.length → (bitAt ws k = true ↔ (b + (k : Int)) ∈ S)) (hh : h < ws.length) (hz : ¬ ws.getD h 0 = 0) : ∃ x ∈ S, b + 64 * (h : Int) ≤ x ∧ x < b + 64 * (h : Int) + 64 := by
  rw [word_zero] at hz
  obtain ⟨j, hj⟩ := Classical.not_forall.mp hz
  obtain ⟨hj, hb2⟩ := Classical.not_imp.mp hj
  have t : bitAt ws (64 * h + j) = true := by
    unfold bitAt
    have d1 : (64 * h + j) / 64 = h := by omega
    have d2 : (64 * h + j) % 64 = j := by omega
    rw [d1, d2]
    simpa using hb2
  exact ⟨_, (hb _ (by omega)).mp t, by omega, by omega⟩
end OwnIB2


section OwnLawB
theorem gap_rng (x : Int64) : 0 ≤ (x &&& (4095 : Int64)).toInt32.toInt ∧ (x &&& (4095 : Int64)).toInt32.toInt ≤ 4095 := by
  have h : (x &&& (4095 : Int64)).toInt = x.toInt % 4096 := c_maskL x 4095 12 (by decide) (by decide)
  have c := c_l2i (x &&& (4095 : Int64))
  have r := rng32 (x &&& (4095 : Int64)).toInt32
  omega
theorem m30 (x : Int32) : 0 ≤ (x &&& (1073741823 : Int32)).toInt ∧ (x &&& (1073741823 : Int32)).toInt ≤ 1073741823 := c_and x _ (by decide)
theorem and3 (x : Int32) : (x &&& (3 : Int32)) = 0 ∨ (x &&& (3 : Int32)) = 1 ∨ (x &&& (3 : Int32)) = 2 ∨ (x &&& (3 : Int32)) = 3 := by
  have h : (x &&& (3 : Int32)).toInt = x.toInt % 4 := c_mask x 3 2 (by decide) (by decide)
  have z : ∀ n : Int32, (x &&& (3 : Int32)).toInt = n.toInt → (x &&& (3 : Int32)) = n := fun n q => Int32.toInt_inj.mp q
  have h8 : x.toInt % 4 = 0 ∨ x.toInt % 4 = 1 ∨ x.toInt % 4 = 2 ∨ x.toInt % 4 = 3 := by omega
  rcases h8 with q | q | q | q <;> rw [q] at h
  · exact Or.inl (z 0 h)
  · exact Or.inr (Or.inl (z 1 h))
  · exact Or.inr (Or.inr (Or.inl (z 2 h)))
  · exact Or.inr (Or.inr (Or.inr (z 3 h)))
theorem er_hd (a : Int) (l : List Int) : (a :: l).erase a = l := List.erase_cons_head a l
theorem er_tl {a b : Int} (l : List Int) (h : a ≠ b) : (a :: l).erase b = a :: l.erase b := List.erase_cons_tail (by simpa using h)
end OwnLawB

theorem sn_greatest_words {Z : State} {a0 : Array Value} (hw : ∀ d ∈ tables_1, d.before a0 Z = true) : Jvm.RoadKit.slotOf Z "reenact/trace/IntBits" "greatest" "I" ≠ Jvm.RoadKit.slotOf Z "reenact/trace/IntBits" "words" "[J" := (Jvm.RoadKit.slot_ne (Or.inl (wi hw 15 rfl)) (Or.inl (wi hw 13 rfl)) (by decide) (t := .int) (t' := (.array .long)) (by decide) (by decide))
theorem sn_size_words {Z : State} {a0 : Array Value} (hw : ∀ d ∈ tables_1, d.before a0 Z = true) : Jvm.RoadKit.slotOf Z "reenact/trace/IntBits" "size" "I" ≠ Jvm.RoadKit.slotOf Z "reenact/trace/IntBits" "words" "[J" := (Jvm.RoadKit.slot_ne (Or.inl (wi hw 22 rfl)) (Or.inl (wi hw 13 rfl)) (by decide) (t := .int) (t' := (.array .long)) (by decide) (by decide))
theorem sn_base_words {Z : State} {a0 : Array Value} (hw : ∀ d ∈ tables_1, d.before a0 Z = true) : Jvm.RoadKit.slotOf Z "reenact/trace/IntBits" "base" "I" ≠ Jvm.RoadKit.slotOf Z "reenact/trace/IntBits" "words" "[J" := (Jvm.RoadKit.slot_ne (Or.inl (wi hw 24 rfl)) (Or.inl (wi hw 13 rfl)) (by decide) (t := .int) (t' := (.array .long)) (by decide) (by decide))
theorem sn_head_words {Z : State} {a0 : Array Value} (hw : ∀ d ∈ tables_1, d.before a0 Z = true) : Jvm.RoadKit.slotOf Z "reenact/trace/IntBits" "head" "I" ≠ Jvm.RoadKit.slotOf Z "reenact/trace/IntBits" "words" "[J" := (Jvm.RoadKit.slot_ne (Or.inl (wi hw 26 rfl)) (Or.inl (wi hw 13 rfl)) (by decide) (t := .int) (t' := (.array .long)) (by decide) (by decide))
theorem sn_words_greatest {Z : State} {a0 : Array Value} (hw : ∀ d ∈ tables_1, d.before a0 Z = true) : Jvm.RoadKit.slotOf Z "reenact/trace/IntBits" "words" "[J" ≠ Jvm.RoadKit.slotOf Z "reenact/trace/IntBits" "greatest" "I" := (Jvm.RoadKit.slot_ne (Or.inl (wi hw 13 rfl)) (Or.inl (wi hw 15 rfl)) (by decide) (t := (.array .long)) (t' := .int) (by decide) (by decide))
theorem sn_size_greatest {Z : State} {a0 : Array Value} (hw : ∀ d ∈ tables_1, d.before a0 Z = true) : Jvm.RoadKit.slotOf Z "reenact/trace/IntBits" "size" "I" ≠ Jvm.RoadKit.slotOf Z "reenact/trace/IntBits" "greatest" "I" := (Jvm.RoadKit.slot_ne (Or.inl (wi hw 22 rfl)) (Or.inl (wi hw 15 rfl)) (by decide) (t := .int) (t' := .int) (by decide) (by decide))
theorem sn_base_greatest {Z : State} {a0 : Array Value} (hw : ∀ d ∈ tables_1, d.before a0 Z = true) : Jvm.RoadKit.slotOf Z "reenact/trace/IntBits" "base" "I" ≠ Jvm.RoadKit.slotOf Z "reenact/trace/IntBits" "greatest" "I" := (Jvm.RoadKit.slot_ne (Or.inl (wi hw 24 rfl)) (Or.inl (wi hw 15 rfl)) (by decide) (t := .int) (t' := .int) (by decide) (by decide))
theorem sn_head_greatest {Z : State} {a0 : Array Value} (hw : ∀ d ∈ tables_1, d.before a0 Z = true) : Jvm.RoadKit.slotOf Z "reenact/trace/IntBits" "head" "I" ≠ Jvm.RoadKit.slotOf Z "reenact/trace/IntBits" "greatest" "I" := (Jvm.RoadKit.slot_ne (Or.inl (wi hw 26 rfl)) (Or.inl (wi hw 15 rfl)) (by decide) (t := .int) (t' := .int) (by decide) (by decide))
theorem sn_words_base {Z : State} {a0 : Array Value} (hw : ∀ d ∈ tables_1, d.before a0 Z = true) : Jvm.RoadKit.slotOf Z "reenact/trace/IntBits" "words" "[J" ≠ Jvm.RoadKit.slotOf Z "reenact/trace/IntBits" "base" "I" := (Jvm.RoadKit.slot_ne (Or.inl (wi hw 13 rfl)) (Or.inl (wi hw 24 rfl)) (by decide) (t := (.array .long)) (t' := .int) (by decide) (by decide))
theorem sn_greatest_base {Z : State} {a0 : Array Value} (hw : ∀ d ∈ tables_1, d.before a0 Z = true) : Jvm.RoadKit.slotOf Z "reenact/trace/IntBits" "greatest" "I" ≠ Jvm.RoadKit.slotOf Z "reenact/trace/IntBits" "base" "I" := (Jvm.RoadKit.slot_ne (Or.inl (wi hw 15 rfl)) (Or.inl (wi hw 24 rfl)) (by decide) (t := .int) (t' := .int) (by decide) (by decide))
theorem sn_size_base {Z : State} {a0 : Array Value} (hw : ∀ d ∈ tables_1, d.before a0 Z = true) : Jvm.RoadKit.slotOf Z "reenact/trace/IntBits" "size" "I" ≠ Jvm.RoadKit.slotOf Z "reenact/trace/IntBits" "base" "I" := (Jvm.RoadKit.slot_ne (Or.inl (wi hw 22 rfl)) (Or.inl (wi hw 24 rfl)) (by decide) (t := .int) (t' := .int) (by decide) (by decide))
theorem sn_head_base {Z : State} {a0 : Array Value} (hw : ∀ d ∈ tables_1, d.before a0 Z = true) : Jvm.RoadKit.slotOf Z "reenact/trace/IntBits" "head" "I" ≠ Jvm.RoadKit.slotOf Z "reenact/trace/IntBits" "base" "I" := (Jvm.RoadKit.slot_ne (Or.inl (wi hw 26 rfl)) (Or.inl (wi hw 24 rfl)) (by decide) (t := .int) (t' := .int) (by decide) (by decide))
theorem sn_words_head {Z : State} {a0 : Array Value} (hw : ∀ d ∈ tables_1, d.before a0 Z = true) : Jvm.RoadKit.slotOf Z "reenact/trace/IntBits" "words" "[J" ≠ Jvm.RoadKit.slotOf Z "reenact/trace/IntBits" "head" "I" := (Jvm.RoadKit.slot_ne (Or.inl (wi hw 13 rfl)) (Or.inl (wi hw 26 rfl)) (by decide) (t := (.array .long)) (t' := .int) (by decide) (by decide))
theorem sn_greatest_head {Z : State} {a0 : Array Value} (hw : ∀ d ∈ tables_1, d.before a0 Z = true) : Jvm.RoadKit.slotOf Z "reenact/trace/IntBits" "greatest" "I" ≠ Jvm.RoadKit.slotOf Z "reenact/trace/IntBits" "head" "I" := (Jvm.RoadKit.slot_ne (Or.inl (wi hw 15 rfl)) (Or.inl (wi hw 26 rfl)) (by decide) (t := .int) (t' := .int) (by decide) (by decide))
theorem sn_size_head {Z : State} {a0 : Array Value} (hw : ∀ d ∈ tables_1, d.before a0 Z = true) : Jvm.RoadKit.slotOf Z "reenact/trace/IntBits" "size" "I" ≠ Jvm.RoadKit.slotOf Z "reenact/trace/IntBits" "head" "I" := (Jvm.RoadKit.slot_ne (Or.inl (wi hw 22 rfl)) (Or.inl (wi hw 26 rfl)) (by decide) (t := .int) (t' := .int) (by decide) (by decide))
theorem sn_base_head {Z : State} {a0 : Array Value} (hw : ∀ d ∈ tables_1, d.before a0 Z = true) : Jvm.RoadKit.slotOf Z "reenact/trace/IntBits" "base" "I" ≠ Jvm.RoadKit.slotOf Z "reenact/trace/IntBits" "head" "I" := (Jvm.RoadKit.slot_ne (Or.inl (wi hw 24 rfl)) (Or.inl (wi hw 26 rfl)) (by decide) (t := .int) (t' := .int) (by decide) (by decide))
theorem sn_words_size {Z : State} {a0 : Array Value} (hw : ∀ d ∈ tables_1, d.before a0 Z = true) : Jvm.RoadKit.slotOf Z "reenact/trace/IntBits" "words" "[J" ≠ Jvm.RoadKit.slotOf Z "reenact/trace/IntBits" "size" "I" := (Jvm.RoadKit.slot_ne (Or.inl (wi hw 13 rfl)) (Or.inl (wi hw 22 rfl)) (by decide) (t := (.array .long)) (t' := .int) (by decide) (by decide))
theorem sn_greatest_size {Z : State} {a0 : Array Value} (hw : ∀ d ∈ tables_1, d.before a0 Z = true) : Jvm.RoadKit.slotOf Z "reenact/trace/IntBits" "greatest" "I" ≠ Jvm.RoadKit.slotOf Z "reenact/trace/IntBits" "size" "I" := (Jvm.RoadKit.slot_ne (Or.inl (wi hw 15 rfl)) (Or.inl (wi hw 22 rfl)) (by decide) (t := .int) (t' := .int) (by decide) (by decide))
theorem sn_base_size {Z : State} {a0 : Array Value} (hw : ∀ d ∈ tables_1, d.before a0 Z = true) : Jvm.RoadKit.slotOf Z "reenact/trace/IntBits" "base" "I" ≠ Jvm.RoadKit.slotOf Z "reenact/trace/IntBits" "size" "I" := (Jvm.RoadKit.slot_ne (Or.inl (wi hw 24 rfl)) (Or.inl (wi hw 22 rfl)) (by decide) (t := .int) (t' := .int) (by decide) (by decide))
theorem sn_head_size {Z : State} {a0 : Array Value} (hw : ∀ d ∈ tables_1, d.before a0 Z = true) : Jvm.RoadKit.slotOf Z "reenact/trace/IntBits" "head" "I" ≠ Jvm.RoadKit.slotOf Z "reenact/trace/IntBits" "size" "I" := (Jvm.RoadKit.slot_ne (Or.inl (wi hw 26 rfl)) (Or.inl (wi hw 22 rfl)) (by decide) (t := .int) (t' := .int) (by decide) (by decide))
theorem pd_0 : parseMethodDescriptor "(I)I" = some ⟨[.int], some .int⟩ := by decide +kernel
theorem pd_1 : parseMethodDescriptor "(II)I" = some ⟨[.int, .int], some .int⟩ := by decide +kernel
theorem pd_2 : parseMethodDescriptor "(I)V" = some ⟨[.int], none⟩ := by decide +kernel
theorem pd_3 : parseMethodDescriptor "(I)Z" = some ⟨[.int], some .boolean⟩ := by decide +kernel
theorem pd_4 : parseMethodDescriptor "()V" = some ⟨[], none⟩ := by decide +kernel

theorem d8_0 : decode jdk_29_method_65_code 0 = .ok (.iload_n 0, 1) := by decide +kernel
theorem d8_1 : decode jdk_29_method_65_code 1 = .ok (.iload_n 1, 1) := by decide +kernel
theorem d8_2 : decode jdk_29_method_65_code 2 = .ok (.if_icmp .lt 7, 3) := by decide +kernel
theorem d8_5 : decode jdk_29_method_65_code 5 = .ok (.iload_n 0, 1) := by decide +kernel
theorem d8_6 : decode jdk_29_method_65_code 6 = .ok (.goto 4, 3) := by decide +kernel
theorem d8_9 : decode jdk_29_method_65_code 9 = .ok (.iload_n 1, 1) := by decide +kernel
theorem d8_10 : decode jdk_29_method_65_code 10 = .ok (.ireturn, 1) := by decide +kernel
theorem ef_rmMax (m : MethodId) (a : Int32) (b : Int32) : entryFrame m #[(.int a), (.int b)] 2 = mkF m 0 #[.val (.int a), .val (.int b)] [] := by first | (simp [entryFrame, mkF, argsToLocals, Value.category]; done) | rfl
set_option maxRecDepth 65536 in
set_option maxHeartbeats 40000000 in
theorem rmMax (l : Launch) (Z : State) (a0 : Array Value) (hw : ∀ d ∈ tables_1, d.before a0 Z = true) (wcs : List Jvm.Cond) (a : Int32) (b : Int32)  (h0 : Heap) (n0 : Nat) (Z0 : n0 ≤ h0.size)  : Met1 l (⟨"java/lang/Math", "max", "(II)I"⟩ : MethodName) jdk_29_method_65_code 2 (some .int) wcs ({ frames := 0, cells := 0, slots := 0, locals := 0 } : Room) Z #[(.int a), (.int b)] h0 n0 (fun v hh => v = some (.int (mxF a b)) ∧ hh = h0) := by
  refine Met1.of (L0 := #[.val (.int a), .val (.int b)]) (Jvm.Free.JP.mathPlain rfl (by decide)) (fun m => ef_rmMax m a b) Z0 ?_
  intro p e s m below meth c st s0 hZ hown hret hlk hnm hml
  have s1 : Sit p l e _ s m _ below meth c _ st n0 0 0 _ 2 #[.val (.int a), .val (.int b)] [(.int b), (.int a)] := s0
    |>.iloadN d8_0 rfl rfl
    |>.iloadN d8_1 rfl rfl
  by_cases cnd2 : a.toInt < b.toInt
  · have s3 : Sit p l e _ s m _ below meth c _ st n0 0 0 _ 10 #[.val (.int a), .val (.int b)] [(.int b)] := s1
      |>.icmpY d8_2 (cmpT (cd := .lt) cnd2) (by decide) (by decide)
      |>.iloadN d8_9 rfl rfl
    exact s3.retI d8_10 hret hlk (fun hh q => ⟨by rw [mxF, if_pos (by assumption)], q⟩)
  · have s4 : Sit p l e _ s m _ below meth c _ st n0 0 0 _ 10 #[.val (.int a), .val (.int b)] [(.int a)] := s1
      |>.icmpN d8_2 (cmpF (cd := .lt) cnd2) rfl
      |>.iloadN d8_5 rfl rfl
      |>.goto d8_6 (by decide) (by decide)
    exact s4.retI d8_10 hret hlk (fun hh q => ⟨by rw [mxF, if_neg (by assumption)], q⟩)
theorem pn_rmNlz : plainName "java/lang/Integer" = true := by first | (simp [plainName, overriddenIn]; done) | decide +kernel
theorem d7_0 : decode jdk_33_method_47_code 0 = .ok (.iload_n 0, 1) := by decide +kernel
theorem d7_1 : decode jdk_33_method_47_code 1 = .ok (.ifCond .gt 14, 3) := by decide +kernel
theorem d7_4 : decode jdk_33_method_47_code 4 = .ok (.iload_n 0, 1) := by decide +kernel
theorem d7_5 : decode jdk_33_method_47_code 5 = .ok (.ifCond .ne 8, 3) := by decide +kernel
theorem d7_8 : decode jdk_33_method_47_code 8 = .ok (.bipush 32, 2) := by decide +kernel
theorem d7_10 : decode jdk_33_method_47_code 10 = .ok (.goto 4, 3) := by decide +kernel
theorem d7_13 : decode jdk_33_method_47_code 13 = .ok (.iconst 0, 1) := by decide +kernel
theorem d7_14 : decode jdk_33_method_47_code 14 = .ok (.ireturn, 1) := by decide +kernel
theorem d7_15 : decode jdk_33_method_47_code 15 = .ok (.bipush 31, 2) := by decide +kernel
theorem d7_17 : decode jdk_33_method_47_code 17 = .ok (.istore_n 1, 1) := by decide +kernel
theorem d7_18 : decode jdk_33_method_47_code 18 = .ok (.iload_n 0, 1) := by decide +kernel
theorem d7_19 : decode jdk_33_method_47_code 19 = .ok (.ldc_w 264, 3) := by decide +kernel
theorem d7_22 : decode jdk_33_method_47_code 22 = .ok (.if_icmp .lt 11, 3) := by decide +kernel
theorem d7_25 : decode jdk_33_method_47_code 25 = .ok (.iinc 1 (-16), 3) := by decide +kernel
theorem d7_28 : decode jdk_33_method_47_code 28 = .ok (.iload_n 0, 1) := by decide +kernel
theorem d7_29 : decode jdk_33_method_47_code 29 = .ok (.bipush 16, 2) := by decide +kernel
theorem d7_31 : decode jdk_33_method_47_code 31 = .ok (.iushr, 1) := by decide +kernel
theorem d7_32 : decode jdk_33_method_47_code 32 = .ok (.istore_n 0, 1) := by decide +kernel
theorem d7_33 : decode jdk_33_method_47_code 33 = .ok (.iload_n 0, 1) := by decide +kernel
theorem d7_34 : decode jdk_33_method_47_code 34 = .ok (.sipush 256, 3) := by decide +kernel
theorem d7_37 : decode jdk_33_method_47_code 37 = .ok (.if_icmp .lt 11, 3) := by decide +kernel
theorem d7_40 : decode jdk_33_method_47_code 40 = .ok (.iinc 1 (-8), 3) := by decide +kernel
theorem d7_43 : decode jdk_33_method_47_code 43 = .ok (.iload_n 0, 1) := by decide +kernel
theorem d7_44 : decode jdk_33_method_47_code 44 = .ok (.bipush 8, 2) := by decide +kernel
theorem d7_46 : decode jdk_33_method_47_code 46 = .ok (.iushr, 1) := by decide +kernel
theorem d7_47 : decode jdk_33_method_47_code 47 = .ok (.istore_n 0, 1) := by decide +kernel
theorem d7_48 : decode jdk_33_method_47_code 48 = .ok (.iload_n 0, 1) := by decide +kernel
theorem d7_49 : decode jdk_33_method_47_code 49 = .ok (.bipush 16, 2) := by decide +kernel
theorem d7_51 : decode jdk_33_method_47_code 51 = .ok (.if_icmp .lt 10, 3) := by decide +kernel
theorem d7_54 : decode jdk_33_method_47_code 54 = .ok (.iinc 1 (-4), 3) := by decide +kernel
theorem d7_57 : decode jdk_33_method_47_code 57 = .ok (.iload_n 0, 1) := by decide +kernel
theorem d7_58 : decode jdk_33_method_47_code 58 = .ok (.iconst 4, 1) := by decide +kernel
theorem d7_59 : decode jdk_33_method_47_code 59 = .ok (.iushr, 1) := by decide +kernel
theorem d7_60 : decode jdk_33_method_47_code 60 = .ok (.istore_n 0, 1) := by decide +kernel
theorem d7_61 : decode jdk_33_method_47_code 61 = .ok (.iload_n 0, 1) := by decide +kernel
theorem d7_62 : decode jdk_33_method_47_code 62 = .ok (.iconst 4, 1) := by decide +kernel
theorem d7_63 : decode jdk_33_method_47_code 63 = .ok (.if_icmp .lt 10, 3) := by decide +kernel
theorem d7_66 : decode jdk_33_method_47_code 66 = .ok (.iinc 1 (-2), 3) := by decide +kernel
theorem d7_69 : decode jdk_33_method_47_code 69 = .ok (.iload_n 0, 1) := by decide +kernel
theorem d7_70 : decode jdk_33_method_47_code 70 = .ok (.iconst 2, 1) := by decide +kernel
theorem d7_71 : decode jdk_33_method_47_code 71 = .ok (.iushr, 1) := by decide +kernel
theorem d7_72 : decode jdk_33_method_47_code 72 = .ok (.istore_n 0, 1) := by decide +kernel
theorem d7_73 : decode jdk_33_method_47_code 73 = .ok (.iload_n 1, 1) := by decide +kernel
theorem d7_74 : decode jdk_33_method_47_code 74 = .ok (.iload_n 0, 1) := by decide +kernel
theorem d7_75 : decode jdk_33_method_47_code 75 = .ok (.iconst 1, 1) := by decide +kernel
theorem d7_76 : decode jdk_33_method_47_code 76 = .ok (.iushr, 1) := by decide +kernel
theorem d7_77 : decode jdk_33_method_47_code 77 = .ok (.isub, 1) := by decide +kernel
theorem d7_78 : decode jdk_33_method_47_code 78 = .ok (.ireturn, 1) := by decide +kernel
theorem ef_rmNlz (m : MethodId) (a : Int32) : entryFrame m #[(.int a)] 2 = mkF m 0 #[.val (.int a), .unset] [] := by first | (simp [entryFrame, mkF, argsToLocals, Value.category]; done) | rfl
set_option maxRecDepth 65536 in
set_option maxHeartbeats 40000000 in
theorem rmNlz (l : Launch) (Z : State) (a0 : Array Value) (hw : ∀ d ∈ tables_1, d.before a0 Z = true) (wcs : List Jvm.Cond) (a : Int32)  (h0 : Heap) (n0 : Nat) (Z0 : n0 ≤ h0.size) (h0a : 0 ≤ a.toInt) : Met1 l (⟨"java/lang/Integer", "numberOfLeadingZeros", "(I)I"⟩ : MethodName) jdk_33_method_47_code 2 (some .int) wcs ({ frames := 0, cells := 0, slots := 0, locals := 0 } : Room) Z #[(.int a)] h0 n0 (fun v hh => (∃ r : Nat, v = some (.int (Int32.ofNat r)) ∧ nlzP a.toInt r) ∧ hh = h0) := by
  refine Met1.of (L0 := #[.val (.int a), .unset]) (plainFor_of_name pn_rmNlz) (fun m => ef_rmNlz m a) Z0 ?_
  intro p e s m below meth c st s0 hZ hown hret hlk hnm hml
  have s1 : Sit p l e _ s m _ below meth c _ st n0 0 0 _ 1 #[.val (.int a), .unset] [(.int a)] := s0
    |>.iloadN d7_0 rfl rfl
  by_cases cnd2 : a.toInt > 0
  · have s3 : Sit p l e _ s m _ below meth c _ st n0 0 0 _ 22 #[.val (.int a), .val (.int (31 : Int32))] [(.int (65536 : Int32)), (.int a)] := s1
      |>.ifY d7_1 (cmpT0 (cd := .gt) cnd2) (by decide) (by decide)
      |>.bipush (31 : Int32) d7_15 rfl rfl
      |>.istoreN #[.val (.int a), .val (.int (31 : Int32))] d7_17 rfl rfl
      |>.iloadN d7_18 rfl rfl
      |>.ldcw hZ hown (wi hw 47 rfl) d7_19 rfl
    by_cases cnd4 : a.toInt < (65536 : Int)
    · have s5 : Sit p l e _ s m _ below meth c _ st n0 0 0 _ 37 #[.val (.int a), .val (.int (31 : Int32))] [(.int (256 : Int32)), (.int a)] := s3
        |>.icmpY d7_22 (cmpT (cd := .lt) cnd4) (by decide) (by decide)
        |>.iloadN d7_33 rfl rfl
        |>.sipush (256 : Int32) d7_34 rfl rfl
      by_cases cnd6 : a.toInt < (256 : Int)
      · have s7 : Sit p l e _ s m _ below meth c _ st n0 0 0 _ 51 #[.val (.int a), .val (.int (31 : Int32))] [(.int (16 : Int32)), (.int a)] := s5
          |>.icmpY d7_37 (cmpT (cd := .lt) cnd6) (by decide) (by decide)
          |>.iloadN d7_48 rfl rfl
          |>.bipush (16 : Int32) d7_49 rfl rfl
        by_cases cnd8 : a.toInt < (16 : Int)
        · have s9 : Sit p l e _ s m _ below meth c _ st n0 0 0 _ 63 #[.val (.int a), .val (.int (31 : Int32))] [(.int (4 : Int32)), (.int a)] := s7
            |>.icmpY d7_51 (cmpT (cd := .lt) cnd8) (by decide) (by decide)
            |>.iloadN d7_61 rfl rfl
            |>.iconst (4 : Int32) d7_62 rfl rfl
          by_cases cnd10 : a.toInt < (4 : Int)
          · have s11 : Sit p l e _ s m _ below meth c _ st n0 0 0 _ 78 #[.val (.int a), .val (.int (31 : Int32))] [(.int ((31 : Int32) - (ushr32 a (1 : Int32))))] := s9
              |>.icmpY d7_63 (cmpT (cd := .lt) cnd10) (by decide) (by decide)
              |>.iloadN d7_73 rfl rfl
              |>.iloadN d7_74 rfl rfl
              |>.iconst (1 : Int32) d7_75 rfl rfl
              |>.iushr d7_76 rfl
              |>.isub d7_77 rfl
            have g := ush32 a (1 : Int32) 1 (by decide) (by decide) (by omega)
            simp only [Nat.reducePow] at g
            have e0 : (31 : Int32).toInt = 31 := rfl
            have d := c_isub (31 : Int32) (ushr32 a (1 : Int32))
            have rr := rng32 ((31 : Int32) - (ushr32 a (1 : Int32)))
            have ra := rng32 a
            by_cases lo : a.toInt < 2
            · have e1 : ((31 : Int32) - (ushr32 a (1 : Int32))) = Int32.ofNat 31 := Int32.toInt_inj.mp (by have : (Int32.ofNat 31).toInt = 31 := rfl; omega)
              exact s11.retI d7_78 hret hlk (fun hh q => ⟨⟨31, by rw [e1], Or.inr ⟨by omega, by decide, by simp only [Nat.reducePow, Nat.reduceSub]; omega, by simp only [Nat.reducePow, Nat.reduceSub]; omega⟩⟩, q⟩)
            · have e1 : ((31 : Int32) - (ushr32 a (1 : Int32))) = Int32.ofNat 30 := Int32.toInt_inj.mp (by have : (Int32.ofNat 30).toInt = 30 := rfl; omega)
              exact s11.retI d7_78 hret hlk (fun hh q => ⟨⟨30, by rw [e1], Or.inr ⟨by omega, by decide, by simp only [Nat.reducePow, Nat.reduceSub]; omega, by simp only [Nat.reducePow, Nat.reduceSub]; omega⟩⟩, q⟩)
          · have s12 : Sit p l e _ s m _ below meth c _ st n0 0 0 _ 78 #[.val (.int (ushr32 a (2 : Int32))), .val (.int (29 : Int32))] [(.int ((29 : Int32) - (ushr32 (ushr32 a (2 : Int32)) (1 : Int32))))] := s9
              |>.icmpN d7_63 (cmpF (cd := .lt) cnd10) rfl
              |>.iinc (29 : Int32) #[.val (.int a), .val (.int (29 : Int32))] d7_66 rfl rfl rfl rfl
              |>.iloadN d7_69 rfl rfl
              |>.iconst (2 : Int32) d7_70 rfl rfl
              |>.iushr d7_71 rfl
              |>.istoreN #[.val (.int (ushr32 a (2 : Int32))), .val (.int (29 : Int32))] d7_72 rfl rfl
              |>.iloadN d7_73 rfl rfl
              |>.iloadN d7_74 rfl rfl
              |>.iconst (1 : Int32) d7_75 rfl rfl
              |>.iushr d7_76 rfl
              |>.isub d7_77 rfl
            have f0 := ush32 a (2 : Int32) 2 (by decide) (by decide) (by omega)
            simp only [Nat.reducePow] at f0
            have g := ush32 (ushr32 a (2 : Int32)) (1 : Int32) 1 (by decide) (by decide) (by omega)
            simp only [Nat.reducePow] at g
            have e0 : (29 : Int32).toInt = 29 := rfl
            have d := c_isub (29 : Int32) (ushr32 (ushr32 a (2 : Int32)) (1 : Int32))
            have rr := rng32 ((29 : Int32) - (ushr32 (ushr32 a (2 : Int32)) (1 : Int32)))
            have ra := rng32 a
            by_cases lo : (ushr32 a (2 : Int32)).toInt < 2
            · have e1 : ((29 : Int32) - (ushr32 (ushr32 a (2 : Int32)) (1 : Int32))) = Int32.ofNat 29 := Int32.toInt_inj.mp (by have : (Int32.ofNat 29).toInt = 29 := rfl; omega)
              exact s12.retI d7_78 hret hlk (fun hh q => ⟨⟨29, by rw [e1], Or.inr ⟨by omega, by decide, by simp only [Nat.reducePow, Nat.reduceSub]; omega, by simp only [Nat.reducePow, Nat.reduceSub]; omega⟩⟩, q⟩)
            · have e1 : ((29 : Int32) - (ushr32 (ushr32 a (2 : Int32)) (1 : Int32))) = Int32.ofNat 28 := Int32.toInt_inj.mp (by have : (Int32.ofNat 28).toInt = 28 := rfl; omega)
              exact s12.retI d7_78 hret hlk (fun hh q => ⟨⟨28, by rw [e1], Or.inr ⟨by omega, by decide, by simp only [Nat.reducePow, Nat.reduceSub]; omega, by simp only [Nat.reducePow, Nat.reduceSub]; omega⟩⟩, q⟩)
        · have s13 : Sit p l e _ s m _ below meth c _ st n0 0 0 _ 63 #[.val (.int (ushr32 a (4 : Int32))), .val (.int (27 : Int32))] [(.int (4 : Int32)), (.int (ushr32 a (4 : Int32)))] := s7
            |>.icmpN d7_51 (cmpF (cd := .lt) cnd8) rfl
            |>.iinc (27 : Int32) #[.val (.int a), .val (.int (27 : Int32))] d7_54 rfl rfl rfl rfl
            |>.iloadN d7_57 rfl rfl
            |>.iconst (4 : Int32) d7_58 rfl rfl
            |>.iushr d7_59 rfl
            |>.istoreN #[.val (.int (ushr32 a (4 : Int32))), .val (.int (27 : Int32))] d7_60 rfl rfl
            |>.iloadN d7_61 rfl rfl
            |>.iconst (4 : Int32) d7_62 rfl rfl
          by_cases cnd14 : (ushr32 a (4 : Int32)).toInt < (4 : Int)
          · have s15 : Sit p l e _ s m _ below meth c _ st n0 0 0 _ 78 #[.val (.int (ushr32 a (4 : Int32))), .val (.int (27 : Int32))] [(.int ((27 : Int32) - (ushr32 (ushr32 a (4 : Int32)) (1 : Int32))))] := s13
              |>.icmpY d7_63 (cmpT (cd := .lt) cnd14) (by decide) (by decide)
              |>.iloadN d7_73 rfl rfl
              |>.iloadN d7_74 rfl rfl
              |>.iconst (1 : Int32) d7_75 rfl rfl
              |>.iushr d7_76 rfl
              |>.isub d7_77 rfl
            have f0 := ush32 a (4 : Int32) 4 (by decide) (by decide) (by omega)
            simp only [Nat.reducePow] at f0
            have g := ush32 (ushr32 a (4 : Int32)) (1 : Int32) 1 (by decide) (by decide) (by omega)
            simp only [Nat.reducePow] at g
            have e0 : (27 : Int32).toInt = 27 := rfl
            have d := c_isub (27 : Int32) (ushr32 (ushr32 a (4 : Int32)) (1 : Int32))
            have rr := rng32 ((27 : Int32) - (ushr32 (ushr32 a (4 : Int32)) (1 : Int32)))
            have ra := rng32 a
            by_cases lo : (ushr32 a (4 : Int32)).toInt < 2
            · have e1 : ((27 : Int32) - (ushr32 (ushr32 a (4 : Int32)) (1 : Int32))) = Int32.ofNat 27 := Int32.toInt_inj.mp (by have : (Int32.ofNat 27).toInt = 27 := rfl; omega)
              exact s15.retI d7_78 hret hlk (fun hh q => ⟨⟨27, by rw [e1], Or.inr ⟨by omega, by decide, by simp only [Nat.reducePow, Nat.reduceSub]; omega, by simp only [Nat.reducePow, Nat.reduceSub]; omega⟩⟩, q⟩)
            · have e1 : ((27 : Int32) - (ushr32 (ushr32 a (4 : Int32)) (1 : Int32))) = Int32.ofNat 26 := Int32.toInt_inj.mp (by have : (Int32.ofNat 26).toInt = 26 := rfl; omega)
              exact s15.retI d7_78 hret hlk (fun hh q => ⟨⟨26, by rw [e1], Or.inr ⟨by omega, by decide, by simp only [Nat.reducePow, Nat.reduceSub]; omega, by simp only [Nat.reducePow, Nat.reduceSub]; omega⟩⟩, q⟩)
          · have s16 : Sit p l e _ s m _ below meth c _ st n0 0 0 _ 78 #[.val (.int (ushr32 (ushr32 a (4 : Int32)) (2 : Int32))), .val (.int (25 : Int32))] [(.int ((25 : Int32) - (ushr32 (ushr32 (ushr32 a (4 : Int32)) (2 : Int32)) (1 : Int32))))] := s13
              |>.icmpN d7_63 (cmpF (cd := .lt) cnd14) rfl
              |>.iinc (25 : Int32) #[.val (.int (ushr32 a (4 : Int32))), .val (.int (25 : Int32))] d7_66 rfl rfl rfl rfl
              |>.iloadN d7_69 rfl rfl
              |>.iconst (2 : Int32) d7_70 rfl rfl
              |>.iushr d7_71 rfl
              |>.istoreN #[.val (.int (ushr32 (ushr32 a (4 : Int32)) (2 : Int32))), .val (.int (25 : Int32))] d7_72 rfl rfl
              |>.iloadN d7_73 rfl rfl
              |>.iloadN d7_74 rfl rfl
              |>.iconst (1 : Int32) d7_75 rfl rfl
              |>.iushr d7_76 rfl
              |>.isub d7_77 rfl
            have f0 := ush32 a (4 : Int32) 4 (by decide) (by decide) (by omega)
            simp only [Nat.reducePow] at f0
            have f1 := ush32 (ushr32 a (4 : Int32)) (2 : Int32) 2 (by decide) (by decide) (by omega)
            simp only [Nat.reducePow] at f1
            have g := ush32 (ushr32 (ushr32 a (4 : Int32)) (2 : Int32)) (1 : Int32) 1 (by decide) (by decide) (by omega)
            simp only [Nat.reducePow] at g
            have e0 : (25 : Int32).toInt = 25 := rfl
            have d := c_isub (25 : Int32) (ushr32 (ushr32 (ushr32 a (4 : Int32)) (2 : Int32)) (1 : Int32))
            have rr := rng32 ((25 : Int32) - (ushr32 (ushr32 (ushr32 a (4 : Int32)) (2 : Int32)) (1 : Int32)))
            have ra := rng32 a
            by_cases lo : (ushr32 (ushr32 a (4 : Int32)) (2 : Int32)).toInt < 2
            · have e1 : ((25 : Int32) - (ushr32 (ushr32 (ushr32 a (4 : Int32)) (2 : Int32)) (1 : Int32))) = Int32.ofNat 25 := Int32.toInt_inj.mp (by have : (Int32.ofNat 25).toInt = 25 := rfl; omega)
              exact s16.retI d7_78 hret hlk (fun hh q => ⟨⟨25, by rw [e1], Or.inr ⟨by omega, by decide, by simp only [Nat.reducePow, Nat.reduceSub]; omega, by simp only [Nat.reducePow, Nat.reduceSub]; omega⟩⟩, q⟩)
            · have e1 : ((25 : Int32) - (ushr32 (ushr32 (ushr32 a (4 : Int32)) (2 : Int32)) (1 : Int32))) = Int32.ofNat 24 := Int32.toInt_inj.mp (by have : (Int32.ofNat 24).toInt = 24 := rfl; omega)
              exact s16.retI d7_78 hret hlk (fun hh q => ⟨⟨24, by rw [e1], Or.inr ⟨by omega, by decide, by simp only [Nat.reducePow, Nat.reduceSub]; omega, by simp only [Nat.reducePow, Nat.reduceSub]; omega⟩⟩, q⟩)
      · have s17 : Sit p l e _ s m _ below meth c _ st n0 0 0 _ 51 #[.val (.int (ushr32 a (8 : Int32))), .val (.int (23 : Int32))] [(.int (16 : Int32)), (.int (ushr32 a (8 : Int32)))] := s5
          |>.icmpN d7_37 (cmpF (cd := .lt) cnd6) rfl
          |>.iinc (23 : Int32) #[.val (.int a), .val (.int (23 : Int32))] d7_40 rfl rfl rfl rfl
          |>.iloadN d7_43 rfl rfl
          |>.bipush (8 : Int32) d7_44 rfl rfl
          |>.iushr d7_46 rfl
          |>.istoreN #[.val (.int (ushr32 a (8 : Int32))), .val (.int (23 : Int32))] d7_47 rfl rfl
          |>.iloadN d7_48 rfl rfl
          |>.bipush (16 : Int32) d7_49 rfl rfl
        by_cases cnd18 : (ushr32 a (8 : Int32)).toInt < (16 : Int)
        · have s19 : Sit p l e _ s m _ below meth c _ st n0 0 0 _ 63 #[.val (.int (ushr32 a (8 : Int32))), .val (.int (23 : Int32))] [(.int (4 : Int32)), (.int (ushr32 a (8 : Int32)))] := s17
            |>.icmpY d7_51 (cmpT (cd := .lt) cnd18) (by decide) (by decide)
            |>.iloadN d7_61 rfl rfl
            |>.iconst (4 : Int32) d7_62 rfl rfl
          by_cases cnd20 : (ushr32 a (8 : Int32)).toInt < (4 : Int)
          · have s21 : Sit p l e _ s m _ below meth c _ st n0 0 0 _ 78 #[.val (.int (ushr32 a (8 : Int32))), .val (.int (23 : Int32))] [(.int ((23 : Int32) - (ushr32 (ushr32 a (8 : Int32)) (1 : Int32))))] := s19
              |>.icmpY d7_63 (cmpT (cd := .lt) cnd20) (by decide) (by decide)
              |>.iloadN d7_73 rfl rfl
              |>.iloadN d7_74 rfl rfl
              |>.iconst (1 : Int32) d7_75 rfl rfl
              |>.iushr d7_76 rfl
              |>.isub d7_77 rfl
            have f0 := ush32 a (8 : Int32) 8 (by decide) (by decide) (by omega)
            simp only [Nat.reducePow] at f0
            have g := ush32 (ushr32 a (8 : Int32)) (1 : Int32) 1 (by decide) (by decide) (by omega)
            simp only [Nat.reducePow] at g
            have e0 : (23 : Int32).toInt = 23 := rfl
            have d := c_isub (23 : Int32) (ushr32 (ushr32 a (8 : Int32)) (1 : Int32))
            have rr := rng32 ((23 : Int32) - (ushr32 (ushr32 a (8 : Int32)) (1 : Int32)))
            have ra := rng32 a
            by_cases lo : (ushr32 a (8 : Int32)).toInt < 2
            · have e1 : ((23 : Int32) - (ushr32 (ushr32 a (8 : Int32)) (1 : Int32))) = Int32.ofNat 23 := Int32.toInt_inj.mp (by have : (Int32.ofNat 23).toInt = 23 := rfl; omega)
              exact s21.retI d7_78 hret hlk (fun hh q => ⟨⟨23, by rw [e1], Or.inr ⟨by omega, by decide, by simp only [Nat.reducePow, Nat.reduceSub]; omega, by simp only [Nat.reducePow, Nat.reduceSub]; omega⟩⟩, q⟩)
            · have e1 : ((23 : Int32) - (ushr32 (ushr32 a (8 : Int32)) (1 : Int32))) = Int32.ofNat 22 := Int32.toInt_inj.mp (by have : (Int32.ofNat 22).toInt = 22 := rfl; omega)
              exact s21.retI d7_78 hret hlk (fun hh q => ⟨⟨22, by rw [e1], Or.inr ⟨by omega, by decide, by simp only [Nat.reducePow, Nat.reduceSub]; omega, by simp only [Nat.reducePow, Nat.reduceSub]; omega⟩⟩, q⟩)
          · have s22 : Sit p l e _ s m _ below meth c _ st n0 0 0 _ 78 #[.val (.int (ushr32 (ushr32 a (8 : Int32)) (2 : Int32))), .val (.int (21 : Int32))] [(.int ((21 : Int32) - (ushr32 (ushr32 (ushr32 a (8 : Int32)) (2 : Int32)) (1 : Int32))))] := s19
              |>.icmpN d7_63 (cmpF (cd := .lt) cnd20) rfl
              |>.iinc (21 : Int32) #[.val (.int (ushr32 a (8 : Int32))), .val (.int (21 : Int32))] d7_66 rfl rfl rfl rfl
              |>.iloadN d7_69 rfl rfl
              |>.iconst (2 : Int32) d7_70 rfl rfl
              |>.iushr d7_71 rfl
              |>.istoreN #[.val (.int (ushr32 (ushr32 a (8 : Int32)) (2 : Int32))), .val (.int (21 : Int32))] d7_72 rfl rfl
              |>.iloadN d7_73 rfl rfl
              |>.iloadN d7_74 rfl rfl
              |>.iconst (1 : Int32) d7_75 rfl rfl
              |>.iushr d7_76 rfl
              |>.isub d7_77 rfl
            have f0 := ush32 a (8 : Int32) 8 (by decide) (by decide) (by omega)
            simp only [Nat.reducePow] at f0
            have f1 := ush32 (ushr32 a (8 : Int32)) (2 : Int32) 2 (by decide) (by decide) (by omega)
            simp only [Nat.reducePow] at f1
            have g := ush32 (ushr32 (ushr32 a (8 : Int32)) (2 : Int32)) (1 : Int32) 1 (by decide) (by decide) (by omega)
            simp only [Nat.reducePow] at g
            have e0 : (21 : Int32).toInt = 21 := rfl
            have d := c_isub (21 : Int32) (ushr32 (ushr32 (ushr32 a (8 : Int32)) (2 : Int32)) (1 : Int32))
            have rr := rng32 ((21 : Int32) - (ushr32 (ushr32 (ushr32 a (8 : Int32)) (2 : Int32)) (1 : Int32)))
            have ra := rng32 a
            by_cases lo : (ushr32 (ushr32 a (8 : Int32)) (2 : Int32)).toInt < 2
            · have e1 : ((21 : Int32) - (ushr32 (ushr32 (ushr32 a (8 : Int32)) (2 : Int32)) (1 : Int32))) = Int32.ofNat 21 := Int32.toInt_inj.mp (by have : (Int32.ofNat 21).toInt = 21 := rfl; omega)
              exact s22.retI d7_78 hret hlk (fun hh q => ⟨⟨21, by rw [e1], Or.inr ⟨by omega, by decide, by simp only [Nat.reducePow, Nat.reduceSub]; omega, by simp only [Nat.reducePow, Nat.reduceSub]; omega⟩⟩, q⟩)
            · have e1 : ((21 : Int32) - (ushr32 (ushr32 (ushr32 a (8 : Int32)) (2 : Int32)) (1 : Int32))) = Int32.ofNat 20 := Int32.toInt_inj.mp (by have : (Int32.ofNat 20).toInt = 20 := rfl; omega)
              exact s22.retI d7_78 hret hlk (fun hh q => ⟨⟨20, by rw [e1], Or.inr ⟨by omega, by decide, by simp only [Nat.reducePow, Nat.reduceSub]; omega, by simp only [Nat.reducePow, Nat.reduceSub]; omega⟩⟩, q⟩)
        · have s23 : Sit p l e _ s m _ below meth c _ st n0 0 0 _ 63 #[.val (.int (ushr32 (ushr32 a (8 : Int32)) (4 : Int32))), .val (.int (19 : Int32))] [(.int (4 : Int32)), (.int (ushr32 (ushr32 a (8 : Int32)) (4 : Int32)))] := s17
            |>.icmpN d7_51 (cmpF (cd := .lt) cnd18) rfl
            |>.iinc (19 : Int32) #[.val (.int (ushr32 a (8 : Int32))), .val (.int (19 : Int32))] d7_54 rfl rfl rfl rfl
            |>.iloadN d7_57 rfl rfl
            |>.iconst (4 : Int32) d7_58 rfl rfl
            |>.iushr d7_59 rfl
            |>.istoreN #[.val (.int (ushr32 (ushr32 a (8 : Int32)) (4 : Int32))), .val (.int (19 : Int32))] d7_60 rfl rfl
            |>.iloadN d7_61 rfl rfl
            |>.iconst (4 : Int32) d7_62 rfl rfl
          by_cases cnd24 : (ushr32 (ushr32 a (8 : Int32)) (4 : Int32)).toInt < (4 : Int)
          · have s25 : Sit p l e _ s m _ below meth c _ st n0 0 0 _ 78 #[.val (.int (ushr32 (ushr32 a (8 : Int32)) (4 : Int32))), .val (.int (19 : Int32))] [(.int ((19 : Int32) - (ushr32 (ushr32 (ushr32 a (8 : Int32)) (4 : Int32)) (1 : Int32))))] := s23
              |>.icmpY d7_63 (cmpT (cd := .lt) cnd24) (by decide) (by decide)
              |>.iloadN d7_73 rfl rfl
              |>.iloadN d7_74 rfl rfl
              |>.iconst (1 : Int32) d7_75 rfl rfl
              |>.iushr d7_76 rfl
              |>.isub d7_77 rfl
            have f0 := ush32 a (8 : Int32) 8 (by decide) (by decide) (by omega)
            simp only [Nat.reducePow] at f0
            have f1 := ush32 (ushr32 a (8 : Int32)) (4 : Int32) 4 (by decide) (by decide) (by omega)
            simp only [Nat.reducePow] at f1
            have g := ush32 (ushr32 (ushr32 a (8 : Int32)) (4 : Int32)) (1 : Int32) 1 (by decide) (by decide) (by omega)
            simp only [Nat.reducePow] at g
            have e0 : (19 : Int32).toInt = 19 := rfl
            have d := c_isub (19 : Int32) (ushr32 (ushr32 (ushr32 a (8 : Int32)) (4 : Int32)) (1 : Int32))
            have rr := rng32 ((19 : Int32) - (ushr32 (ushr32 (ushr32 a (8 : Int32)) (4 : Int32)) (1 : Int32)))
            have ra := rng32 a
            by_cases lo : (ushr32 (ushr32 a (8 : Int32)) (4 : Int32)).toInt < 2
            · have e1 : ((19 : Int32) - (ushr32 (ushr32 (ushr32 a (8 : Int32)) (4 : Int32)) (1 : Int32))) = Int32.ofNat 19 := Int32.toInt_inj.mp (by have : (Int32.ofNat 19).toInt = 19 := rfl; omega)
              exact s25.retI d7_78 hret hlk (fun hh q => ⟨⟨19, by rw [e1], Or.inr ⟨by omega, by decide, by simp only [Nat.reducePow, Nat.reduceSub]; omega, by simp only [Nat.reducePow, Nat.reduceSub]; omega⟩⟩, q⟩)
            · have e1 : ((19 : Int32) - (ushr32 (ushr32 (ushr32 a (8 : Int32)) (4 : Int32)) (1 : Int32))) = Int32.ofNat 18 := Int32.toInt_inj.mp (by have : (Int32.ofNat 18).toInt = 18 := rfl; omega)
              exact s25.retI d7_78 hret hlk (fun hh q => ⟨⟨18, by rw [e1], Or.inr ⟨by omega, by decide, by simp only [Nat.reducePow, Nat.reduceSub]; omega, by simp only [Nat.reducePow, Nat.reduceSub]; omega⟩⟩, q⟩)
          · have s26 : Sit p l e _ s m _ below meth c _ st n0 0 0 _ 78 #[.val (.int (ushr32 (ushr32 (ushr32 a (8 : Int32)) (4 : Int32)) (2 : Int32))), .val (.int (17 : Int32))] [(.int ((17 : Int32) - (ushr32 (ushr32 (ushr32 (ushr32 a (8 : Int32)) (4 : Int32)) (2 : Int32)) (1 : Int32))))] := s23
              |>.icmpN d7_63 (cmpF (cd := .lt) cnd24) rfl
              |>.iinc (17 : Int32) #[.val (.int (ushr32 (ushr32 a (8 : Int32)) (4 : Int32))), .val (.int (17 : Int32))] d7_66 rfl rfl rfl rfl
              |>.iloadN d7_69 rfl rfl
              |>.iconst (2 : Int32) d7_70 rfl rfl
              |>.iushr d7_71 rfl
              |>.istoreN #[.val (.int (ushr32 (ushr32 (ushr32 a (8 : Int32)) (4 : Int32)) (2 : Int32))), .val (.int (17 : Int32))] d7_72 rfl rfl
              |>.iloadN d7_73 rfl rfl
              |>.iloadN d7_74 rfl rfl
              |>.iconst (1 : Int32) d7_75 rfl rfl
              |>.iushr d7_76 rfl
              |>.isub d7_77 rfl
            have f0 := ush32 a (8 : Int32) 8 (by decide) (by decide) (by omega)
            simp only [Nat.reducePow] at f0
            have f1 := ush32 (ushr32 a (8 : Int32)) (4 : Int32) 4 (by decide) (by decide) (by omega)
            simp only [Nat.reducePow] at f1
            have f2 := ush32 (ushr32 (ushr32 a (8 : Int32)) (4 : Int32)) (2 : Int32) 2 (by decide) (by decide) (by omega)
            simp only [Nat.reducePow] at f2
            have g := ush32 (ushr32 (ushr32 (ushr32 a (8 : Int32)) (4 : Int32)) (2 : Int32)) (1 : Int32) 1 (by decide) (by decide) (by omega)
            simp only [Nat.reducePow] at g
            have e0 : (17 : Int32).toInt = 17 := rfl
            have d := c_isub (17 : Int32) (ushr32 (ushr32 (ushr32 (ushr32 a (8 : Int32)) (4 : Int32)) (2 : Int32)) (1 : Int32))
            have rr := rng32 ((17 : Int32) - (ushr32 (ushr32 (ushr32 (ushr32 a (8 : Int32)) (4 : Int32)) (2 : Int32)) (1 : Int32)))
            have ra := rng32 a
            by_cases lo : (ushr32 (ushr32 (ushr32 a (8 : Int32)) (4 : Int32)) (2 : Int32)).toInt < 2
            · have e1 : ((17 : Int32) - (ushr32 (ushr32 (ushr32 (ushr32 a (8 : Int32)) (4 : Int32)) (2 : Int32)) (1 : Int32))) = Int32.ofNat 17 := Int32.toInt_inj.mp (by have : (Int32.ofNat 17).toInt = 17 := rfl; omega)
              exact s26.retI d7_78 hret hlk (fun hh q => ⟨⟨17, by rw [e1], Or.inr ⟨by omega, by decide, by simp only [Nat.reducePow, Nat.reduceSub]; omega, by simp only [Nat.reducePow, Nat.reduceSub]; omega⟩⟩, q⟩)
            · have e1 : ((17 : Int32) - (ushr32 (ushr32 (ushr32 (ushr32 a (8 : Int32)) (4 : Int32)) (2 : Int32)) (1 : Int32))) = Int32.ofNat 16 := Int32.toInt_inj.mp (by have : (Int32.ofNat 16).toInt = 16 := rfl; omega)
              exact s26.retI d7_78 hret hlk (fun hh q => ⟨⟨16, by rw [e1], Or.inr ⟨by omega, by decide, by simp only [Nat.reducePow, Nat.reduceSub]; omega, by simp only [Nat.reducePow, Nat.reduceSub]; omega⟩⟩, q⟩)
    · have s27 : Sit p l e _ s m _ below meth c _ st n0 0 0 _ 37 #[.val (.int (ushr32 a (16 : Int32))), .val (.int (15 : Int32))] [(.int (256 : Int32)), (.int (ushr32 a (16 : Int32)))] := s3
        |>.icmpN d7_22 (cmpF (cd := .lt) cnd4) rfl
        |>.iinc (15 : Int32) #[.val (.int a), .val (.int (15 : Int32))] d7_25 rfl rfl rfl rfl
        |>.iloadN d7_28 rfl rfl
        |>.bipush (16 : Int32) d7_29 rfl rfl
        |>.iushr d7_31 rfl
        |>.istoreN #[.val (.int (ushr32 a (16 : Int32))), .val (.int (15 : Int32))] d7_32 rfl rfl
        |>.iloadN d7_33 rfl rfl
        |>.sipush (256 : Int32) d7_34 rfl rfl
      by_cases cnd28 : (ushr32 a (16 : Int32)).toInt < (256 : Int)
      · have s29 : Sit p l e _ s m _ below meth c _ st n0 0 0 _ 51 #[.val (.int (ushr32 a (16 : Int32))), .val (.int (15 : Int32))] [(.int (16 : Int32)), (.int (ushr32 a (16 : Int32)))] := s27
          |>.icmpY d7_37 (cmpT (cd := .lt) cnd28) (by decide) (by decide)
          |>.iloadN d7_48 rfl rfl
          |>.bipush (16 : Int32) d7_49 rfl rfl
        by_cases cnd30 : (ushr32 a (16 : Int32)).toInt < (16 : Int)
        · have s31 : Sit p l e _ s m _ below meth c _ st n0 0 0 _ 63 #[.val (.int (ushr32 a (16 : Int32))), .val (.int (15 : Int32))] [(.int (4 : Int32)), (.int (ushr32 a (16 : Int32)))] := s29
            |>.icmpY d7_51 (cmpT (cd := .lt) cnd30) (by decide) (by decide)
            |>.iloadN d7_61 rfl rfl
            |>.iconst (4 : Int32) d7_62 rfl rfl
          by_cases cnd32 : (ushr32 a (16 : Int32)).toInt < (4 : Int)
          · have s33 : Sit p l e _ s m _ below meth c _ st n0 0 0 _ 78 #[.val (.int (ushr32 a (16 : Int32))), .val (.int (15 : Int32))] [(.int ((15 : Int32) - (ushr32 (ushr32 a (16 : Int32)) (1 : Int32))))] := s31
              |>.icmpY d7_63 (cmpT (cd := .lt) cnd32) (by decide) (by decide)
              |>.iloadN d7_73 rfl rfl
              |>.iloadN d7_74 rfl rfl
              |>.iconst (1 : Int32) d7_75 rfl rfl
              |>.iushr d7_76 rfl
              |>.isub d7_77 rfl
            have f0 := ush32 a (16 : Int32) 16 (by decide) (by decide) (by omega)
            simp only [Nat.reducePow] at f0
            have g := ush32 (ushr32 a (16 : Int32)) (1 : Int32) 1 (by decide) (by decide) (by omega)
            simp only [Nat.reducePow] at g
            have e0 : (15 : Int32).toInt = 15 := rfl
            have d := c_isub (15 : Int32) (ushr32 (ushr32 a (16 : Int32)) (1 : Int32))
            have rr := rng32 ((15 : Int32) - (ushr32 (ushr32 a (16 : Int32)) (1 : Int32)))
            have ra := rng32 a
            by_cases lo : (ushr32 a (16 : Int32)).toInt < 2
            · have e1 : ((15 : Int32) - (ushr32 (ushr32 a (16 : Int32)) (1 : Int32))) = Int32.ofNat 15 := Int32.toInt_inj.mp (by have : (Int32.ofNat 15).toInt = 15 := rfl; omega)
              exact s33.retI d7_78 hret hlk (fun hh q => ⟨⟨15, by rw [e1], Or.inr ⟨by omega, by decide, by simp only [Nat.reducePow, Nat.reduceSub]; omega, by simp only [Nat.reducePow, Nat.reduceSub]; omega⟩⟩, q⟩)
            · have e1 : ((15 : Int32) - (ushr32 (ushr32 a (16 : Int32)) (1 : Int32))) = Int32.ofNat 14 := Int32.toInt_inj.mp (by have : (Int32.ofNat 14).toInt = 14 := rfl; omega)
              exact s33.retI d7_78 hret hlk (fun hh q => ⟨⟨14, by rw [e1], Or.inr ⟨by omega, by decide, by simp only [Nat.reducePow, Nat.reduceSub]; omega, by simp only [Nat.reducePow, Nat.reduceSub]; omega⟩⟩, q⟩)
          · have s34 : Sit p l e _ s m _ below meth c _ st n0 0 0 _ 78 #[.val (.int (ushr32 (ushr32 a (16 : Int32)) (2 : Int32))), .val (.int (13 : Int32))] [(.int ((13 : Int32) - (ushr32 (ushr32 (ushr32 a (16 : Int32)) (2 : Int32)) (1 : Int32))))] := s31
              |>.icmpN d7_63 (cmpF (cd := .lt) cnd32) rfl
              |>.iinc (13 : Int32) #[.val (.int (ushr32 a (16 : Int32))), .val (.int (13 : Int32))] d7_66 rfl rfl rfl rfl
              |>.iloadN d7_69 rfl rfl
              |>.iconst (2 : Int32) d7_70 rfl rfl
              |>.iushr d7_71 rfl
              |>.istoreN #[.val (.int (ushr32 (ushr32 a (16 : Int32)) (2 : Int32))), .val (.int (13 : Int32))] d7_72 rfl rfl
              |>.iloadN d7_73 rfl rfl
              |>.iloadN d7_74 rfl rfl
              |>.iconst (1 : Int32) d7_75 rfl rfl
              |>.iushr d7_76 rfl
              |>.isub d7_77 rfl
            have f0 := ush32 a (16 : Int32) 16 (by decide) (by decide) (by omega)
            simp only [Nat.reducePow] at f0
            have f1 := ush32 (ushr32 a (16 : Int32)) (2 : Int32) 2 (by decide) (by decide) (by omega)
            simp only [Nat.reducePow] at f1
            have g := ush32 (ushr32 (ushr32 a (16 : Int32)) (2 : Int32)) (1 : Int32) 1 (by decide) (by decide) (by omega)
            simp only [Nat.reducePow] at g
            have e0 : (13 : Int32).toInt = 13 := rfl
            have d := c_isub (13 : Int32) (ushr32 (ushr32 (ushr32 a (16 : Int32)) (2 : Int32)) (1 : Int32))
            have rr := rng32 ((13 : Int32) - (ushr32 (ushr32 (ushr32 a (16 : Int32)) (2 : Int32)) (1 : Int32)))
            have ra := rng32 a
            by_cases lo : (ushr32 (ushr32 a (16 : Int32)) (2 : Int32)).toInt < 2
            · have e1 : ((13 : Int32) - (ushr32 (ushr32 (ushr32 a (16 : Int32)) (2 : Int32)) (1 : Int32))) = Int32.ofNat 13 := Int32.toInt_inj.mp (by have : (Int32.ofNat 13).toInt = 13 := rfl; omega)
              exact s34.retI d7_78 hret hlk (fun hh q => ⟨⟨13, by rw [e1], Or.inr ⟨by omega, by decide, by simp only [Nat.reducePow, Nat.reduceSub]; omega, by simp only [Nat.reducePow, Nat.reduceSub]; omega⟩⟩, q⟩)
            · have e1 : ((13 : Int32) - (ushr32 (ushr32 (ushr32 a (16 : Int32)) (2 : Int32)) (1 : Int32))) = Int32.ofNat 12 := Int32.toInt_inj.mp (by have : (Int32.ofNat 12).toInt = 12 := rfl; omega)
              exact s34.retI d7_78 hret hlk (fun hh q => ⟨⟨12, by rw [e1], Or.inr ⟨by omega, by decide, by simp only [Nat.reducePow, Nat.reduceSub]; omega, by simp only [Nat.reducePow, Nat.reduceSub]; omega⟩⟩, q⟩)
        · have s35 : Sit p l e _ s m _ below meth c _ st n0 0 0 _ 63 #[.val (.int (ushr32 (ushr32 a (16 : Int32)) (4 : Int32))), .val (.int (11 : Int32))] [(.int (4 : Int32)), (.int (ushr32 (ushr32 a (16 : Int32)) (4 : Int32)))] := s29
            |>.icmpN d7_51 (cmpF (cd := .lt) cnd30) rfl
            |>.iinc (11 : Int32) #[.val (.int (ushr32 a (16 : Int32))), .val (.int (11 : Int32))] d7_54 rfl rfl rfl rfl
            |>.iloadN d7_57 rfl rfl
            |>.iconst (4 : Int32) d7_58 rfl rfl
            |>.iushr d7_59 rfl
            |>.istoreN #[.val (.int (ushr32 (ushr32 a (16 : Int32)) (4 : Int32))), .val (.int (11 : Int32))] d7_60 rfl rfl
            |>.iloadN d7_61 rfl rfl
            |>.iconst (4 : Int32) d7_62 rfl rfl
          by_cases cnd36 : (ushr32 (ushr32 a (16 : Int32)) (4 : Int32)).toInt < (4 : Int)
          · have s37 : Sit p l e _ s m _ below meth c _ st n0 0 0 _ 78 #[.val (.int (ushr32 (ushr32 a (16 : Int32)) (4 : Int32))), .val (.int (11 : Int32))] [(.int ((11 : Int32) - (ushr32 (ushr32 (ushr32 a (16 : Int32)) (4 : Int32)) (1 : Int32))))] := s35
              |>.icmpY d7_63 (cmpT (cd := .lt) cnd36) (by decide) (by decide)
              |>.iloadN d7_73 rfl rfl
              |>.iloadN d7_74 rfl rfl
              |>.iconst (1 : Int32) d7_75 rfl rfl
              |>.iushr d7_76 rfl
              |>.isub d7_77 rfl
            have f0 := ush32 a (16 : Int32) 16 (by decide) (by decide) (by omega)
            simp only [Nat.reducePow] at f0
            have f1 := ush32 (ushr32 a (16 : Int32)) (4 : Int32) 4 (by decide) (by decide) (by omega)
            simp only [Nat.reducePow] at f1
            have g := ush32 (ushr32 (ushr32 a (16 : Int32)) (4 : Int32)) (1 : Int32) 1 (by decide) (by decide) (by omega)
            simp only [Nat.reducePow] at g
            have e0 : (11 : Int32).toInt = 11 := rfl
            have d := c_isub (11 : Int32) (ushr32 (ushr32 (ushr32 a (16 : Int32)) (4 : Int32)) (1 : Int32))
            have rr := rng32 ((11 : Int32) - (ushr32 (ushr32 (ushr32 a (16 : Int32)) (4 : Int32)) (1 : Int32)))
            have ra := rng32 a
            by_cases lo : (ushr32 (ushr32 a (16 : Int32)) (4 : Int32)).toInt < 2
            · have e1 : ((11 : Int32) - (ushr32 (ushr32 (ushr32 a (16 : Int32)) (4 : Int32)) (1 : Int32))) = Int32.ofNat 11 := Int32.toInt_inj.mp (by have : (Int32.ofNat 11).toInt = 11 := rfl; omega)
              exact s37.retI d7_78 hret hlk (fun hh q => ⟨⟨11, by rw [e1], Or.inr ⟨by omega, by decide, by simp only [Nat.reducePow, Nat.reduceSub]; omega, by simp only [Nat.reducePow, Nat.reduceSub]; omega⟩⟩, q⟩)
            · have e1 : ((11 : Int32) - (ushr32 (ushr32 (ushr32 a (16 : Int32)) (4 : Int32)) (1 : Int32))) = Int32.ofNat 10 := Int32.toInt_inj.mp (by have : (Int32.ofNat 10).toInt = 10 := rfl; omega)
              exact s37.retI d7_78 hret hlk (fun hh q => ⟨⟨10, by rw [e1], Or.inr ⟨by omega, by decide, by simp only [Nat.reducePow, Nat.reduceSub]; omega, by simp only [Nat.reducePow, Nat.reduceSub]; omega⟩⟩, q⟩)
          · have s38 : Sit p l e _ s m _ below meth c _ st n0 0 0 _ 78 #[.val (.int (ushr32 (ushr32 (ushr32 a (16 : Int32)) (4 : Int32)) (2 : Int32))), .val (.int (9 : Int32))] [(.int ((9 : Int32) - (ushr32 (ushr32 (ushr32 (ushr32 a (16 : Int32)) (4 : Int32)) (2 : Int32)) (1 : Int32))))] := s35
              |>.icmpN d7_63 (cmpF (cd := .lt) cnd36) rfl
              |>.iinc (9 : Int32) #[.val (.int (ushr32 (ushr32 a (16 : Int32)) (4 : Int32))), .val (.int (9 : Int32))] d7_66 rfl rfl rfl rfl
              |>.iloadN d7_69 rfl rfl
              |>.iconst (2 : Int32) d7_70 rfl rfl
              |>.iushr d7_71 rfl
              |>.istoreN #[.val (.int (ushr32 (ushr32 (ushr32 a (16 : Int32)) (4 : Int32)) (2 : Int32))), .val (.int (9 : Int32))] d7_72 rfl rfl
              |>.iloadN d7_73 rfl rfl
              |>.iloadN d7_74 rfl rfl
              |>.iconst (1 : Int32) d7_75 rfl rfl
              |>.iushr d7_76 rfl
              |>.isub d7_77 rfl
            have f0 := ush32 a (16 : Int32) 16 (by decide) (by decide) (by omega)
            simp only [Nat.reducePow] at f0
            have f1 := ush32 (ushr32 a (16 : Int32)) (4 : Int32) 4 (by decide) (by decide) (by omega)
            simp only [Nat.reducePow] at f1
            have f2 := ush32 (ushr32 (ushr32 a (16 : Int32)) (4 : Int32)) (2 : Int32) 2 (by decide) (by decide) (by omega)
            simp only [Nat.reducePow] at f2
            have g := ush32 (ushr32 (ushr32 (ushr32 a (16 : Int32)) (4 : Int32)) (2 : Int32)) (1 : Int32) 1 (by decide) (by decide) (by omega)
            simp only [Nat.reducePow] at g
            have e0 : (9 : Int32).toInt = 9 := rfl
            have d := c_isub (9 : Int32) (ushr32 (ushr32 (ushr32 (ushr32 a (16 : Int32)) (4 : Int32)) (2 : Int32)) (1 : Int32))
            have rr := rng32 ((9 : Int32) - (ushr32 (ushr32 (ushr32 (ushr32 a (16 : Int32)) (4 : Int32)) (2 : Int32)) (1 : Int32)))
            have ra := rng32 a
            by_cases lo : (ushr32 (ushr32 (ushr32 a (16 : Int32)) (4 : Int32)) (2 : Int32)).toInt < 2
            · have e1 : ((9 : Int32) - (ushr32 (ushr32 (ushr32 (ushr32 a (16 : Int32)) (4 : Int32)) (2 : Int32)) (1 : Int32))) = Int32.ofNat 9 := Int32.toInt_inj.mp (by have : (Int32.ofNat 9).toInt = 9 := rfl; omega)
              exact s38.retI d7_78 hret hlk (fun hh q => ⟨⟨9, by rw [e1], Or.inr ⟨by omega, by decide, by simp only [Nat.reducePow, Nat.reduceSub]; omega, by simp only [Nat.reducePow, Nat.reduceSub]; omega⟩⟩, q⟩)
            · have e1 : ((9 : Int32) - (ushr32 (ushr32 (ushr32 (ushr32 a (16 : Int32)) (4 : Int32)) (2 : Int32)) (1 : Int32))) = Int32.ofNat 8 := Int32.toInt_inj.mp (by have : (Int32.ofNat 8).toInt = 8 := rfl; omega)
              exact s38.retI d7_78 hret hlk (fun hh q => ⟨⟨8, by rw [e1], Or.inr ⟨by omega, by decide, by simp only [Nat.reducePow, Nat.reduceSub]; omega, by simp only [Nat.reducePow, Nat.reduceSub]; omega⟩⟩, q⟩)
      · have s39 : Sit p l e _ s m _ below meth c _ st n0 0 0 _ 51 #[.val (.int (ushr32 (ushr32 a (16 : Int32)) (8 : Int32))), .val (.int (7 : Int32))] [(.int (16 : Int32)), (.int (ushr32 (ushr32 a (16 : Int32)) (8 : Int32)))] := s27
          |>.icmpN d7_37 (cmpF (cd := .lt) cnd28) rfl
          |>.iinc (7 : Int32) #[.val (.int (ushr32 a (16 : Int32))), .val (.int (7 : Int32))] d7_40 rfl rfl rfl rfl
          |>.iloadN d7_43 rfl rfl
          |>.bipush (8 : Int32) d7_44 rfl rfl
          |>.iushr d7_46 rfl
          |>.istoreN #[.val (.int (ushr32 (ushr32 a (16 : Int32)) (8 : Int32))), .val (.int (7 : Int32))] d7_47 rfl rfl
          |>.iloadN d7_48 rfl rfl
          |>.bipush (16 : Int32) d7_49 rfl rfl
        by_cases cnd40 : (ushr32 (ushr32 a (16 : Int32)) (8 : Int32)).toInt < (16 : Int)
        · have s41 : Sit p l e _ s m _ below meth c _ st n0 0 0 _ 63 #[.val (.int (ushr32 (ushr32 a (16 : Int32)) (8 : Int32))), .val (.int (7 : Int32))] [(.int (4 : Int32)), (.int (ushr32 (ushr32 a (16 : Int32)) (8 : Int32)))] := s39
            |>.icmpY d7_51 (cmpT (cd := .lt) cnd40) (by decide) (by decide)
            |>.iloadN d7_61 rfl rfl
            |>.iconst (4 : Int32) d7_62 rfl rfl
          by_cases cnd42 : (ushr32 (ushr32 a (16 : Int32)) (8 : Int32)).toInt < (4 : Int)
          · have s43 : Sit p l e _ s m _ below meth c _ st n0 0 0 _ 78 #[.val (.int (ushr32 (ushr32 a (16 : Int32)) (8 : Int32))), .val (.int (7 : Int32))] [(.int ((7 : Int32) - (ushr32 (ushr32 (ushr32 a (16 : Int32)) (8 : Int32)) (1 : Int32))))] := s41
              |>.icmpY d7_63 (cmpT (cd := .lt) cnd42) (by decide) (by decide)
              |>.iloadN d7_73 rfl rfl
              |>.iloadN d7_74 rfl rfl
              |>.iconst (1 : Int32) d7_75 rfl rfl
              |>.iushr d7_76 rfl
              |>.isub d7_77 rfl
            have f0 := ush32 a (16 : Int32) 16 (by decide) (by decide) (by omega)
            simp only [Nat.reducePow] at f0
            have f1 := ush32 (ushr32 a (16 : Int32)) (8 : Int32) 8 (by decide) (by decide) (by omega)
            simp only [Nat.reducePow] at f1
            have g := ush32 (ushr32 (ushr32 a (16 : Int32)) (8 : Int32)) (1 : Int32) 1 (by decide) (by decide) (by omega)
            simp only [Nat.reducePow] at g
            have e0 : (7 : Int32).toInt = 7 := rfl
            have d := c_isub (7 : Int32) (ushr32 (ushr32 (ushr32 a (16 : Int32)) (8 : Int32)) (1 : Int32))
            have rr := rng32 ((7 : Int32) - (ushr32 (ushr32 (ushr32 a (16 : Int32)) (8 : Int32)) (1 : Int32)))
            have ra := rng32 a
            by_cases lo : (ushr32 (ushr32 a (16 : Int32)) (8 : Int32)).toInt < 2
            · have e1 : ((7 : Int32) - (ushr32 (ushr32 (ushr32 a (16 : Int32)) (8 : Int32)) (1 : Int32))) = Int32.ofNat 7 := Int32.toInt_inj.mp (by have : (Int32.ofNat 7).toInt = 7 := rfl; omega)
              exact s43.retI d7_78 hret hlk (fun hh q => ⟨⟨7, by rw [e1], Or.inr ⟨by omega, by decide, by simp only [Nat.reducePow, Nat.reduceSub]; omega, by simp only [Nat.reducePow, Nat.reduceSub]; omega⟩⟩, q⟩)
            · have e1 : ((7 : Int32) - (ushr32 (ushr32 (ushr32 a (16 : Int32)) (8 : Int32)) (1 : Int32))) = Int32.ofNat 6 := Int32.toInt_inj.mp (by have : (Int32.ofNat 6).toInt = 6 := rfl; omega)
              exact s43.retI d7_78 hret hlk (fun hh q => ⟨⟨6, by rw [e1], Or.inr ⟨by omega, by decide, by simp only [Nat.reducePow, Nat.reduceSub]; omega, by simp only [Nat.reducePow, Nat.reduceSub]; omega⟩⟩, q⟩)
          · have s44 : Sit p l e _ s m _ below meth c _ st n0 0 0 _ 78 #[.val (.int (ushr32 (ushr32 (ushr32 a (16 : Int32)) (8 : Int32)) (2 : Int32))), .val (.int (5 : Int32))] [(.int ((5 : Int32) - (ushr32 (ushr32 (ushr32 (ushr32 a (16 : Int32)) (8 : Int32)) (2 : Int32)) (1 : Int32))))] := s41
              |>.icmpN d7_63 (cmpF (cd := .lt) cnd42) rfl
              |>.iinc (5 : Int32) #[.val (.int (ushr32 (ushr32 a (16 : Int32)) (8 : Int32))), .val (.int (5 : Int32))] d7_66 rfl rfl rfl rfl
              |>.iloadN d7_69 rfl rfl
              |>.iconst (2 : Int32) d7_70 rfl rfl
              |>.iushr d7_71 rfl
              |>.istoreN #[.val (.int (ushr32 (ushr32 (ushr32 a (16 : Int32)) (8 : Int32)) (2 : Int32))), .val (.int (5 : Int32))] d7_72 rfl rfl
              |>.iloadN d7_73 rfl rfl
              |>.iloadN d7_74 rfl rfl
              |>.iconst (1 : Int32) d7_75 rfl rfl
              |>.iushr d7_76 rfl
              |>.isub d7_77 rfl
            have f0 := ush32 a (16 : Int32) 16 (by decide) (by decide) (by omega)
            simp only [Nat.reducePow] at f0
            have f1 := ush32 (ushr32 a (16 : Int32)) (8 : Int32) 8 (by decide) (by decide) (by omega)
            simp only [Nat.reducePow] at f1
            have f2 := ush32 (ushr32 (ushr32 a (16 : Int32)) (8 : Int32)) (2 : Int32) 2 (by decide) (by decide) (by omega)
            simp only [Nat.reducePow] at f2
            have g := ush32 (ushr32 (ushr32 (ushr32 a (16 : Int32)) (8 : Int32)) (2 : Int32)) (1 : Int32) 1 (by decide) (by decide) (by omega)
            simp only [Nat.reducePow] at g
            have e0 : (5 : Int32).toInt = 5 := rfl
            have d := c_isub (5 : Int32) (ushr32 (ushr32 (ushr32 (ushr32 a (16 : Int32)) (8 : Int32)) (2 : Int32)) (1 : Int32))
            have rr := rng32 ((5 : Int32) - (ushr32 (ushr32 (ushr32 (ushr32 a (16 : Int32)) (8 : Int32)) (2 : Int32)) (1 : Int32)))
            have ra := rng32 a
            by_cases lo : (ushr32 (ushr32 (ushr32 a (16 : Int32)) (8 : Int32)) (2 : Int32)).toInt < 2
            · have e1 : ((5 : Int32) - (ushr32 (ushr32 (ushr32 (ushr32 a (16 : Int32)) (8 : Int32)) (2 : Int32)) (1 : Int32))) = Int32.ofNat 5 := Int32.toInt_inj.mp (by have : (Int32.ofNat 5).toInt = 5 := rfl; omega)
              exact s44.retI d7_78 hret hlk (fun hh q => ⟨⟨5, by rw [e1], Or.inr ⟨by omega, by decide, by simp only [Nat.reducePow, Nat.reduceSub]; omega, by simp only [Nat.reducePow, Nat.reduceSub]; omega⟩⟩, q⟩)
            · have e1 : ((5 : Int32) - (ushr32 (ushr32 (ushr32 (ushr32 a (16 : Int32)) (8 : Int32)) (2 : Int32)) (1 : Int32))) = Int32.ofNat 4 := Int32.toInt_inj.mp (by have : (Int32.ofNat 4).toInt = 4 := rfl; omega)
              exact s44.retI d7_78 hret hlk (fun hh q => ⟨⟨4, by rw [e1], Or.inr ⟨by omega, by decide, by simp only [Nat.reducePow, Nat.reduceSub]; omega, by simp only [Nat.reducePow, Nat.reduceSub]; omega⟩⟩, q⟩)
        · have s45 : Sit p l e _ s m _ below meth c _ st n0 0 0 _ 63 #[.val (.int (ushr32 (ushr32 (ushr32 a (16 : Int32)) (8 : Int32)) (4 : Int32))), .val (.int (3 : Int32))] [(.int (4 : Int32)), (.int (ushr32 (ushr32 (ushr32 a (16 : Int32)) (8 : Int32)) (4 : Int32)))] := s39
            |>.icmpN d7_51 (cmpF (cd := .lt) cnd40) rfl
            |>.iinc (3 : Int32) #[.val (.int (ushr32 (ushr32 a (16 : Int32)) (8 : Int32))), .val (.int (3 : Int32))] d7_54 rfl rfl rfl rfl
            |>.iloadN d7_57 rfl rfl
            |>.iconst (4 : Int32) d7_58 rfl rfl
            |>.iushr d7_59 rfl
            |>.istoreN #[.val (.int (ushr32 (ushr32 (ushr32 a (16 : Int32)) (8 : Int32)) (4 : Int32))), .val (.int (3 : Int32))] d7_60 rfl rfl
            |>.iloadN d7_61 rfl rfl
            |>.iconst (4 : Int32) d7_62 rfl rfl
          by_cases cnd46 : (ushr32 (ushr32 (ushr32 a (16 : Int32)) (8 : Int32)) (4 : Int32)).toInt < (4 : Int)
          · have s47 : Sit p l e _ s m _ below meth c _ st n0 0 0 _ 78 #[.val (.int (ushr32 (ushr32 (ushr32 a (16 : Int32)) (8 : Int32)) (4 : Int32))), .val (.int (3 : Int32))] [(.int ((3 : Int32) - (ushr32 (ushr32 (ushr32 (ushr32 a (16 : Int32)) (8 : Int32)) (4 : Int32)) (1 : Int32))))] := s45
              |>.icmpY d7_63 (cmpT (cd := .lt) cnd46) (by decide) (by decide)
              |>.iloadN d7_73 rfl rfl
              |>.iloadN d7_74 rfl rfl
              |>.iconst (1 : Int32) d7_75 rfl rfl
              |>.iushr d7_76 rfl
              |>.isub d7_77 rfl
            have f0 := ush32 a (16 : Int32) 16 (by decide) (by decide) (by omega)
            simp only [Nat.reducePow] at f0
            have f1 := ush32 (ushr32 a (16 : Int32)) (8 : Int32) 8 (by decide) (by decide) (by omega)
            simp only [Nat.reducePow] at f1
            have f2 := ush32 (ushr32 (ushr32 a (16 : Int32)) (8 : Int32)) (4 : Int32) 4 (by decide) (by decide) (by omega)
            simp only [Nat.reducePow] at f2
            have g := ush32 (ushr32 (ushr32 (ushr32 a (16 : Int32)) (8 : Int32)) (4 : Int32)) (1 : Int32) 1 (by decide) (by decide) (by omega)
            simp only [Nat.reducePow] at g
            have e0 : (3 : Int32).toInt = 3 := rfl
            have d := c_isub (3 : Int32) (ushr32 (ushr32 (ushr32 (ushr32 a (16 : Int32)) (8 : Int32)) (4 : Int32)) (1 : Int32))
            have rr := rng32 ((3 : Int32) - (ushr32 (ushr32 (ushr32 (ushr32 a (16 : Int32)) (8 : Int32)) (4 : Int32)) (1 : Int32)))
            have ra := rng32 a
            by_cases lo : (ushr32 (ushr32 (ushr32 a (16 : Int32)) (8 : Int32)) (4 : Int32)).toInt < 2
            · have e1 : ((3 : Int32) - (ushr32 (ushr32 (ushr32 (ushr32 a (16 : Int32)) (8 : Int32)) (4 : Int32)) (1 : Int32))) = Int32.ofNat 3 := Int32.toInt_inj.mp (by have : (Int32.ofNat 3).toInt = 3 := rfl; omega)
              exact s47.retI d7_78 hret hlk (fun hh q => ⟨⟨3, by rw [e1], Or.inr ⟨by omega, by decide, by simp only [Nat.reducePow, Nat.reduceSub]; omega, by simp only [Nat.reducePow, Nat.reduceSub]; omega⟩⟩, q⟩)
            · have e1 : ((3 : Int32) - (ushr32 (ushr32 (ushr32 (ushr32 a (16 : Int32)) (8 : Int32)) (4 : Int32)) (1 : Int32))) = Int32.ofNat 2 := Int32.toInt_inj.mp (by have : (Int32.ofNat 2).toInt = 2 := rfl; omega)
              exact s47.retI d7_78 hret hlk (fun hh q => ⟨⟨2, by rw [e1], Or.inr ⟨by omega, by decide, by simp only [Nat.reducePow, Nat.reduceSub]; omega, by simp only [Nat.reducePow, Nat.reduceSub]; omega⟩⟩, q⟩)
          · have s48 : Sit p l e _ s m _ below meth c _ st n0 0 0 _ 78 #[.val (.int (ushr32 (ushr32 (ushr32 (ushr32 a (16 : Int32)) (8 : Int32)) (4 : Int32)) (2 : Int32))), .val (.int (1 : Int32))] [(.int ((1 : Int32) - (ushr32 (ushr32 (ushr32 (ushr32 (ushr32 a (16 : Int32)) (8 : Int32)) (4 : Int32)) (2 : Int32)) (1 : Int32))))] := s45
              |>.icmpN d7_63 (cmpF (cd := .lt) cnd46) rfl
              |>.iinc (1 : Int32) #[.val (.int (ushr32 (ushr32 (ushr32 a (16 : Int32)) (8 : Int32)) (4 : Int32))), .val (.int (1 : Int32))] d7_66 rfl rfl rfl rfl
              |>.iloadN d7_69 rfl rfl
              |>.iconst (2 : Int32) d7_70 rfl rfl
              |>.iushr d7_71 rfl
              |>.istoreN #[.val (.int (ushr32 (ushr32 (ushr32 (ushr32 a (16 : Int32)) (8 : Int32)) (4 : Int32)) (2 : Int32))), .val (.int (1 : Int32))] d7_72 rfl rfl
              |>.iloadN d7_73 rfl rfl
              |>.iloadN d7_74 rfl rfl
              |>.iconst (1 : Int32) d7_75 rfl rfl
              |>.iushr d7_76 rfl
              |>.isub d7_77 rfl
            have f0 := ush32 a (16 : Int32) 16 (by decide) (by decide) (by omega)
            simp only [Nat.reducePow] at f0
            have f1 := ush32 (ushr32 a (16 : Int32)) (8 : Int32) 8 (by decide) (by decide) (by omega)
            simp only [Nat.reducePow] at f1
            have f2 := ush32 (ushr32 (ushr32 a (16 : Int32)) (8 : Int32)) (4 : Int32) 4 (by decide) (by decide) (by omega)
            simp only [Nat.reducePow] at f2
            have f3 := ush32 (ushr32 (ushr32 (ushr32 a (16 : Int32)) (8 : Int32)) (4 : Int32)) (2 : Int32) 2 (by decide) (by decide) (by omega)
            simp only [Nat.reducePow] at f3
            have g := ush32 (ushr32 (ushr32 (ushr32 (ushr32 a (16 : Int32)) (8 : Int32)) (4 : Int32)) (2 : Int32)) (1 : Int32) 1 (by decide) (by decide) (by omega)
            simp only [Nat.reducePow] at g
            have e0 : (1 : Int32).toInt = 1 := rfl
            have d := c_isub (1 : Int32) (ushr32 (ushr32 (ushr32 (ushr32 (ushr32 a (16 : Int32)) (8 : Int32)) (4 : Int32)) (2 : Int32)) (1 : Int32))
            have rr := rng32 ((1 : Int32) - (ushr32 (ushr32 (ushr32 (ushr32 (ushr32 a (16 : Int32)) (8 : Int32)) (4 : Int32)) (2 : Int32)) (1 : Int32)))
            have ra := rng32 a
            by_cases lo : (ushr32 (ushr32 (ushr32 (ushr32 a (16 : Int32)) (8 : Int32)) (4 : Int32)) (2 : Int32)).toInt < 2
            · have e1 : ((1 : Int32) - (ushr32 (ushr32 (ushr32 (ushr32 (ushr32 a (16 : Int32)) (8 : Int32)) (4 : Int32)) (2 : Int32)) (1 : Int32))) = Int32.ofNat 1 := Int32.toInt_inj.mp (by have : (Int32.ofNat 1).toInt = 1 := rfl; omega)
              exact s48.retI d7_78 hret hlk (fun hh q => ⟨⟨1, by rw [e1], Or.inr ⟨by omega, by decide, by simp only [Nat.reducePow, Nat.reduceSub]; omega, by simp only [Nat.reducePow, Nat.reduceSub]; omega⟩⟩, q⟩)
            · have e1 : ((1 : Int32) - (ushr32 (ushr32 (ushr32 (ushr32 (ushr32 a (16 : Int32)) (8 : Int32)) (4 : Int32)) (2 : Int32)) (1 : Int32))) = Int32.ofNat 0 := Int32.toInt_inj.mp (by have : (Int32.ofNat 0).toInt = 0 := rfl; omega)
              exact s48.retI d7_78 hret hlk (fun hh q => ⟨⟨0, by rw [e1], Or.inr ⟨by omega, by decide, by simp only [Nat.reducePow, Nat.reduceSub]; omega, by simp only [Nat.reducePow, Nat.reduceSub]; omega⟩⟩, q⟩)
  · have s49 : Sit p l e _ s m _ below meth c _ st n0 0 0 _ 5 #[.val (.int a), .unset] [(.int a)] := s1
      |>.ifN d7_1 (cmpF0 (cd := .gt) cnd2) rfl
      |>.iloadN d7_4 rfl rfl
    by_cases cnd50 : a.toInt ≠ 0
    · have s51 : Sit p l e _ s m _ below meth c _ st n0 0 0 _ 14 #[.val (.int a), .unset] [(.int (0 : Int32))] := s49
        |>.ifY d7_5 (cmpT0 (cd := .ne) cnd50) (by decide) (by decide)
        |>.iconst (0 : Int32) d7_13 rfl rfl
      exact absurd h0a (by omega)
    · have s52 : Sit p l e _ s m _ below meth c _ st n0 0 0 _ 14 #[.val (.int a), .unset] [(.int (32 : Int32))] := s49
        |>.ifN d7_5 (cmpF0 (cd := .ne) cnd50) rfl
        |>.bipush (32 : Int32) d7_8 rfl rfl
        |>.goto d7_10 (by decide) (by decide)
      exact s52.retI d7_14 hret hlk (fun hh q => ⟨⟨32, rfl, Or.inl ⟨by omega, rfl⟩⟩, q⟩)
theorem pn_rmHob : plainName "java/lang/Integer" = true := by first | (simp [plainName, overriddenIn]; done) | decide +kernel
theorem d6_0 : decode jdk_33_method_45_code 0 = .ok (.iload_n 0, 1) := by decide +kernel
theorem d6_1 : decode jdk_33_method_45_code 1 = .ok (.ldc 127, 2) := by decide +kernel
theorem d6_3 : decode jdk_33_method_45_code 3 = .ok (.iload_n 0, 1) := by decide +kernel
theorem d6_4 : decode jdk_33_method_45_code 4 = .ok (.invokestatic 51, 3) := by decide +kernel
theorem d6_7 : decode jdk_33_method_45_code 7 = .ok (.iushr, 1) := by decide +kernel
theorem d6_8 : decode jdk_33_method_45_code 8 = .ok (.iand, 1) := by decide +kernel
theorem d6_9 : decode jdk_33_method_45_code 9 = .ok (.ireturn, 1) := by decide +kernel
theorem ef_rmHob (m : MethodId) (a : Int32) : entryFrame m #[(.int a)] 1 = mkF m 0 #[.val (.int a)] [] := by first | (simp [entryFrame, mkF, argsToLocals, Value.category]; done) | rfl
set_option maxRecDepth 65536 in
set_option maxHeartbeats 40000000 in
theorem rmHob (l : Launch) (Z : State) (a0 : Array Value) (hw : ∀ d ∈ tables_1, d.before a0 Z = true) (wcs : List Jvm.Cond) (a : Int32)  (h0 : Heap) (n0 : Nat) (Z0 : n0 ≤ h0.size) (ha : 0 < a.toInt) : Met1 l (⟨"java/lang/Integer", "highestOneBit", "(I)I"⟩ : MethodName) jdk_33_method_45_code 1 (some .int) wcs ({ frames := 1, cells := 0, slots := 0, locals := 20 } : Room) Z #[(.int a)] h0 n0 (fun v hh => (∃ n : Nat, v = some (.int (Int32.ofNat (2 ^ n))) ∧ (n ≤ 30 ∧ ((2 ^ n : Nat) : Int) ≤ a.toInt ∧ a.toInt < ((2 ^ (n + 1) : Nat) : Int))) ∧ hh = h0) := by
  refine Met1.of (L0 := #[.val (.int a)]) (plainFor_of_name pn_rmHob) (fun m => ef_rmHob m a) Z0 ?_
  intro p e s m below meth c st s0 hZ hown hret hlk hnm hml
  have s1 : Sit p l e _ s m _ below meth c _ st n0 0 0 _ 4 #[.val (.int a)] [(.int a), (.int (-2147483648 : Int32)), (.int a)] := s0
    |>.iloadN d6_0 rfl rfl
    |>.ldc hZ hown (wi hw 43 rfl) d6_1 rfl
    |>.iloadN d6_3 rfl rfl
  obtain ⟨r3, s2⟩ := Sit.callS (y := (⟨"java/lang/Integer", "numberOfLeadingZeros", "(I)I"⟩ : MethodName)) (W := 2) (Q := fun rv_ hh => ∃ r : Nat, (rv_ = some (.int (Int32.ofNat r)) ∧ nlzP a.toInt r) ∧ (fun hh => hh = h0) hh) [(.int a)] [(.int (-2147483648 : Int32)), (.int a)] s1 hZ hown (wi hw 44 rfl) (wi hw 45 rfl) (wi hw 41 rfl) (wi hw 46 rfl) (by decide) (fun h1 hP hn => (rmNlz l Z a0 hw [] a h1 n0 hn (by omega)).mono fun rv_ hh q => by
      obtain ⟨⟨r, e1, e2⟩, e3⟩ := q
      exact ⟨r, ⟨e1, e2⟩, e3.trans hP⟩) hml rfl (lenOf pd_0 rfl) d6_4 (Nat.le_of_eq rfl) (by decide) (by decide) (by decide) (by decide) (pc' := 7) rfl
  obtain ⟨r, s5⟩ := s2.ex
  obtain ⟨_, ⟨er3, spr3⟩, _⟩ := s5.facts
  subst er3
  have s4 : Sit p l e _ s m _ below meth c _ st n0 0 0 (fun hh => hh = h0) 7 #[.val (.int a)] [(.int (Int32.ofNat r)), (.int (-2147483648 : Int32)), (.int a)] := s5.mono fun _ q => q.2
  have s6 : Sit p l e _ s m _ below meth c _ st n0 0 0 _ 9 #[.val (.int a)] [(.int (a &&& (ushr32 (-2147483648 : Int32) (Int32.ofNat r))))] := s4
    |>.iushr d6_7 rfl
    |>.iand d6_8 rfl
  obtain ⟨n, -, ev, h1, h2, h3⟩ := hob_val ha spr3
  exact s6.retI d6_9 hret hlk (fun hh q => ⟨⟨n, by rw [ev], h1, h2, h3⟩, q⟩)
theorem pn_rmI : plainName "reenact/trace/IntBits" = true := by first | (simp [plainName, overriddenIn]; done) | decide +kernel
theorem d1_0 : decode prog_149_method_1_code 0 = .ok (.aload_n 0, 1) := by decide +kernel
theorem d1_1 : decode prog_149_method_1_code 1 = .ok (.invokespecial 1, 3) := by decide +kernel
theorem d1_4 : decode prog_149_method_1_code 4 = .ok (.aload_n 0, 1) := by decide +kernel
theorem d1_5 : decode prog_149_method_1_code 5 = .ok (.iconst 4, 1) := by decide +kernel
theorem d1_6 : decode prog_149_method_1_code 6 = .ok (.newarray .long, 2) := by decide +kernel
theorem d1_8 : decode prog_149_method_1_code 8 = .ok (.putfield 9, 3) := by decide +kernel
theorem d1_11 : decode prog_149_method_1_code 11 = .ok (.aload_n 0, 1) := by decide +kernel
theorem d1_12 : decode prog_149_method_1_code 12 = .ok (.iconst (-1), 1) := by decide +kernel
theorem d1_13 : decode prog_149_method_1_code 13 = .ok (.putfield 13, 3) := by decide +kernel
theorem d1_16 : decode prog_149_method_1_code 16 = .ok (.return_, 1) := by decide +kernel
theorem ef_rmI (m : MethodId) (o : Addr) : entryFrame m #[(.ref o)] 1 = mkF m 0 #[.val (.ref o)] [] := by first | (simp [entryFrame, mkF, argsToLocals, Value.category]; done) | rfl
set_option maxRecDepth 65536 in
set_option maxHeartbeats 40000000 in
theorem rmI (l : Launch) (Z : State) (a0 : Array Value) (hw : ∀ d ∈ tables_1, d.before a0 Z = true) (wcs : List Jvm.Cond) (o : Addr)  (h0 : Heap) (n0 : Nat) (Z0 : n0 ≤ h0.size) (go : n0 ≤ o) (I : Exa Z h0 o "reenact/trace/IntBits" ∧ Fld Z h0 o "reenact/trace/IntBits" "words" "[J" .null ∧ Fld Z h0 o "reenact/trace/IntBits" "greatest" "I" (.int (0 : Int32)) ∧ Fld Z h0 o "reenact/trace/IntBits" "size" "I" (.int (0 : Int32)) ∧ Fld Z h0 o "reenact/trace/IntBits" "base" "I" (.int (0 : Int32)) ∧ Fld Z h0 o "reenact/trace/IntBits" "head" "I" (.int (0 : Int32))) : Met1 l (⟨"reenact/trace/IntBits", "<init>", "()V"⟩ : MethodName) prog_149_method_1_code 1 none wcs ({ frames := 1, cells := 1, slots := 4, locals := 20 } : Room) Z #[(.ref o)] h0 n0 (fun r hh => r = none ∧ ∃ v : Addr, (n0 ≤ v ∧ @Ne Nat o v) ∧ Exa Z hh o "reenact/trace/IntBits" ∧ Fld Z hh o "reenact/trace/IntBits" "words" "[J" (.ref v) ∧ Fld Z hh o "reenact/trace/IntBits" "greatest" "I" (.int (-1 : Int32)) ∧ Fld Z hh o "reenact/trace/IntBits" "size" "I" (.int (0 : Int32)) ∧ Fld Z hh o "reenact/trace/IntBits" "base" "I" (.int (0 : Int32)) ∧ Fld Z hh o "reenact/trace/IntBits" "head" "I" (.int (0 : Int32)) ∧ AV Z hh v .long ([0, 0, 0, 0].map Value.long)) := by
  refine Met1.of (L0 := #[.val (.ref o)]) (plainFor_of_name pn_rmI) (fun m => ef_rmI m o) Z0 ?_
  intro p e s m below meth c st s0 hZ hown hret hlk hnm hml
  have s1 : Sit p l e _ s m _ below meth c _ st n0 0 0 (fun hh => Exa Z hh o "reenact/trace/IntBits" ∧ Fld Z hh o "reenact/trace/IntBits" "words" "[J" .null ∧ Fld Z hh o "reenact/trace/IntBits" "greatest" "I" (.int (0 : Int32)) ∧ Fld Z hh o "reenact/trace/IntBits" "size" "I" (.int (0 : Int32)) ∧ Fld Z hh o "reenact/trace/IntBits" "base" "I" (.int (0 : Int32)) ∧ Fld Z hh o "reenact/trace/IntBits" "head" "I" (.int (0 : Int32))) 0 #[.val (.ref o)] [] := s0.mono fun hh q => q.symm ▸ I
  have s2 : Sit p l e _ s m _ below meth c _ st n0 0 0 _ 1 #[.val (.ref o)] [(.ref o)] := s1
    |>.aloadN d1_0 rfl rfl
  have s3 : Sit p l e _ s m _ below meth c _ st n0 0 0 _ 6 #[.val (.ref o)] [(.int (4 : Int32)), (.ref o)] := s2
    |>.initO (W := 0) hZ hown (wi hw 8 rfl) (wi hw 9 rfl) (wi hw 10 rfl) hml rfl d1_1 (Nat.le_of_eq rfl) (by decide) (by decide) rfl
    |>.aloadN d1_4 rfl rfl
    |>.iconst (4 : Int32) d1_5 rfl rfl
  obtain ⟨v, g_v, s4⟩ := Sit.newarr (aty := .long) (P' := fun v => fun hh => Exa Z hh o "reenact/trace/IntBits" ∧ Fld Z hh o "reenact/trace/IntBits" "words" "[J" .null ∧ Fld Z hh o "reenact/trace/IntBits" "greatest" "I" (.int (0 : Int32)) ∧ Fld Z hh o "reenact/trace/IntBits" "size" "I" (.int (0 : Int32)) ∧ Fld Z hh o "reenact/trace/IntBits" "base" "I" (.int (0 : Int32)) ∧ Fld Z hh o "reenact/trace/IntBits" "head" "I" (.int (0 : Int32)) ∧ AV Z hh v .long ([0, 0, 0, 0].map Value.long) ∧ @LT.lt Nat _ o v) 4 s3 hZ (wi hw 11 rfl) (by decide) (by decide) (by decide) (by decide) (by decide) (fun hh hh' x q e X A => ⟨(q.1).ext X, (q.2.1).ext X, (q.2.2.1).ext X, (q.2.2.2.1).ext X, (q.2.2.2.2.1).ext X, (q.2.2.2.2.2).ext X, A, e ▸ (q.1).lt⟩) d1_6 (pc' := 8) rfl
  have s5 : Sit p l e _ s m _ below meth c _ st n0 1 4 _ 8 #[.val (.ref o)] [(.ref v), (.ref o)] := s4
  obtain ⟨_, q⟩ := s5.facts
  have l_v := q.2.2.2.2.2.2.2
  clear q
  have s6 : Sit p l e _ s m _ below meth c _ st n0 1 4 (fun hh => Exa Z hh o "reenact/trace/IntBits" ∧ Fld Z hh o "reenact/trace/IntBits" "words" "[J" .null ∧ Fld Z hh o "reenact/trace/IntBits" "greatest" "I" (.int (0 : Int32)) ∧ Fld Z hh o "reenact/trace/IntBits" "size" "I" (.int (0 : Int32)) ∧ Fld Z hh o "reenact/trace/IntBits" "base" "I" (.int (0 : Int32)) ∧ Fld Z hh o "reenact/trace/IntBits" "head" "I" (.int (0 : Int32)) ∧ AV Z hh v .long ([0, 0, 0, 0].map Value.long)) 8 #[.val (.ref o)] [(.ref v), (.ref o)] := s5.mono fun hh q => ⟨q.1, q.2.1, q.2.2.1, q.2.2.2.1, q.2.2.2.2.1, q.2.2.2.2.2.1, q.2.2.2.2.2.2.1⟩
  have s7 : Sit p l e _ s m _ below meth c _ st n0 1 4 _ 11 #[.val (.ref o)] [] := s6
    |>.putf (C := "reenact/trace/IntBits") (P' := fun hh => Exa Z hh o "reenact/trace/IntBits" ∧ Fld Z hh o "reenact/trace/IntBits" "words" "[J" (.ref v) ∧ Fld Z hh o "reenact/trace/IntBits" "greatest" "I" (.int (0 : Int32)) ∧ Fld Z hh o "reenact/trace/IntBits" "size" "I" (.int (0 : Int32)) ∧ Fld Z hh o "reenact/trace/IntBits" "base" "I" (.int (0 : Int32)) ∧ Fld Z hh o "reenact/trace/IntBits" "head" "I" (.int (0 : Int32)) ∧ AV Z hh v .long ([0, 0, 0, 0].map Value.long)) (.array .long) hZ hown (wi hw 12 rfl) (go) (fun hh q => ⟨q.2.1, q.1⟩) (Or.inl (wi hw 13 rfl)) (wi hw 3 rfl) (by decide) rfl rfl (fun hh hh' q X => ⟨(q.1).wr X, (q.2.1).same X, (q.2.2.1).other X (Or.inr (sn_greatest_words hw)), (q.2.2.2.1).other X (Or.inr (sn_size_words hw)), (q.2.2.2.2.1).other X (Or.inr (sn_base_words hw)), (q.2.2.2.2.2.1).other X (Or.inr (sn_head_words hw)), (q.2.2.2.2.2.2).other X (neN (by omega))⟩) d1_8 rfl
  have s8 : Sit p l e _ s m _ below meth c _ st n0 1 4 _ 13 #[.val (.ref o)] [(.int (-1 : Int32)), (.ref o)] := s7
    |>.aloadN d1_11 rfl rfl
    |>.iconst (-1 : Int32) d1_12 rfl rfl
  have s9 : Sit p l e _ s m _ below meth c _ st n0 1 4 _ 16 #[.val (.ref o)] [] := s8
    |>.putf (C := "reenact/trace/IntBits") (P' := fun hh => Exa Z hh o "reenact/trace/IntBits" ∧ Fld Z hh o "reenact/trace/IntBits" "words" "[J" (.ref v) ∧ Fld Z hh o "reenact/trace/IntBits" "greatest" "I" (.int (-1 : Int32)) ∧ Fld Z hh o "reenact/trace/IntBits" "size" "I" (.int (0 : Int32)) ∧ Fld Z hh o "reenact/trace/IntBits" "base" "I" (.int (0 : Int32)) ∧ Fld Z hh o "reenact/trace/IntBits" "head" "I" (.int (0 : Int32)) ∧ AV Z hh v .long ([0, 0, 0, 0].map Value.long)) .int hZ hown (wi hw 14 rfl) (go) (fun hh q => ⟨q.2.2.1, q.1⟩) (Or.inl (wi hw 15 rfl)) (wi hw 3 rfl) (by decide) rfl rfl (fun hh hh' q X => ⟨(q.1).wr X, (q.2.1).other X (Or.inr (sn_words_greatest hw)), (q.2.2.1).same X, (q.2.2.2.1).other X (Or.inr (sn_size_greatest hw)), (q.2.2.2.2.1).other X (Or.inr (sn_base_greatest hw)), (q.2.2.2.2.2.1).other X (Or.inr (sn_head_greatest hw)), (q.2.2.2.2.2.2).other X (neN (by omega))⟩) d1_13 rfl
  exact s9.retV d1_16 hret hlk (fun hh q => ⟨rfl, v, ⟨g_v, by omega⟩, q⟩)
theorem pn_rmC : plainName "reenact/trace/IntBits" = true := by first | (simp [plainName, overriddenIn]; done) | decide +kernel
theorem d4_0 : decode prog_149_method_3_code 0 = .ok (.aload_n 0, 1) := by decide +kernel
theorem d4_1 : decode prog_149_method_3_code 1 = .ok (.getfield 26, 3) := by decide +kernel
theorem d4_4 : decode prog_149_method_3_code 4 = .ok (.ifCond .eq 19, 3) := by decide +kernel
theorem d4_7 : decode prog_149_method_3_code 7 = .ok (.iload_n 1, 1) := by decide +kernel
theorem d4_8 : decode prog_149_method_3_code 8 = .ok (.aload_n 0, 1) := by decide +kernel
theorem d4_9 : decode prog_149_method_3_code 9 = .ok (.getfield 31, 3) := by decide +kernel
theorem d4_12 : decode prog_149_method_3_code 12 = .ok (.if_icmp .lt 11, 3) := by decide +kernel
theorem d4_15 : decode prog_149_method_3_code 15 = .ok (.iload_n 1, 1) := by decide +kernel
theorem d4_16 : decode prog_149_method_3_code 16 = .ok (.aload_n 0, 1) := by decide +kernel
theorem d4_17 : decode prog_149_method_3_code 17 = .ok (.getfield 13, 3) := by decide +kernel
theorem d4_20 : decode prog_149_method_3_code 20 = .ok (.if_icmp .le 8, 3) := by decide +kernel
theorem d4_23 : decode prog_149_method_3_code 23 = .ok (.iconst 0, 1) := by decide +kernel
theorem d4_24 : decode prog_149_method_3_code 24 = .ok (.istore_n 2, 1) := by decide +kernel
theorem d4_25 : decode prog_149_method_3_code 25 = .ok (.goto 32, 3) := by decide +kernel
theorem d4_28 : decode prog_149_method_3_code 28 = .ok (.aload_n 0, 1) := by decide +kernel
theorem d4_29 : decode prog_149_method_3_code 29 = .ok (.getfield 9, 3) := by decide +kernel
theorem d4_32 : decode prog_149_method_3_code 32 = .ok (.iload_n 1, 1) := by decide +kernel
theorem d4_33 : decode prog_149_method_3_code 33 = .ok (.aload_n 0, 1) := by decide +kernel
theorem d4_34 : decode prog_149_method_3_code 34 = .ok (.getfield 31, 3) := by decide +kernel
theorem d4_37 : decode prog_149_method_3_code 37 = .ok (.isub, 1) := by decide +kernel
theorem d4_38 : decode prog_149_method_3_code 38 = .ok (.bipush 64, 2) := by decide +kernel
theorem d4_40 : decode prog_149_method_3_code 40 = .ok (.idiv, 1) := by decide +kernel
theorem d4_41 : decode prog_149_method_3_code 41 = .ok (.laload, 1) := by decide +kernel
theorem d4_42 : decode prog_149_method_3_code 42 = .ok (.lconst 1, 1) := by decide +kernel
theorem d4_43 : decode prog_149_method_3_code 43 = .ok (.iload_n 1, 1) := by decide +kernel
theorem d4_44 : decode prog_149_method_3_code 44 = .ok (.lshl, 1) := by decide +kernel
theorem d4_45 : decode prog_149_method_3_code 45 = .ok (.land, 1) := by decide +kernel
theorem d4_46 : decode prog_149_method_3_code 46 = .ok (.lconst 0, 1) := by decide +kernel
theorem d4_47 : decode prog_149_method_3_code 47 = .ok (.lcmp, 1) := by decide +kernel
theorem d4_48 : decode prog_149_method_3_code 48 = .ok (.ifCond .eq 7, 3) := by decide +kernel
theorem d4_51 : decode prog_149_method_3_code 51 = .ok (.iconst 1, 1) := by decide +kernel
theorem d4_52 : decode prog_149_method_3_code 52 = .ok (.goto 4, 3) := by decide +kernel
theorem d4_55 : decode prog_149_method_3_code 55 = .ok (.iconst 0, 1) := by decide +kernel
theorem d4_56 : decode prog_149_method_3_code 56 = .ok (.istore_n 2, 1) := by decide +kernel
theorem d4_57 : decode prog_149_method_3_code 57 = .ok (.iload_n 2, 1) := by decide +kernel
theorem d4_58 : decode prog_149_method_3_code 58 = .ok (.ireturn, 1) := by decide +kernel
theorem ef_rmC (m : MethodId) (o : Addr) (q : Int32) : entryFrame m #[(.ref o), (.int q)] 3 = mkF m 0 #[.val (.ref o), .val (.int q), .unset] [] := by first | (simp [entryFrame, mkF, argsToLocals, Value.category]; done) | rfl
set_option maxRecDepth 65536 in
set_option maxHeartbeats 40000000 in
theorem rmC (l : Launch) (Z : State) (a0 : Array Value) (hw : ∀ d ∈ tables_1, d.before a0 Z = true) (wcs : List Jvm.Cond) (o : Addr) (q : Int32) (v : Addr) (bI hI gI zI : Int32) (ws : List Int64) (S : List Int) (h0 : Heap) (n0 : Nat) (Z0 : n0 ≤ h0.size) (V : Inv S bI.toInt hI.toInt gI.toInt ws) (hz : zI.toInt = (S.length : Int)) (I : Exa Z h0 o "reenact/trace/IntBits" ∧ Fld Z h0 o "reenact/trace/IntBits" "words" "[J" (.ref v) ∧ Fld Z h0 o "reenact/trace/IntBits" "greatest" "I" (.int gI) ∧ Fld Z h0 o "reenact/trace/IntBits" "size" "I" (.int zI) ∧ Fld Z h0 o "reenact/trace/IntBits" "base" "I" (.int bI) ∧ Fld Z h0 o "reenact/trace/IntBits" "head" "I" (.int hI) ∧ AV Z h0 v .long (ws.map Value.long)) : Met1 l (⟨"reenact/trace/IntBits", "contains", "(I)Z"⟩ : MethodName) prog_149_method_3_code 3 (some .boolean) wcs ({ frames := 0, cells := 0, slots := 0, locals := 0 } : Room) Z #[(.ref o), (.int q)] h0 n0 (fun r hh => r = some (.int (if q.toInt ∈ S then 1 else 0)) ∧ hh = h0) := by
  refine Met1.of (L0 := #[.val (.ref o), .val (.int q), .unset]) (plainFor_of_name pn_rmC) (fun m => ef_rmC m o q) Z0 ?_
  intro p e s m below meth c st s0 hZ hown hret hlk hnm hml
  have V' := V
  obtain ⟨hd, b0, b1, h0', hh', hn4, he, hr, hg, hm, hb'⟩ := V'
  have s1 : Sit p l e _ s m _ below meth c _ st n0 0 0 _ 1 #[.val (.ref o), .val (.int q), .unset] [(.ref o)] := s0
    |>.aloadN d4_0 rfl rfl
  have s2 : Sit p l e _ s m _ below meth c _ st n0 0 0 _ 4 #[.val (.ref o), .val (.int q), .unset] [(.int zI)] := s1
    |>.getf (.int zI) hZ hown (wi hw 21 rfl) (fun hh p => p ▸ I.2.2.2.1) d4_1 rfl
  by_cases c0 : zI = 0
  · have nS : ¬ q.toInt ∈ S := fun h => by
      have : S.length = 0 := by rw [c0] at hz; have e : (0 : Int32).toInt = 0 := rfl; omega
      rw [List.length_eq_zero_iff.mp this] at h; simp at h
    have s3 : Sit p l e _ s m _ below meth c _ st n0 0 0 _ 58 #[.val (.ref o), .val (.int q), .val (.int (0 : Int32))] [(.int (0 : Int32))] := s2
      |>.ifY d4_4 (eqT c0) (by decide) (by decide)
      |>.iconst (0 : Int32) d4_23 rfl rfl
      |>.istoreN #[.val (.ref o), .val (.int q), .val (.int (0 : Int32))] d4_24 rfl rfl
      |>.goto d4_25 (by decide) (by decide)
      |>.iloadN d4_57 rfl rfl
    exact s3.retZ d4_58 hret hlk (fun hh p => ⟨by rw [if_neg nS]; rfl, p⟩)
  · have hS : S ≠ [] := fun h => c0 (Int32.toInt_inj.mp (by rw [hz, h]; rfl))
    have s4 : Sit p l e _ s m _ below meth c _ st n0 0 0 _ 9 #[.val (.ref o), .val (.int q), .unset] [(.ref o), (.int q)] := s2
      |>.ifN d4_4 (eqF c0) rfl
      |>.iloadN d4_7 rfl rfl
      |>.aloadN d4_8 rfl rfl
    have s5 : Sit p l e _ s m _ below meth c _ st n0 0 0 _ 12 #[.val (.ref o), .val (.int q), .unset] [(.int bI), (.int q)] := s4
      |>.getf (.int bI) hZ hown (wi hw 23 rfl) (fun hh p => p ▸ I.2.2.2.2.1) d4_9 rfl
    by_cases c1 : q.toInt < bI.toInt
    · have nS : ¬ q.toInt ∈ S := fun h => by have := hr _ h; omega
      have s6 : Sit p l e _ s m _ below meth c _ st n0 0 0 _ 58 #[.val (.ref o), .val (.int q), .val (.int (0 : Int32))] [(.int (0 : Int32))] := s5
        |>.icmpY d4_12 (cmpT (cd := .lt) c1) (by decide) (by decide)
        |>.iconst (0 : Int32) d4_23 rfl rfl
        |>.istoreN #[.val (.ref o), .val (.int q), .val (.int (0 : Int32))] d4_24 rfl rfl
        |>.goto d4_25 (by decide) (by decide)
        |>.iloadN d4_57 rfl rfl
      exact s6.retZ d4_58 hret hlk (fun hh p => ⟨by rw [if_neg nS]; rfl, p⟩)
    · have s7 : Sit p l e _ s m _ below meth c _ st n0 0 0 _ 17 #[.val (.ref o), .val (.int q), .unset] [(.ref o), (.int q)] := s5
        |>.icmpN d4_12 (cmpF (cd := .lt) c1) rfl
        |>.iloadN d4_15 rfl rfl
        |>.aloadN d4_16 rfl rfl
      have s8 : Sit p l e _ s m _ below meth c _ st n0 0 0 _ 20 #[.val (.ref o), .val (.int q), .unset] [(.int gI), (.int q)] := s7
        |>.getf (.int gI) hZ hown (wi hw 14 rfl) (fun hh p => p ▸ I.2.2.1) d4_17 rfl
      by_cases c2 : q.toInt ≤ gI.toInt
      · have s10 : Sit p l e _ s m _ below meth c _ st n0 0 0 _ 29 #[.val (.ref o), .val (.int q), .unset] [(.ref o)] := s8
          |>.icmpY d4_20 (cmpT (cd := .le) c2) (by decide) (by decide)
          |>.aloadN d4_28 rfl rfl
        have s11 : Sit p l e _ s m _ below meth c _ st n0 0 0 _ 34 #[.val (.ref o), .val (.int q), .unset] [(.ref o), (.int q), (.ref v)] := s10
          |>.getf (.ref v) hZ hown (wi hw 12 rfl) (fun hh p => p ▸ I.2.1) d4_29 rfl
          |>.iloadN d4_32 rfl rfl
          |>.aloadN d4_33 rfl rfl
        have s12 : Sit p l e _ s m _ below meth c _ st n0 0 0 _ 40 #[.val (.ref o), .val (.int q), .unset] [(.int (64 : Int32)), (.int (q - bI)), (.ref v)] := s11
          |>.getf (.int bI) hZ hown (wi hw 23 rfl) (fun hh p => p ▸ I.2.2.2.2.1) d4_34 rfl
          |>.isub d4_37 rfl
          |>.bipush (64 : Int32) d4_38 rfl rfl
        have s13 : Sit p l e _ s m _ below meth c _ st n0 0 0 _ 41 #[.val (.ref o), .val (.int q), .unset] [(.int ((q - bI) / (64 : Int32))), (.ref v)] := s12
          |>.idiv d4_40 (by decide) rfl
        have hx := V.bitx hS (x := q.toInt) (by omega) (by omega)
        have ek := idx_ti (x := q) (b := bI) b0 (by omega)
        obtain ⟨kk, ekk⟩ : ∃ kk : Nat, (q.toInt - bI.toInt) / 64 = (kk : Int) := ⟨((q.toInt - bI.toInt) / 64).toNat, by omega⟩
        rw [ekk] at ek
        have kl : kk < ws.length := by omega
        have hl := low6 q (by omega)
        have s14 : Sit p l e _ s m _ below meth c _ st n0 0 0 _ 48 #[.val (.ref o), .val (.int q), .unset] [(.int (lcmp3 ((ws.getD kk 0) &&& (shl64 (1 : Int64) q)) (0 : Int64)))] := s13
          |>.laload (v := (ws.getD kk 0)) hZ (by omega) (fun hh p => ⟨_, p ▸ I.2.2.2.2.2.2, by rw [clamp_of ek]; exact look_map kl⟩) d4_41 rfl
          |>.lconst (1 : Int64) d4_42 rfl rfl
          |>.iloadN d4_43 rfl rfl
          |>.lshl d4_44 rfl
          |>.land d4_45 rfl
          |>.lconst (0 : Int64) d4_46 rfl rfl
          |>.lcmp d4_47 rfl
        have hbit : bitAt ws (q.toInt - bI.toInt).toNat = bit (ws.getD kk 0) (q.toInt % 64).toNat := by
          unfold bitAt
          have e1 : (q.toInt - bI.toInt).toNat / 64 = kk := by omega
          have e2 : (q.toInt - bI.toInt).toNat % 64 = (q.toInt % 64).toNat := by omega
          rw [e1, e2]
        by_cases c3 : ((ws.getD kk 0) &&& (shl64 (1 : Int64) q)) = (0 : Int64)
        · have nS : ¬ q.toInt ∈ S := fun h => by
            have := hx.2.mpr h
            rw [hbit, (and_one_zero hl).mp c3] at this
            exact absurd this (by decide)
          have s15 : Sit p l e _ s m _ below meth c _ st n0 0 0 _ 58 #[.val (.ref o), .val (.int q), .val (.int (0 : Int32))] [(.int (0 : Int32))] := s14
            |>.ifY d4_48 (lcT (cd := .eq) c3) (by decide) (by decide)
            |>.iconst (0 : Int32) d4_55 rfl rfl
            |>.istoreN #[.val (.ref o), .val (.int q), .val (.int (0 : Int32))] d4_56 rfl rfl
            |>.iloadN d4_57 rfl rfl
          exact s15.retZ d4_58 hret hlk (fun hh p => ⟨by rw [if_neg nS]; rfl, p⟩)
        · have yS : q.toInt ∈ S := hx.2.mp (by
            rw [hbit]
            cases hq : bit (ws.getD kk 0) (q.toInt % 64).toNat with
            | true => rfl
            | false => exact absurd ((and_one_zero hl).mpr hq) c3)
          have s16 : Sit p l e _ s m _ below meth c _ st n0 0 0 _ 58 #[.val (.ref o), .val (.int q), .val (.int (1 : Int32))] [(.int (1 : Int32))] := s14
            |>.ifN d4_48 (lcF (cd := .eq) c3) rfl
            |>.iconst (1 : Int32) d4_51 rfl rfl
            |>.goto d4_52 (by decide) (by decide)
            |>.istoreN #[.val (.ref o), .val (.int q), .val (.int (1 : Int32))] d4_56 rfl rfl
            |>.iloadN d4_57 rfl rfl
          exact s16.retZ d4_58 hret hlk (fun hh p => ⟨by rw [if_pos yS]; rfl, p⟩)
      · have nS : ¬ q.toInt ∈ S := fun h => by have := hr _ h; omega
        have s9 : Sit p l e _ s m _ below meth c _ st n0 0 0 _ 58 #[.val (.ref o), .val (.int q), .val (.int (0 : Int32))] [(.int (0 : Int32))] := s8
          |>.icmpN d4_20 (cmpF (cd := .le) c2) rfl
          |>.iconst (0 : Int32) d4_23 rfl rfl
          |>.istoreN #[.val (.ref o), .val (.int q), .val (.int (0 : Int32))] d4_24 rfl rfl
          |>.goto d4_25 (by decide) (by decide)
          |>.iloadN d4_57 rfl rfl
        exact s9.retZ d4_58 hret hlk (fun hh p => ⟨by rw [if_neg nS]; rfl, p⟩)
theorem pn_rmM : plainName "reenact/trace/IntBits" = true := by first | (simp [plainName, overriddenIn]; done) | decide +kernel
theorem d9_0 : decode prog_149_method_5_code 0 = .ok (.aload_n 0, 1) := by decide +kernel
theorem d9_1 : decode prog_149_method_5_code 1 = .ok (.getfield 26, 3) := by decide +kernel
theorem d9_4 : decode prog_149_method_5_code 4 = .ok (.ifCond .ne 7, 3) := by decide +kernel
theorem d9_7 : decode prog_149_method_5_code 7 = .ok (.iconst 0, 1) := by decide +kernel
theorem d9_8 : decode prog_149_method_5_code 8 = .ok (.goto 22, 3) := by decide +kernel
theorem d9_11 : decode prog_149_method_5_code 11 = .ok (.aload_n 0, 1) := by decide +kernel
theorem d9_12 : decode prog_149_method_5_code 12 = .ok (.getfield 13, 3) := by decide +kernel
theorem d9_15 : decode prog_149_method_5_code 15 = .ok (.aload_n 0, 1) := by decide +kernel
theorem d9_16 : decode prog_149_method_5_code 16 = .ok (.getfield 31, 3) := by decide +kernel
theorem d9_19 : decode prog_149_method_5_code 19 = .ok (.isub, 1) := by decide +kernel
theorem d9_20 : decode prog_149_method_5_code 20 = .ok (.bipush 64, 2) := by decide +kernel
theorem d9_22 : decode prog_149_method_5_code 22 = .ok (.idiv, 1) := by decide +kernel
theorem d9_23 : decode prog_149_method_5_code 23 = .ok (.aload_n 0, 1) := by decide +kernel
theorem d9_24 : decode prog_149_method_5_code 24 = .ok (.getfield 34, 3) := by decide +kernel
theorem d9_27 : decode prog_149_method_5_code 27 = .ok (.isub, 1) := by decide +kernel
theorem d9_28 : decode prog_149_method_5_code 28 = .ok (.iconst 1, 1) := by decide +kernel
theorem d9_29 : decode prog_149_method_5_code 29 = .ok (.iadd, 1) := by decide +kernel
theorem d9_30 : decode prog_149_method_5_code 30 = .ok (.istore_n 2, 1) := by decide +kernel
theorem d9_31 : decode prog_149_method_5_code 31 = .ok (.iload_n 1, 1) := by decide +kernel
theorem d9_32 : decode prog_149_method_5_code 32 = .ok (.newarray .long, 2) := by decide +kernel
theorem d9_34 : decode prog_149_method_5_code 34 = .ok (.astore_n 3, 1) := by decide +kernel
theorem d9_35 : decode prog_149_method_5_code 35 = .ok (.aload_n 0, 1) := by decide +kernel
theorem d9_36 : decode prog_149_method_5_code 36 = .ok (.getfield 9, 3) := by decide +kernel
theorem d9_39 : decode prog_149_method_5_code 39 = .ok (.aload_n 0, 1) := by decide +kernel
theorem d9_40 : decode prog_149_method_5_code 40 = .ok (.getfield 34, 3) := by decide +kernel
theorem d9_43 : decode prog_149_method_5_code 43 = .ok (.aload_n 3, 1) := by decide +kernel
theorem d9_44 : decode prog_149_method_5_code 44 = .ok (.iconst 0, 1) := by decide +kernel
theorem d9_45 : decode prog_149_method_5_code 45 = .ok (.iload_n 2, 1) := by decide +kernel
theorem d9_46 : decode prog_149_method_5_code 46 = .ok (.invokestatic 59, 3) := by decide +kernel
theorem d9_49 : decode prog_149_method_5_code 49 = .ok (.aload_n 0, 1) := by decide +kernel
theorem d9_50 : decode prog_149_method_5_code 50 = .ok (.aload_n 3, 1) := by decide +kernel
theorem d9_51 : decode prog_149_method_5_code 51 = .ok (.putfield 9, 3) := by decide +kernel
theorem d9_54 : decode prog_149_method_5_code 54 = .ok (.aload_n 0, 1) := by decide +kernel
theorem d9_55 : decode prog_149_method_5_code 55 = .ok (.dup, 1) := by decide +kernel
theorem d9_56 : decode prog_149_method_5_code 56 = .ok (.getfield 31, 3) := by decide +kernel
theorem d9_59 : decode prog_149_method_5_code 59 = .ok (.aload_n 0, 1) := by decide +kernel
theorem d9_60 : decode prog_149_method_5_code 60 = .ok (.getfield 34, 3) := by decide +kernel
theorem d9_63 : decode prog_149_method_5_code 63 = .ok (.bipush 64, 2) := by decide +kernel
theorem d9_65 : decode prog_149_method_5_code 65 = .ok (.imul, 1) := by decide +kernel
theorem d9_66 : decode prog_149_method_5_code 66 = .ok (.iadd, 1) := by decide +kernel
theorem d9_67 : decode prog_149_method_5_code 67 = .ok (.putfield 31, 3) := by decide +kernel
theorem d9_70 : decode prog_149_method_5_code 70 = .ok (.aload_n 0, 1) := by decide +kernel
theorem d9_71 : decode prog_149_method_5_code 71 = .ok (.iconst 0, 1) := by decide +kernel
theorem d9_72 : decode prog_149_method_5_code 72 = .ok (.putfield 34, 3) := by decide +kernel
theorem d9_75 : decode prog_149_method_5_code 75 = .ok (.return_, 1) := by decide +kernel
theorem ef_rmM (m : MethodId) (o : Addr) (q : Int32) : entryFrame m #[(.ref o), (.int q)] 4 = mkF m 0 #[.val (.ref o), .val (.int q), .unset, .unset] [] := by first | (simp [entryFrame, mkF, argsToLocals, Value.category]; done) | rfl
set_option maxRecDepth 65536 in
set_option maxHeartbeats 40000000 in
theorem rmM (l : Launch) (Z : State) (a0 : Array Value) (hw : ∀ d ∈ tables_1, d.before a0 Z = true) (wcs : List Jvm.Cond) (o : Addr) (q : Int32) (v : Addr) (bI hI gI zI : Int32) (ws : List Int64) (ln sp cap : Nat) (h0 : Heap) (n0 : Nat) (Z0 : n0 ≤ h0.size) (go : n0 ≤ o) (ne : @Ne Nat o v) (zn : ¬ zI = 0) (b0 : 0 ≤ bI.toInt) (h0' : 0 ≤ hI.toInt) (hl : ws.length ≤ 1024) (eq : q.toInt = (ln : Int)) (es : (sp : Int) = (gI.toInt - bI.toInt) / 64 - hI.toInt + 1) (hgb : bI.toInt + 64 * hI.toInt ≤ gI.toInt) (hgl : (gI.toInt - bI.toInt) / 64 < (ws.length : Int)) (hsl : sp ≤ ln) (hlc : ln ≤ cap) (hcap : cap ≤ 1024) (I : Exa Z h0 o "reenact/trace/IntBits" ∧ Fld Z h0 o "reenact/trace/IntBits" "words" "[J" (.ref v) ∧ Fld Z h0 o "reenact/trace/IntBits" "greatest" "I" (.int gI) ∧ Fld Z h0 o "reenact/trace/IntBits" "size" "I" (.int zI) ∧ Fld Z h0 o "reenact/trace/IntBits" "base" "I" (.int bI) ∧ Fld Z h0 o "reenact/trace/IntBits" "head" "I" (.int hI) ∧ AV Z h0 v .long (ws.map Value.long)) : Met1 l (⟨"reenact/trace/IntBits", "moveDown", "(I)V"⟩ : MethodName) prog_149_method_5_code 4 none wcs ({ frames := 1, cells := 1, slots := cap, locals := 60 } : Room) Z #[(.ref o), (.int q)] h0 n0 (fun r hh => r = none ∧ ∃ v' : Addr, ∃ b' : Int32, (n0 ≤ v' ∧ @Ne Nat o v' ∧ b'.toInt = bI.toInt + 64 * hI.toInt) ∧ Exa Z hh o "reenact/trace/IntBits" ∧ Fld Z hh o "reenact/trace/IntBits" "words" "[J" (.ref v') ∧ Fld Z hh o "reenact/trace/IntBits" "greatest" "I" (.int gI) ∧ Fld Z hh o "reenact/trace/IntBits" "size" "I" (.int zI) ∧ Fld Z hh o "reenact/trace/IntBits" "base" "I" (.int b') ∧ Fld Z hh o "reenact/trace/IntBits" "head" "I" (.int (0 : Int32)) ∧ AV Z hh v' .long (((ws.drop hI.toInt.toNat).take sp ++ List.replicate (ln - sp) 0).map Value.long)) := by
  refine Met1.of (L0 := #[.val (.ref o), .val (.int q), .unset, .unset]) (plainFor_of_name pn_rmM) (fun m => ef_rmM m o q) Z0 ?_
  intro p e s m below meth c st s0 hZ hown hret hlk hnm hml
  have s1 : Sit p l e _ s m _ below meth c _ st n0 0 0 (fun hh => Exa Z hh o "reenact/trace/IntBits" ∧ Fld Z hh o "reenact/trace/IntBits" "words" "[J" (.ref v) ∧ Fld Z hh o "reenact/trace/IntBits" "greatest" "I" (.int gI) ∧ Fld Z hh o "reenact/trace/IntBits" "size" "I" (.int zI) ∧ Fld Z hh o "reenact/trace/IntBits" "base" "I" (.int bI) ∧ Fld Z hh o "reenact/trace/IntBits" "head" "I" (.int hI) ∧ AV Z hh v .long (ws.map Value.long)) 0 #[.val (.ref o), .val (.int q), .unset, .unset] [] := s0.mono fun hh q => q.symm ▸ I
  have s2 : Sit p l e _ s m _ below meth c _ st n0 0 0 _ 1 #[.val (.ref o), .val (.int q), .unset, .unset] [(.ref o)] := s1
    |>.aloadN d9_0 rfl rfl
  have s3 : Sit p l e _ s m _ below meth c _ st n0 0 0 _ 4 #[.val (.ref o), .val (.int q), .unset, .unset] [(.int zI)] := s2
    |>.getf (.int zI) hZ hown (wi hw 21 rfl) (fun hh q => q.2.2.2.1) d9_1 rfl
  have s4 : Sit p l e _ s m _ below meth c _ st n0 0 0 _ 12 #[.val (.ref o), .val (.int q), .unset, .unset] [(.ref o)] := s3
    |>.ifY d9_4 (neT (show ¬ zI = 0 from zn)) (by decide) (by decide)
    |>.aloadN d9_11 rfl rfl
  have s5 : Sit p l e _ s m _ below meth c _ st n0 0 0 _ 16 #[.val (.ref o), .val (.int q), .unset, .unset] [(.ref o), (.int gI)] := s4
    |>.getf (.int gI) hZ hown (wi hw 14 rfl) (fun hh q => q.2.2.1) d9_12 rfl
    |>.aloadN d9_15 rfl rfl
  have s6 : Sit p l e _ s m _ below meth c _ st n0 0 0 _ 22 #[.val (.ref o), .val (.int q), .unset, .unset] [(.int (64 : Int32)), (.int (gI - bI))] := s5
    |>.getf (.int bI) hZ hown (wi hw 23 rfl) (fun hh q => q.2.2.2.2.1) d9_16 rfl
    |>.isub d9_19 rfl
    |>.bipush (64 : Int32) d9_20 rfl rfl
  have s7 : Sit p l e _ s m _ below meth c _ st n0 0 0 _ 24 #[.val (.ref o), .val (.int q), .unset, .unset] [(.ref o), (.int ((gI - bI) / (64 : Int32)))] := s6
    |>.idiv d9_22 (by decide) rfl
    |>.aloadN d9_23 rfl rfl
  have s8 : Sit p l e _ s m _ below meth c _ st n0 0 0 _ 30 #[.val (.ref o), .val (.int q), .unset, .unset] [(.int ((((gI - bI) / (64 : Int32)) - hI) + (1 : Int32)))] := s7
    |>.getf (.int hI) hZ hown (wi hw 25 rfl) (fun hh q => q.2.2.2.2.2.1) d9_24 rfl
    |>.isub d9_27 rfl
    |>.iconst (1 : Int32) d9_28 rfl rfl
    |>.iadd d9_29 rfl
  obtain ⟨spI, e_spI, s9⟩ : ∃ spI : Int32, spI = ((((gI - bI) / (64 : Int32)) - hI) + (1 : Int32)) ∧ Sit p l e _ s m _ below meth c _ st n0 0 0 _ 30 #[.val (.ref o), .val (.int q), .unset, .unset] [(.int spI)] := ⟨_, rfl, s8⟩
  have rg := rng32 gI
  have i1 := idx_ti (x := gI) (b := bI) b0 (by omega)
  have esp : spI.toInt = (sp : Int) := by
    rw [e_spI]
    have a1 := sub_ti (x := (gI - bI) / (64 : Int32)) (y := hI) (by omega) h0'
    have a2 : (1 : Int32).toInt = 1 := rfl
    have a3 := add_ti (x := (gI - bI) / (64 : Int32) - hI) (y := (1 : Int32)) (by omega) (by omega)
    omega
  have s10 : Sit p l e _ s m _ below meth c _ st n0 0 0 _ 32 #[.val (.ref o), .val (.int q), .val (.int spI), .unset] [(.int q)] := s9
    |>.istoreN #[.val (.ref o), .val (.int q), .val (.int spI), .unset] d9_30 rfl rfl
    |>.iloadN d9_31 rfl rfl
  obtain ⟨u, g_u, s11⟩ := Sit.newarr (aty := .long) (P' := fun u => fun hh => Exa Z hh o "reenact/trace/IntBits" ∧ Fld Z hh o "reenact/trace/IntBits" "words" "[J" (.ref v) ∧ Fld Z hh o "reenact/trace/IntBits" "greatest" "I" (.int gI) ∧ Fld Z hh o "reenact/trace/IntBits" "size" "I" (.int zI) ∧ Fld Z hh o "reenact/trace/IntBits" "base" "I" (.int bI) ∧ Fld Z hh o "reenact/trace/IntBits" "head" "I" (.int hI) ∧ AV Z hh v .long (ws.map Value.long) ∧ AV Z hh u .long (List.replicate ln (Value.long 0)) ∧ @Ne Nat o u ∧ @Ne Nat v u) cap s10 hZ (wi hw 11 rfl) (by omega) (by rw [clamp_of eq]; exact hlc) (by omega) (by first | decide | exact Nat.le_of_ble_eq_true rfl | (show _ ≤ 60; decide)) (Nat.le_of_eq (Nat.zero_add cap)) (fun hh hh' x q e X A => ⟨(q.1).ext X, (q.2.1).ext X, (q.2.2.1).ext X, (q.2.2.2.1).ext X, (q.2.2.2.2.1).ext X, (q.2.2.2.2.2.1).ext X, (q.2.2.2.2.2.2).ext X, (by rw [clamp_of eq] at A; exact A), e ▸ Nat.ne_of_lt (q.1).lt, e ▸ Nat.ne_of_lt (q.2.2.2.2.2.2).lt⟩) d9_32 (pc' := 34) rfl
  obtain ⟨_, q⟩ := s11.facts
  have l_o := q.2.2.2.2.2.2.2.2.1
  have l_v := q.2.2.2.2.2.2.2.2.2
  clear q
  have s12 : Sit p l e _ s m _ below meth c _ st n0 1 cap (fun hh => Exa Z hh o "reenact/trace/IntBits" ∧ Fld Z hh o "reenact/trace/IntBits" "words" "[J" (.ref v) ∧ Fld Z hh o "reenact/trace/IntBits" "greatest" "I" (.int gI) ∧ Fld Z hh o "reenact/trace/IntBits" "size" "I" (.int zI) ∧ Fld Z hh o "reenact/trace/IntBits" "base" "I" (.int bI) ∧ Fld Z hh o "reenact/trace/IntBits" "head" "I" (.int hI) ∧ AV Z hh v .long (ws.map Value.long) ∧ AV Z hh u .long (List.replicate ln (Value.long 0))) 34 #[.val (.ref o), .val (.int q), .val (.int spI), .unset] [(.ref u)] := (s11.bound (Nat.le_refl _) (Nat.le_of_eq (Nat.zero_add cap))).mono fun hh q => ⟨q.1, q.2.1, q.2.2.1, q.2.2.2.1, q.2.2.2.2.1, q.2.2.2.2.2.1, q.2.2.2.2.2.2.1, q.2.2.2.2.2.2.2.1⟩
  have s13 : Sit p l e _ s m _ below meth c _ st n0 1 cap _ 36 #[.val (.ref o), .val (.int q), .val (.int spI), .val (.ref u)] [(.ref o)] := s12
    |>.astoreN #[.val (.ref o), .val (.int q), .val (.int spI), .val (.ref u)] d9_34 rfl rfl
    |>.aloadN d9_35 rfl rfl
  have s14 : Sit p l e _ s m _ below meth c _ st n0 1 cap _ 40 #[.val (.ref o), .val (.int q), .val (.int spI), .val (.ref u)] [(.ref o), (.ref v)] := s13
    |>.getf (.ref v) hZ hown (wi hw 12 rfl) (fun hh q => q.2.1) d9_36 rfl
    |>.aloadN d9_39 rfl rfl
  have s15 : Sit p l e _ s m _ below meth c _ st n0 1 cap _ 46 #[.val (.ref o), .val (.int q), .val (.int spI), .val (.ref u)] [(.int spI), (.int (0 : Int32)), (.ref u), (.int hI), (.ref v)] := s14
    |>.getf (.int hI) hZ hown (wi hw 25 rfl) (fun hh q => q.2.2.2.2.2.1) d9_40 rfl
    |>.aloadN d9_43 rfl rfl
    |>.iconst (0 : Int32) d9_44 rfl rfl
    |>.iloadN d9_45 rfl rfl
  have s16 : Sit p l e _ s m _ below meth c _ st n0 1 cap _ 49 #[.val (.ref o), .val (.int q), .val (.int spI), .val (.ref u)] [] := Sit.acopy (P' := fun hh => Exa Z hh o "reenact/trace/IntBits" ∧ Fld Z hh o "reenact/trace/IntBits" "words" "[J" (.ref v) ∧ Fld Z hh o "reenact/trace/IntBits" "greatest" "I" (.int gI) ∧ Fld Z hh o "reenact/trace/IntBits" "size" "I" (.int zI) ∧ Fld Z hh o "reenact/trace/IntBits" "base" "I" (.int bI) ∧ Fld Z hh o "reenact/trace/IntBits" "head" "I" (.int hI) ∧ AV Z hh v .long (ws.map Value.long) ∧ AV Z hh u .long (((ws.drop hI.toInt.toNat).take sp ++ List.replicate (ln - sp) 0).map Value.long)) (ty := .long) (sn := hI.toInt.toNat) (dn := 0) (nn := sp) (W := 0) (ws.map Value.long) (List.replicate ln (Value.long 0)) rfl s15 hZ hown (wi hw 56 rfl) (wi hw 59 rfl) (wi hw 57 rfl) (wi hw 58 rfl) (fun hh q => ⟨q.2.2.2.2.2.2.1, q.2.2.2.2.2.2.2⟩) (fits_longs ws) (fun u hu => by rw [List.eq_of_mem_replicate hu]; rfl) (by rw [List.length_map]; omega) (by rw [List.length_replicate]; omega) (by omega) rfl esp (by rw [List.length_map]; omega) (by rw [List.length_replicate]; omega) (g_u) (fun hh hh' q K Ap => ⟨(q.1).keep K, (q.2.1).keep K (ninS (neN (by omega)) nin0), (q.2.2.1).keep K (ninS (neN (by omega)) nin0), (q.2.2.2.1).keep K (ninS (neN (by omega)) nin0), (q.2.2.2.2.1).keep K (ninS (neN (by omega)) nin0), (q.2.2.2.2.2.1).keep K (ninS (neN (by omega)) nin0), (q.2.2.2.2.2.2.1).keep K (ninS (neN (by omega)) nin0), (by rw [mv_list] at Ap; exact Ap)⟩) hml rfl d9_46 (Nat.le_of_eq rfl) (by first | decide | exact Nat.le_of_ble_eq_true rfl | (show _ ≤ 60; decide)) (by first | decide | exact Nat.le_of_ble_eq_true rfl | (show _ ≤ 60; decide)) rfl
  have s17 : Sit p l e _ s m _ below meth c _ st n0 1 cap _ 51 #[.val (.ref o), .val (.int q), .val (.int spI), .val (.ref u)] [(.ref u), (.ref o)] := s16
    |>.aloadN d9_49 rfl rfl
    |>.aloadN d9_50 rfl rfl
  have s18 : Sit p l e _ s m _ below meth c _ st n0 1 cap _ 54 #[.val (.ref o), .val (.int q), .val (.int spI), .val (.ref u)] [] := s17
    |>.putf (C := "reenact/trace/IntBits") (P' := fun hh => Exa Z hh o "reenact/trace/IntBits" ∧ Fld Z hh o "reenact/trace/IntBits" "words" "[J" (.ref u) ∧ Fld Z hh o "reenact/trace/IntBits" "greatest" "I" (.int gI) ∧ Fld Z hh o "reenact/trace/IntBits" "size" "I" (.int zI) ∧ Fld Z hh o "reenact/trace/IntBits" "base" "I" (.int bI) ∧ Fld Z hh o "reenact/trace/IntBits" "head" "I" (.int hI) ∧ AV Z hh v .long (ws.map Value.long) ∧ AV Z hh u .long (((ws.drop hI.toInt.toNat).take sp ++ List.replicate (ln - sp) 0).map Value.long)) (.array .long) hZ hown (wi hw 12 rfl) (go) (fun hh q => ⟨q.2.1, q.1⟩) (Or.inl (wi hw 13 rfl)) (wi hw 3 rfl) (by decide) rfl rfl (fun hh hh' q X => ⟨(q.1).wr X, (q.2.1).same X, (q.2.2.1).other X (Or.inr (sn_greatest_words hw)), (q.2.2.2.1).other X (Or.inr (sn_size_words hw)), (q.2.2.2.2.1).other X (Or.inr (sn_base_words hw)), (q.2.2.2.2.2.1).other X (Or.inr (sn_head_words hw)), (q.2.2.2.2.2.2.1).other X (neN (by omega)), (q.2.2.2.2.2.2.2).other X (neN (by omega))⟩) d9_51 rfl
  have s19 : Sit p l e _ s m _ below meth c _ st n0 1 cap _ 56 #[.val (.ref o), .val (.int q), .val (.int spI), .val (.ref u)] [(.ref o), (.ref o)] := s18
    |>.aloadN d9_54 rfl rfl
    |>.dup d9_55 rfl rfl
  have s20 : Sit p l e _ s m _ below meth c _ st n0 1 cap _ 60 #[.val (.ref o), .val (.int q), .val (.int spI), .val (.ref u)] [(.ref o), (.int bI), (.ref o)] := s19
    |>.getf (.int bI) hZ hown (wi hw 23 rfl) (fun hh q => q.2.2.2.2.1) d9_56 rfl
    |>.aloadN d9_59 rfl rfl
  have s21 : Sit p l e _ s m _ below meth c _ st n0 1 cap _ 67 #[.val (.ref o), .val (.int q), .val (.int spI), .val (.ref u)] [(.int (bI + (hI * (64 : Int32)))), (.ref o)] := s20
    |>.getf (.int hI) hZ hown (wi hw 25 rfl) (fun hh q => q.2.2.2.2.2.1) d9_60 rfl
    |>.bipush (64 : Int32) d9_63 rfl rfl
    |>.imul d9_65 rfl
    |>.iadd d9_66 rfl
  obtain ⟨b2, e_b2, s22⟩ : ∃ b2 : Int32, b2 = (bI + (hI * (64 : Int32))) ∧ Sit p l e _ s m _ below meth c _ st n0 1 cap _ 67 #[.val (.ref o), .val (.int q), .val (.int spI), .val (.ref u)] [(.int b2), (.ref o)] := ⟨_, rfl, s21⟩
  have eb : b2.toInt = bI.toInt + 64 * hI.toInt := by
    rw [e_b2]
    have a1 : (64 : Int32).toInt = 64 := rfl
    have a2 := mul64 (x := hI) (by omega) (by omega)
    have a3 := add_ti (x := bI) (y := hI * (64 : Int32)) (by omega) (by omega)
    omega
  have s23 : Sit p l e _ s m _ below meth c _ st n0 1 cap _ 70 #[.val (.ref o), .val (.int q), .val (.int spI), .val (.ref u)] [] := s22
    |>.putf (C := "reenact/trace/IntBits") (P' := fun hh => Exa Z hh o "reenact/trace/IntBits" ∧ Fld Z hh o "reenact/trace/IntBits" "words" "[J" (.ref u) ∧ Fld Z hh o "reenact/trace/IntBits" "greatest" "I" (.int gI) ∧ Fld Z hh o "reenact/trace/IntBits" "size" "I" (.int zI) ∧ Fld Z hh o "reenact/trace/IntBits" "base" "I" (.int b2) ∧ Fld Z hh o "reenact/trace/IntBits" "head" "I" (.int hI) ∧ AV Z hh v .long (ws.map Value.long) ∧ AV Z hh u .long (((ws.drop hI.toInt.toNat).take sp ++ List.replicate (ln - sp) 0).map Value.long)) .int hZ hown (wi hw 23 rfl) (go) (fun hh q => ⟨q.2.2.2.2.1, q.1⟩) (Or.inl (wi hw 24 rfl)) (wi hw 3 rfl) (by decide) rfl rfl (fun hh hh' q X => ⟨(q.1).wr X, (q.2.1).other X (Or.inr (sn_words_base hw)), (q.2.2.1).other X (Or.inr (sn_greatest_base hw)), (q.2.2.2.1).other X (Or.inr (sn_size_base hw)), (q.2.2.2.2.1).same X, (q.2.2.2.2.2.1).other X (Or.inr (sn_head_base hw)), (q.2.2.2.2.2.2.1).other X (neN (by omega)), (q.2.2.2.2.2.2.2).other X (neN (by omega))⟩) d9_67 rfl
  have s24 : Sit p l e _ s m _ below meth c _ st n0 1 cap _ 72 #[.val (.ref o), .val (.int q), .val (.int spI), .val (.ref u)] [(.int (0 : Int32)), (.ref o)] := s23
    |>.aloadN d9_70 rfl rfl
    |>.iconst (0 : Int32) d9_71 rfl rfl
  have s25 : Sit p l e _ s m _ below meth c _ st n0 1 cap _ 75 #[.val (.ref o), .val (.int q), .val (.int spI), .val (.ref u)] [] := s24
    |>.putf (C := "reenact/trace/IntBits") (P' := fun hh => Exa Z hh o "reenact/trace/IntBits" ∧ Fld Z hh o "reenact/trace/IntBits" "words" "[J" (.ref u) ∧ Fld Z hh o "reenact/trace/IntBits" "greatest" "I" (.int gI) ∧ Fld Z hh o "reenact/trace/IntBits" "size" "I" (.int zI) ∧ Fld Z hh o "reenact/trace/IntBits" "base" "I" (.int b2) ∧ Fld Z hh o "reenact/trace/IntBits" "head" "I" (.int (0 : Int32)) ∧ AV Z hh v .long (ws.map Value.long) ∧ AV Z hh u .long (((ws.drop hI.toInt.toNat).take sp ++ List.replicate (ln - sp) 0).map Value.long)) .int hZ hown (wi hw 25 rfl) (go) (fun hh q => ⟨q.2.2.2.2.2.1, q.1⟩) (Or.inl (wi hw 26 rfl)) (wi hw 3 rfl) (by decide) rfl rfl (fun hh hh' q X => ⟨(q.1).wr X, (q.2.1).other X (Or.inr (sn_words_head hw)), (q.2.2.1).other X (Or.inr (sn_greatest_head hw)), (q.2.2.2.1).other X (Or.inr (sn_size_head hw)), (q.2.2.2.2.1).other X (Or.inr (sn_base_head hw)), (q.2.2.2.2.2.1).same X, (q.2.2.2.2.2.2.1).other X (neN (by omega)), (q.2.2.2.2.2.2.2).other X (neN (by omega))⟩) d9_72 rfl
  exact s25.retV d9_75 hret hlk (fun hh q => ⟨rfl, u, b2, ⟨g_u, l_o, eb⟩, q.1, q.2.1, q.2.2.1, q.2.2.2.1, q.2.2.2.2.1, q.2.2.2.2.2.1, q.2.2.2.2.2.2.2⟩)
theorem pn_rmA : plainName "reenact/trace/IntBits" = true := by first | (simp [plainName, overriddenIn]; done) | decide +kernel
theorem d3_0 : decode prog_149_method_2_code 0 = .ok (.iload_n 1, 1) := by decide +kernel
theorem d3_1 : decode prog_149_method_2_code 1 = .ok (.aload_n 0, 1) := by decide +kernel
theorem d3_2 : decode prog_149_method_2_code 2 = .ok (.getfield 13, 3) := by decide +kernel
theorem d3_5 : decode prog_149_method_2_code 5 = .ok (.if_icmp .gt 21, 3) := by decide +kernel
theorem d3_8 : decode prog_149_method_2_code 8 = .ok (.new 17, 3) := by decide +kernel
theorem d3_11 : decode prog_149_method_2_code 11 = .ok (.dup, 1) := by decide +kernel
theorem d3_12 : decode prog_149_method_2_code 12 = .ok (.iload_n 1, 1) := by decide +kernel
theorem d3_13 : decode prog_149_method_2_code 13 = .ok (.aload_n 0, 1) := by decide +kernel
theorem d3_14 : decode prog_149_method_2_code 14 = .ok (.getfield 13, 3) := by decide +kernel
theorem d3_22 : decode prog_149_method_2_code 22 = .ok (.invokespecial 23, 3) := by decide +kernel
theorem d3_25 : decode prog_149_method_2_code 25 = .ok (.athrow, 1) := by decide +kernel
theorem d3_26 : decode prog_149_method_2_code 26 = .ok (.aload_n 0, 1) := by decide +kernel
theorem d3_27 : decode prog_149_method_2_code 27 = .ok (.getfield 26, 3) := by decide +kernel
theorem d3_30 : decode prog_149_method_2_code 30 = .ok (.ifCond .ne 16, 3) := by decide +kernel
theorem d3_33 : decode prog_149_method_2_code 33 = .ok (.aload_n 0, 1) := by decide +kernel
theorem d3_34 : decode prog_149_method_2_code 34 = .ok (.iload_n 1, 1) := by decide +kernel
theorem d3_35 : decode prog_149_method_2_code 35 = .ok (.bipush (-64), 2) := by decide +kernel
theorem d3_37 : decode prog_149_method_2_code 37 = .ok (.iand, 1) := by decide +kernel
theorem d3_38 : decode prog_149_method_2_code 38 = .ok (.putfield 31, 3) := by decide +kernel
theorem d3_41 : decode prog_149_method_2_code 41 = .ok (.aload_n 0, 1) := by decide +kernel
theorem d3_42 : decode prog_149_method_2_code 42 = .ok (.iconst 0, 1) := by decide +kernel
theorem d3_43 : decode prog_149_method_2_code 43 = .ok (.putfield 34, 3) := by decide +kernel
theorem d3_46 : decode prog_149_method_2_code 46 = .ok (.iload_n 1, 1) := by decide +kernel
theorem d3_47 : decode prog_149_method_2_code 47 = .ok (.aload_n 0, 1) := by decide +kernel
theorem d3_48 : decode prog_149_method_2_code 48 = .ok (.getfield 31, 3) := by decide +kernel
theorem d3_51 : decode prog_149_method_2_code 51 = .ok (.isub, 1) := by decide +kernel
theorem d3_52 : decode prog_149_method_2_code 52 = .ok (.bipush 64, 2) := by decide +kernel
theorem d3_54 : decode prog_149_method_2_code 54 = .ok (.idiv, 1) := by decide +kernel
theorem d3_55 : decode prog_149_method_2_code 55 = .ok (.istore_n 2, 1) := by decide +kernel
theorem d3_56 : decode prog_149_method_2_code 56 = .ok (.iload_n 2, 1) := by decide +kernel
theorem d3_57 : decode prog_149_method_2_code 57 = .ok (.aload_n 0, 1) := by decide +kernel
theorem d3_58 : decode prog_149_method_2_code 58 = .ok (.getfield 9, 3) := by decide +kernel
theorem d3_61 : decode prog_149_method_2_code 61 = .ok (.arraylength, 1) := by decide +kernel
theorem d3_62 : decode prog_149_method_2_code 62 = .ok (.if_icmp .lt 28, 3) := by decide +kernel
theorem d3_65 : decode prog_149_method_2_code 65 = .ok (.aload_n 0, 1) := by decide +kernel
theorem d3_66 : decode prog_149_method_2_code 66 = .ok (.aload_n 0, 1) := by decide +kernel
theorem d3_67 : decode prog_149_method_2_code 67 = .ok (.getfield 9, 3) := by decide +kernel
theorem d3_70 : decode prog_149_method_2_code 70 = .ok (.arraylength, 1) := by decide +kernel
theorem d3_71 : decode prog_149_method_2_code 71 = .ok (.iconst 2, 1) := by decide +kernel
theorem d3_72 : decode prog_149_method_2_code 72 = .ok (.iload_n 2, 1) := by decide +kernel
theorem d3_73 : decode prog_149_method_2_code 73 = .ok (.aload_n 0, 1) := by decide +kernel
theorem d3_74 : decode prog_149_method_2_code 74 = .ok (.getfield 34, 3) := by decide +kernel
theorem d3_77 : decode prog_149_method_2_code 77 = .ok (.isub, 1) := by decide +kernel
theorem d3_78 : decode prog_149_method_2_code 78 = .ok (.iconst 1, 1) := by decide +kernel
theorem d3_79 : decode prog_149_method_2_code 79 = .ok (.iadd, 1) := by decide +kernel
theorem d3_80 : decode prog_149_method_2_code 80 = .ok (.invokestatic 37, 3) := by decide +kernel
theorem d3_83 : decode prog_149_method_2_code 83 = .ok (.imul, 1) := by decide +kernel
theorem d3_84 : decode prog_149_method_2_code 84 = .ok (.invokestatic 43, 3) := by decide +kernel
theorem d3_87 : decode prog_149_method_2_code 87 = .ok (.invokevirtual 49, 3) := by decide +kernel
theorem d3_90 : decode prog_149_method_2_code 90 = .ok (.aload_n 0, 1) := by decide +kernel
theorem d3_91 : decode prog_149_method_2_code 91 = .ok (.getfield 9, 3) := by decide +kernel
theorem d3_94 : decode prog_149_method_2_code 94 = .ok (.iload_n 1, 1) := by decide +kernel
theorem d3_95 : decode prog_149_method_2_code 95 = .ok (.aload_n 0, 1) := by decide +kernel
theorem d3_96 : decode prog_149_method_2_code 96 = .ok (.getfield 31, 3) := by decide +kernel
theorem d3_99 : decode prog_149_method_2_code 99 = .ok (.isub, 1) := by decide +kernel
theorem d3_100 : decode prog_149_method_2_code 100 = .ok (.bipush 64, 2) := by decide +kernel
theorem d3_102 : decode prog_149_method_2_code 102 = .ok (.idiv, 1) := by decide +kernel
theorem d3_103 : decode prog_149_method_2_code 103 = .ok (.dup2, 1) := by decide +kernel
theorem d3_104 : decode prog_149_method_2_code 104 = .ok (.laload, 1) := by decide +kernel
theorem d3_105 : decode prog_149_method_2_code 105 = .ok (.lconst 1, 1) := by decide +kernel
theorem d3_106 : decode prog_149_method_2_code 106 = .ok (.iload_n 1, 1) := by decide +kernel
theorem d3_107 : decode prog_149_method_2_code 107 = .ok (.lshl, 1) := by decide +kernel
theorem d3_108 : decode prog_149_method_2_code 108 = .ok (.lor, 1) := by decide +kernel
theorem d3_109 : decode prog_149_method_2_code 109 = .ok (.lastore, 1) := by decide +kernel
theorem d3_110 : decode prog_149_method_2_code 110 = .ok (.aload_n 0, 1) := by decide +kernel
theorem d3_111 : decode prog_149_method_2_code 111 = .ok (.iload_n 1, 1) := by decide +kernel
theorem d3_112 : decode prog_149_method_2_code 112 = .ok (.putfield 13, 3) := by decide +kernel
theorem d3_115 : decode prog_149_method_2_code 115 = .ok (.aload_n 0, 1) := by decide +kernel
theorem d3_116 : decode prog_149_method_2_code 116 = .ok (.dup, 1) := by decide +kernel
theorem d3_117 : decode prog_149_method_2_code 117 = .ok (.getfield 26, 3) := by decide +kernel
theorem d3_120 : decode prog_149_method_2_code 120 = .ok (.iconst 1, 1) := by decide +kernel
theorem d3_121 : decode prog_149_method_2_code 121 = .ok (.iadd, 1) := by decide +kernel
theorem d3_122 : decode prog_149_method_2_code 122 = .ok (.putfield 26, 3) := by decide +kernel
theorem d3_125 : decode prog_149_method_2_code 125 = .ok (.return_, 1) := by decide +kernel
theorem ef_rmA (m : MethodId) (o : Addr) (q : Int32) : entryFrame m #[(.ref o), (.int q)] 3 = mkF m 0 #[.val (.ref o), .val (.int q), .unset] [] := by first | (simp [entryFrame, mkF, argsToLocals, Value.category]; done) | rfl
set_option maxRecDepth 65536 in
set_option maxHeartbeats 40000000 in
theorem rmA (l : Launch) (Z : State) (a0 : Array Value) (hw : ∀ d ∈ tables_1, d.before a0 Z = true) (wcs : List Jvm.Cond) (o : Addr) (q : Int32) (v : Addr) (bI hI gI zI : Int32) (ws : List Int64) (S : List Int) (m0 : Int) (cap : Nat) (h0 : Heap) (n0 : Nat) (Z0 : n0 ≤ h0.size) (go : n0 ≤ o) (gv : n0 ≤ v) (ne : @Ne Nat o v) (V : Inv S bI.toInt hI.toInt gI.toInt ws) (hz : zI.toInt = (S.length : Int)) (hL : S.length < 1000) (hq : gI.toInt < q.toInt) (q0 : 0 ≤ q.toInt) (hm0 : ∀ y ∈ S, m0 ≤ y) (hc : 2 * ((q.toInt - m0) / 64 + 2) ≤ (cap : Int)) (hl : ws.length ≤ cap) (hcap : cap ≤ 1024) (I : Exa Z h0 o "reenact/trace/IntBits" ∧ Fld Z h0 o "reenact/trace/IntBits" "words" "[J" (.ref v) ∧ Fld Z h0 o "reenact/trace/IntBits" "greatest" "I" (.int gI) ∧ Fld Z h0 o "reenact/trace/IntBits" "size" "I" (.int zI) ∧ Fld Z h0 o "reenact/trace/IntBits" "base" "I" (.int bI) ∧ Fld Z h0 o "reenact/trace/IntBits" "head" "I" (.int hI) ∧ AV Z h0 v .long (ws.map Value.long)) : Met1 l (⟨"reenact/trace/IntBits", "add", "(I)V"⟩ : MethodName) prog_149_method_2_code 3 none wcs ({ frames := 3, cells := 1, slots := cap, locals := 110 } : Room) Z #[(.ref o), (.int q)] h0 n0 (fun r hh => r = none ∧ ∃ v' : Addr, ∃ b' : Int32, ∃ h' : Int32, ∃ z' : Int32, ∃ ws' : List Int64, (n0 ≤ v' ∧ @Ne Nat o v' ∧ z'.toInt = ((q.toInt :: S).length : Int) ∧ Inv (q.toInt :: S) b'.toInt h'.toInt q.toInt ws' ∧ ws'.length ≤ cap) ∧ Exa Z hh o "reenact/trace/IntBits" ∧ Fld Z hh o "reenact/trace/IntBits" "words" "[J" (.ref v') ∧ Fld Z hh o "reenact/trace/IntBits" "greatest" "I" (.int q) ∧ Fld Z hh o "reenact/trace/IntBits" "size" "I" (.int z') ∧ Fld Z hh o "reenact/trace/IntBits" "base" "I" (.int b') ∧ Fld Z hh o "reenact/trace/IntBits" "head" "I" (.int h') ∧ AV Z hh v' .long (ws'.map Value.long)) := by
  refine Met1.of (L0 := #[.val (.ref o), .val (.int q), .unset]) (plainFor_of_name pn_rmA) (fun m => ef_rmA m o q) Z0 ?_
  intro p e s m below meth c st s0 hZ hown hret hlk hnm hml
  have s1 : Sit p l e _ s m _ below meth c _ st n0 0 0 (fun hh => Exa Z hh o "reenact/trace/IntBits" ∧ Fld Z hh o "reenact/trace/IntBits" "words" "[J" (.ref v) ∧ Fld Z hh o "reenact/trace/IntBits" "greatest" "I" (.int gI) ∧ Fld Z hh o "reenact/trace/IntBits" "size" "I" (.int zI) ∧ Fld Z hh o "reenact/trace/IntBits" "base" "I" (.int bI) ∧ Fld Z hh o "reenact/trace/IntBits" "head" "I" (.int hI) ∧ AV Z hh v .long (ws.map Value.long)) 0 #[.val (.ref o), .val (.int q), .unset] [] := s0.mono fun hh q => q.symm ▸ I
  have V' := V
  obtain ⟨hd, b0, b1, h0', hh', hn4, he, hr, hg, hm, hb'⟩ := V'
  have r1 : (1 : Int32).toInt = 1 := rfl
  have rq := rng32 q
  have s2 : Sit p l e _ s m _ below meth c _ st n0 0 0 _ 2 #[.val (.ref o), .val (.int q), .unset] [(.ref o), (.int q)] := s1
    |>.iloadN d3_0 rfl rfl
    |>.aloadN d3_1 rfl rfl
  have s3 : Sit p l e _ s m _ below meth c _ st n0 0 0 _ 5 #[.val (.ref o), .val (.int q), .unset] [(.int gI), (.int q)] := s2
    |>.getf (.int gI) hZ hown (wi hw 14 rfl) (fun hh q => q.2.2.1) d3_2 rfl
  have s4 : Sit p l e _ s m _ below meth c _ st n0 0 0 _ 27 #[.val (.ref o), .val (.int q), .unset] [(.ref o)] := s3
    |>.icmpY d3_5 (cmpT (cd := .gt) (show q.toInt > gI.toInt from hq)) (by decide) (by decide)
    |>.aloadN d3_26 rfl rfl
  have s5 : Sit p l e _ s m _ below meth c _ st n0 0 0 _ 30 #[.val (.ref o), .val (.int q), .unset] [(.int zI)] := s4
    |>.getf (.int zI) hZ hown (wi hw 21 rfl) (fun hh q => q.2.2.2.1) d3_27 rfl
  by_cases hS : S = []
  · subst hS
    obtain ⟨e1, e2⟩ := he rfl
    have ez0 : zI = 0 := Int32.toInt_inj.mp (by rw [hz]; rfl)
    have s6 : Sit p l e _ s m _ below meth c _ st n0 0 0 _ 38 #[.val (.ref o), .val (.int q), .unset] [(.int (q &&& (-64 : Int32))), (.ref o)] := s5
      |>.ifN d3_30 ((neF (Classical.not_not.mp (show ¬ (¬ zI = 0) from fun h => h ez0)))) rfl
      |>.aloadN d3_33 rfl rfl
      |>.iloadN d3_34 rfl rfl
      |>.bipush (-64 : Int32) d3_35 rfl rfl
      |>.iand d3_37 rfl
    have s7 : Sit p l e _ s m _ below meth c _ st n0 0 0 _ 41 #[.val (.ref o), .val (.int q), .unset] [] := s6
      |>.putf (C := "reenact/trace/IntBits") (P' := fun hh => Exa Z hh o "reenact/trace/IntBits" ∧ Fld Z hh o "reenact/trace/IntBits" "words" "[J" (.ref v) ∧ Fld Z hh o "reenact/trace/IntBits" "greatest" "I" (.int gI) ∧ Fld Z hh o "reenact/trace/IntBits" "size" "I" (.int zI) ∧ Fld Z hh o "reenact/trace/IntBits" "base" "I" (.int (q &&& (-64 : Int32))) ∧ Fld Z hh o "reenact/trace/IntBits" "head" "I" (.int hI) ∧ AV Z hh v .long (ws.map Value.long)) .int hZ hown (wi hw 23 rfl) (go) (fun hh q => ⟨q.2.2.2.2.1, q.1⟩) (Or.inl (wi hw 24 rfl)) (wi hw 3 rfl) (by decide) rfl rfl (fun hh hh' q X => ⟨(q.1).wr X, (q.2.1).other X (Or.inr (sn_words_base hw)), (q.2.2.1).other X (Or.inr (sn_greatest_base hw)), (q.2.2.2.1).other X (Or.inr (sn_size_base hw)), (q.2.2.2.2.1).same X, (q.2.2.2.2.2.1).other X (Or.inr (sn_head_base hw)), (q.2.2.2.2.2.2).other X (neN (by omega))⟩) d3_38 rfl
    have s8 : Sit p l e _ s m _ below meth c _ st n0 0 0 _ 43 #[.val (.ref o), .val (.int q), .unset] [(.int (0 : Int32)), (.ref o)] := s7
      |>.aloadN d3_41 rfl rfl
      |>.iconst (0 : Int32) d3_42 rfl rfl
    have s9 : Sit p l e _ s m _ below meth c _ st n0 0 0 _ 46 #[.val (.ref o), .val (.int q), .unset] [] := s8
      |>.putf (C := "reenact/trace/IntBits") (P' := fun hh => Exa Z hh o "reenact/trace/IntBits" ∧ Fld Z hh o "reenact/trace/IntBits" "words" "[J" (.ref v) ∧ Fld Z hh o "reenact/trace/IntBits" "greatest" "I" (.int gI) ∧ Fld Z hh o "reenact/trace/IntBits" "size" "I" (.int zI) ∧ Fld Z hh o "reenact/trace/IntBits" "base" "I" (.int (q &&& (-64 : Int32))) ∧ Fld Z hh o "reenact/trace/IntBits" "head" "I" (.int (0 : Int32)) ∧ AV Z hh v .long (ws.map Value.long)) .int hZ hown (wi hw 25 rfl) (go) (fun hh q => ⟨q.2.2.2.2.2.1, q.1⟩) (Or.inl (wi hw 26 rfl)) (wi hw 3 rfl) (by decide) rfl rfl (fun hh hh' q X => ⟨(q.1).wr X, (q.2.1).other X (Or.inr (sn_words_head hw)), (q.2.2.1).other X (Or.inr (sn_greatest_head hw)), (q.2.2.2.1).other X (Or.inr (sn_size_head hw)), (q.2.2.2.2.1).other X (Or.inr (sn_base_head hw)), (q.2.2.2.2.2.1).same X, (q.2.2.2.2.2.2).other X (neN (by omega))⟩) d3_43 rfl
    have s10 : Sit p l e _ s m _ below meth c _ st n0 0 0 _ 48 #[.val (.ref o), .val (.int q), .unset] [(.ref o), (.int q)] := s9
      |>.iloadN d3_46 rfl rfl
      |>.aloadN d3_47 rfl rfl
    have s11 : Sit p l e _ s m _ below meth c _ st n0 0 0 _ 54 #[.val (.ref o), .val (.int q), .unset] [(.int (64 : Int32)), (.int (q - (q &&& (-64 : Int32))))] := s10
      |>.getf (.int (q &&& (-64 : Int32))) hZ hown (wi hw 23 rfl) (fun hh q => q.2.2.2.2.1) d3_48 rfl
      |>.isub d3_51 rfl
      |>.bipush (64 : Int32) d3_52 rfl rfl
    have s12 : Sit p l e _ s m _ below meth c _ st n0 0 0 _ 55 #[.val (.ref o), .val (.int q), .unset] [(.int ((q - (q &&& (-64 : Int32))) / (64 : Int32)))] := s11
      |>.idiv d3_54 (by decide) rfl
    obtain ⟨wI, e_wI, s13⟩ : ∃ wI : Int32, wI = ((q - (q &&& (-64 : Int32))) / (64 : Int32)) ∧ Sit p l e _ s m _ below meth c _ st n0 0 0 _ 55 #[.val (.ref o), .val (.int q), .unset] [(.int wI)] := ⟨_, rfl, s12⟩
    have em := m64 q0
    have ek := idx_ti (x := q) (b := (q &&& (-64 : Int32))) (by omega) (by omega)
    have ek : ((q - (q &&& (-64 : Int32))) / (64 : Int32)).toInt = ((0 : Nat) : Int) := by omega
    have kb : 0 < ws.length := by omega
    have s14 : Sit p l e _ s m _ below meth c _ st n0 0 0 _ 58 #[.val (.ref o), .val (.int q), .val (.int wI)] [(.ref o), (.int wI)] := s13
      |>.istoreN #[.val (.ref o), .val (.int q), .val (.int wI)] d3_55 rfl rfl
      |>.iloadN d3_56 rfl rfl
      |>.aloadN d3_57 rfl rfl
    have s15 : Sit p l e _ s m _ below meth c _ st n0 0 0 _ 62 #[.val (.ref o), .val (.int q), .val (.int wI)] [(.int (Int32.ofNat ws.length)), (.int wI)] := s14
      |>.getf (.ref v) hZ hown (wi hw 12 rfl) (fun hh q => q.2.1) d3_58 rfl
      |>.alen (n := ws.length) (Int32.ofNat ws.length) hZ (fun hh q => ⟨_, q.2.2.2.2.2.2, by rw [List.length_map]⟩) d3_61 rfl rfl
    have V0 : Inv [] bI.toInt 0 gI.toInt ws := by rw [e1] at V; exact V
    have VF := V0.first q0
    rw [← em] at VF
    have s16 : Sit p l e _ s m _ below meth c _ st n0 0 0 _ 91 #[.val (.ref o), .val (.int q), .val (.int wI)] [(.ref o)] := s15
      |>.icmpY d3_62 (cmpT (cd := .lt) (show wI.toInt < (Int32.ofNat ws.length).toInt from by rw [e_wI, ek, ofNat_ti (by omega)]; omega)) (by decide) (by decide)
      |>.aloadN d3_90 rfl rfl
    have s17 : Sit p l e _ s m _ below meth c _ st n0 0 0 _ 96 #[.val (.ref o), .val (.int q), .val (.int wI)] [(.ref o), (.int q), (.ref v)] := s16
      |>.getf (.ref v) hZ hown (wi hw 12 rfl) (fun hh q => q.2.1) d3_91 rfl
      |>.iloadN d3_94 rfl rfl
      |>.aloadN d3_95 rfl rfl
    have s18 : Sit p l e _ s m _ below meth c _ st n0 0 0 _ 102 #[.val (.ref o), .val (.int q), .val (.int wI)] [(.int (64 : Int32)), (.int (q - (q &&& (-64 : Int32)))), (.ref v)] := s17
      |>.getf (.int (q &&& (-64 : Int32))) hZ hown (wi hw 23 rfl) (fun hh q => q.2.2.2.2.1) d3_96 rfl
      |>.isub d3_99 rfl
      |>.bipush (64 : Int32) d3_100 rfl rfl
    have s19 : Sit p l e _ s m _ below meth c _ st n0 0 0 _ 104 #[.val (.ref o), .val (.int q), .val (.int wI)] [(.int ((q - (q &&& (-64 : Int32))) / (64 : Int32))), (.ref v), (.int ((q - (q &&& (-64 : Int32))) / (64 : Int32))), (.ref v)] := s18
      |>.idiv d3_102 (by decide) rfl
      |>.dup2 d3_103 rfl rfl rfl
    have s20 : Sit p l e _ s m _ below meth c _ st n0 0 0 _ 109 #[.val (.ref o), .val (.int q), .val (.int wI)] [(.long ((ws.getD 0 0) ||| (shl64 (1 : Int64) q))), (.int ((q - (q &&& (-64 : Int32))) / (64 : Int32))), (.ref v)] := s19
      |>.laload (v := (ws.getD 0 0)) hZ (by omega) (fun hh q => ⟨_, q.2.2.2.2.2.2, by rw [clamp_of ek]; exact look_map kb⟩) d3_104 rfl
      |>.lconst (1 : Int64) d3_105 rfl rfl
      |>.iloadN d3_106 rfl rfl
      |>.lshl d3_107 rfl
      |>.lor d3_108 rfl
    have s21 : Sit p l e _ s m _ below meth c _ st n0 0 0 _ 110 #[.val (.ref o), .val (.int q), .val (.int wI)] [] := s20
      |>.lastore (P' := fun hh => Exa Z hh o "reenact/trace/IntBits" ∧ Fld Z hh o "reenact/trace/IntBits" "words" "[J" (.ref v) ∧ Fld Z hh o "reenact/trace/IntBits" "greatest" "I" (.int gI) ∧ Fld Z hh o "reenact/trace/IntBits" "size" "I" (.int zI) ∧ Fld Z hh o "reenact/trace/IntBits" "base" "I" (.int (q &&& (-64 : Int32))) ∧ Fld Z hh o "reenact/trace/IntBits" "head" "I" (.int (0 : Int32)) ∧ AV Z hh v .long ((ws.set 0 (ws.getD 0 0 ||| shl64 (1 : Int64) q)).map Value.long)) hZ (gv) (by omega) (fun hh q => ⟨_, q.2.2.2.2.2.2, by rw [clamp_of ek, List.length_map]; exact kb⟩) (fun hh hh' q X => by
        rw [clamp_of ek] at X
        exact ⟨(q.1).wr X, (q.2.1).other X (Or.inl (neN (by omega))), (q.2.2.1).other X (Or.inl (neN (by omega))), (q.2.2.2.1).other X (Or.inl (neN (by omega))), (q.2.2.2.2.1).other X (Or.inl (neN (by omega))), (q.2.2.2.2.2.1).other X (Or.inl (neN (by omega))), (by have A := (q.2.2.2.2.2.2).set X; rw [set_map] at A; exact A)⟩) d3_109 rfl
    have s22 : Sit p l e _ s m _ below meth c _ st n0 0 0 _ 112 #[.val (.ref o), .val (.int q), .val (.int wI)] [(.int q), (.ref o)] := s21
      |>.aloadN d3_110 rfl rfl
      |>.iloadN d3_111 rfl rfl
    have s23 : Sit p l e _ s m _ below meth c _ st n0 0 0 _ 115 #[.val (.ref o), .val (.int q), .val (.int wI)] [] := s22
      |>.putf (C := "reenact/trace/IntBits") (P' := fun hh => Exa Z hh o "reenact/trace/IntBits" ∧ Fld Z hh o "reenact/trace/IntBits" "words" "[J" (.ref v) ∧ Fld Z hh o "reenact/trace/IntBits" "greatest" "I" (.int q) ∧ Fld Z hh o "reenact/trace/IntBits" "size" "I" (.int zI) ∧ Fld Z hh o "reenact/trace/IntBits" "base" "I" (.int (q &&& (-64 : Int32))) ∧ Fld Z hh o "reenact/trace/IntBits" "head" "I" (.int (0 : Int32)) ∧ AV Z hh v .long ((ws.set 0 (ws.getD 0 0 ||| shl64 (1 : Int64) q)).map Value.long)) .int hZ hown (wi hw 14 rfl) (go) (fun hh q => ⟨q.2.2.1, q.1⟩) (Or.inl (wi hw 15 rfl)) (wi hw 3 rfl) (by decide) rfl rfl (fun hh hh' q X => ⟨(q.1).wr X, (q.2.1).other X (Or.inr (sn_words_greatest hw)), (q.2.2.1).same X, (q.2.2.2.1).other X (Or.inr (sn_size_greatest hw)), (q.2.2.2.2.1).other X (Or.inr (sn_base_greatest hw)), (q.2.2.2.2.2.1).other X (Or.inr (sn_head_greatest hw)), (q.2.2.2.2.2.2).other X (neN (by omega))⟩) d3_112 rfl
    have s24 : Sit p l e _ s m _ below meth c _ st n0 0 0 _ 117 #[.val (.ref o), .val (.int q), .val (.int wI)] [(.ref o), (.ref o)] := s23
      |>.aloadN d3_115 rfl rfl
      |>.dup d3_116 rfl rfl
    have s25 : Sit p l e _ s m _ below meth c _ st n0 0 0 _ 122 #[.val (.ref o), .val (.int q), .val (.int wI)] [(.int (zI + (1 : Int32))), (.ref o)] := s24
      |>.getf (.int zI) hZ hown (wi hw 21 rfl) (fun hh q => q.2.2.2.1) d3_117 rfl
      |>.iconst (1 : Int32) d3_120 rfl rfl
      |>.iadd d3_121 rfl
    have s26 : Sit p l e _ s m _ below meth c _ st n0 0 0 _ 125 #[.val (.ref o), .val (.int q), .val (.int wI)] [] := s25
      |>.putf (C := "reenact/trace/IntBits") (P' := fun hh => Exa Z hh o "reenact/trace/IntBits" ∧ Fld Z hh o "reenact/trace/IntBits" "words" "[J" (.ref v) ∧ Fld Z hh o "reenact/trace/IntBits" "greatest" "I" (.int q) ∧ Fld Z hh o "reenact/trace/IntBits" "size" "I" (.int (zI + (1 : Int32))) ∧ Fld Z hh o "reenact/trace/IntBits" "base" "I" (.int (q &&& (-64 : Int32))) ∧ Fld Z hh o "reenact/trace/IntBits" "head" "I" (.int (0 : Int32)) ∧ AV Z hh v .long ((ws.set 0 (ws.getD 0 0 ||| shl64 (1 : Int64) q)).map Value.long)) .int hZ hown (wi hw 21 rfl) (go) (fun hh q => ⟨q.2.2.2.1, q.1⟩) (Or.inl (wi hw 22 rfl)) (wi hw 3 rfl) (by decide) rfl rfl (fun hh hh' q X => ⟨(q.1).wr X, (q.2.1).other X (Or.inr (sn_words_size hw)), (q.2.2.1).other X (Or.inr (sn_greatest_size hw)), (q.2.2.2.1).same X, (q.2.2.2.2.1).other X (Or.inr (sn_base_size hw)), (q.2.2.2.2.2.1).other X (Or.inr (sn_head_size hw)), (q.2.2.2.2.2.2).other X (neN (by omega))⟩) d3_122 rfl
    have sB := s26.bound (cells' := 1) (slots' := cap) (by decide) (Nat.zero_le _)
    have ez : (zI + (1 : Int32)).toInt = ((q.toInt :: []).length : Int) := by
      rw [add_ti (by omega) (by omega), hz, List.length_cons]; omega
    exact sB.retV d3_125 hret hlk (fun hh qq => ⟨rfl, v, (q &&& (-64 : Int32)), (0 : Int32), zI + (1 : Int32), (ws.set 0 (ws.getD 0 0 ||| shl64 (1 : Int64) q)), ⟨gv, ne, ez, VF, by rw [List.length_set]; exact hl⟩, qq.1, qq.2.1, qq.2.2.1, qq.2.2.2.1, qq.2.2.2.2.1, qq.2.2.2.2.2.1, qq.2.2.2.2.2.2⟩)
  · have zn : ¬ zI = 0 := fun h => hS (List.length_eq_zero_iff.mp (by rw [h] at hz; have e : (0 : Int32).toInt = 0 := rfl; omega))
    obtain ⟨g1, g2⟩ := hg hS
    obtain ⟨y0, hy0, hy1⟩ := hm hS
    have ry := hr y0 hy0
    have my := hm0 y0 hy0
    have s27 : Sit p l e _ s m _ below meth c _ st n0 0 0 _ 48 #[.val (.ref o), .val (.int q), .unset] [(.ref o), (.int q)] := s5
      |>.ifY d3_30 (neT (show ¬ zI = 0 from zn)) (by decide) (by decide)
      |>.iloadN d3_46 rfl rfl
      |>.aloadN d3_47 rfl rfl
    have s28 : Sit p l e _ s m _ below meth c _ st n0 0 0 _ 54 #[.val (.ref o), .val (.int q), .unset] [(.int (64 : Int32)), (.int (q - bI))] := s27
      |>.getf (.int bI) hZ hown (wi hw 23 rfl) (fun hh q => q.2.2.2.2.1) d3_48 rfl
      |>.isub d3_51 rfl
      |>.bipush (64 : Int32) d3_52 rfl rfl
    have s29 : Sit p l e _ s m _ below meth c _ st n0 0 0 _ 55 #[.val (.ref o), .val (.int q), .unset] [(.int ((q - bI) / (64 : Int32)))] := s28
      |>.idiv d3_54 (by decide) rfl
    obtain ⟨wI, e_wI, s30⟩ : ∃ wI : Int32, wI = ((q - bI) / (64 : Int32)) ∧ Sit p l e _ s m _ below meth c _ st n0 0 0 _ 55 #[.val (.ref o), .val (.int q), .unset] [(.int wI)] := ⟨_, rfl, s29⟩
    have ek := idx_ti (x := q) (b := bI) b0 (by omega)
    obtain ⟨kk, ekk⟩ : ∃ kk : Nat, (q.toInt - bI.toInt) / 64 = (kk : Int) := ⟨((q.toInt - bI.toInt) / 64).toNat, by omega⟩
    rw [ekk] at ek
    have ew : wI.toInt = (kk : Int) := by rw [e_wI]; exact ek
    have s31 : Sit p l e _ s m _ below meth c _ st n0 0 0 _ 58 #[.val (.ref o), .val (.int q), .val (.int wI)] [(.ref o), (.int wI)] := s30
      |>.istoreN #[.val (.ref o), .val (.int q), .val (.int wI)] d3_55 rfl rfl
      |>.iloadN d3_56 rfl rfl
      |>.aloadN d3_57 rfl rfl
    have s32 : Sit p l e _ s m _ below meth c _ st n0 0 0 _ 62 #[.val (.ref o), .val (.int q), .val (.int wI)] [(.int (Int32.ofNat ws.length)), (.int wI)] := s31
      |>.getf (.ref v) hZ hown (wi hw 12 rfl) (fun hh q => q.2.1) d3_58 rfl
      |>.alen (n := ws.length) (Int32.ofNat ws.length) hZ (fun hh q => ⟨_, q.2.2.2.2.2.2, by rw [List.length_map]⟩) d3_61 rfl rfl
    have el := ofNat_ti (n := ws.length) (by omega)
    by_cases cw : wI.toInt < (Int32.ofNat ws.length).toInt
    · have kb : kk < ws.length := by omega
      have VM := V.more hS hq (by omega)
      have kt : ((q.toInt - bI.toInt) / 64).toNat = kk := by omega
      rw [kt] at VM
      have s33 : Sit p l e _ s m _ below meth c _ st n0 0 0 _ 91 #[.val (.ref o), .val (.int q), .val (.int wI)] [(.ref o)] := s32
        |>.icmpY d3_62 (cmpT (cd := .lt) cw) (by decide) (by decide)
        |>.aloadN d3_90 rfl rfl
      have s34 : Sit p l e _ s m _ below meth c _ st n0 0 0 _ 96 #[.val (.ref o), .val (.int q), .val (.int wI)] [(.ref o), (.int q), (.ref v)] := s33
        |>.getf (.ref v) hZ hown (wi hw 12 rfl) (fun hh q => q.2.1) d3_91 rfl
        |>.iloadN d3_94 rfl rfl
        |>.aloadN d3_95 rfl rfl
      have s35 : Sit p l e _ s m _ below meth c _ st n0 0 0 _ 102 #[.val (.ref o), .val (.int q), .val (.int wI)] [(.int (64 : Int32)), (.int (q - bI)), (.ref v)] := s34
        |>.getf (.int bI) hZ hown (wi hw 23 rfl) (fun hh q => q.2.2.2.2.1) d3_96 rfl
        |>.isub d3_99 rfl
        |>.bipush (64 : Int32) d3_100 rfl rfl
      have s36 : Sit p l e _ s m _ below meth c _ st n0 0 0 _ 104 #[.val (.ref o), .val (.int q), .val (.int wI)] [(.int ((q - bI) / (64 : Int32))), (.ref v), (.int ((q - bI) / (64 : Int32))), (.ref v)] := s35
        |>.idiv d3_102 (by decide) rfl
        |>.dup2 d3_103 rfl rfl rfl
      have s37 : Sit p l e _ s m _ below meth c _ st n0 0 0 _ 109 #[.val (.ref o), .val (.int q), .val (.int wI)] [(.long ((ws.getD kk 0) ||| (shl64 (1 : Int64) q))), (.int ((q - bI) / (64 : Int32))), (.ref v)] := s36
        |>.laload (v := (ws.getD kk 0)) hZ (by omega) (fun hh q => ⟨_, q.2.2.2.2.2.2, by rw [clamp_of ek]; exact look_map kb⟩) d3_104 rfl
        |>.lconst (1 : Int64) d3_105 rfl rfl
        |>.iloadN d3_106 rfl rfl
        |>.lshl d3_107 rfl
        |>.lor d3_108 rfl
      have s38 : Sit p l e _ s m _ below meth c _ st n0 0 0 _ 110 #[.val (.ref o), .val (.int q), .val (.int wI)] [] := s37
        |>.lastore (P' := fun hh => Exa Z hh o "reenact/trace/IntBits" ∧ Fld Z hh o "reenact/trace/IntBits" "words" "[J" (.ref v) ∧ Fld Z hh o "reenact/trace/IntBits" "greatest" "I" (.int gI) ∧ Fld Z hh o "reenact/trace/IntBits" "size" "I" (.int zI) ∧ Fld Z hh o "reenact/trace/IntBits" "base" "I" (.int bI) ∧ Fld Z hh o "reenact/trace/IntBits" "head" "I" (.int hI) ∧ AV Z hh v .long ((ws.set kk (ws.getD kk 0 ||| shl64 (1 : Int64) q)).map Value.long)) hZ (gv) (by omega) (fun hh q => ⟨_, q.2.2.2.2.2.2, by rw [clamp_of ek, List.length_map]; exact kb⟩) (fun hh hh' q X => by
          rw [clamp_of ek] at X
          exact ⟨(q.1).wr X, (q.2.1).other X (Or.inl (neN (by omega))), (q.2.2.1).other X (Or.inl (neN (by omega))), (q.2.2.2.1).other X (Or.inl (neN (by omega))), (q.2.2.2.2.1).other X (Or.inl (neN (by omega))), (q.2.2.2.2.2.1).other X (Or.inl (neN (by omega))), (by have A := (q.2.2.2.2.2.2).set X; rw [set_map] at A; exact A)⟩) d3_109 rfl
      have s39 : Sit p l e _ s m _ below meth c _ st n0 0 0 _ 112 #[.val (.ref o), .val (.int q), .val (.int wI)] [(.int q), (.ref o)] := s38
        |>.aloadN d3_110 rfl rfl
        |>.iloadN d3_111 rfl rfl
      have s40 : Sit p l e _ s m _ below meth c _ st n0 0 0 _ 115 #[.val (.ref o), .val (.int q), .val (.int wI)] [] := s39
        |>.putf (C := "reenact/trace/IntBits") (P' := fun hh => Exa Z hh o "reenact/trace/IntBits" ∧ Fld Z hh o "reenact/trace/IntBits" "words" "[J" (.ref v) ∧ Fld Z hh o "reenact/trace/IntBits" "greatest" "I" (.int q) ∧ Fld Z hh o "reenact/trace/IntBits" "size" "I" (.int zI) ∧ Fld Z hh o "reenact/trace/IntBits" "base" "I" (.int bI) ∧ Fld Z hh o "reenact/trace/IntBits" "head" "I" (.int hI) ∧ AV Z hh v .long ((ws.set kk (ws.getD kk 0 ||| shl64 (1 : Int64) q)).map Value.long)) .int hZ hown (wi hw 14 rfl) (go) (fun hh q => ⟨q.2.2.1, q.1⟩) (Or.inl (wi hw 15 rfl)) (wi hw 3 rfl) (by decide) rfl rfl (fun hh hh' q X => ⟨(q.1).wr X, (q.2.1).other X (Or.inr (sn_words_greatest hw)), (q.2.2.1).same X, (q.2.2.2.1).other X (Or.inr (sn_size_greatest hw)), (q.2.2.2.2.1).other X (Or.inr (sn_base_greatest hw)), (q.2.2.2.2.2.1).other X (Or.inr (sn_head_greatest hw)), (q.2.2.2.2.2.2).other X (neN (by omega))⟩) d3_112 rfl
      have s41 : Sit p l e _ s m _ below meth c _ st n0 0 0 _ 117 #[.val (.ref o), .val (.int q), .val (.int wI)] [(.ref o), (.ref o)] := s40
        |>.aloadN d3_115 rfl rfl
        |>.dup d3_116 rfl rfl
      have s42 : Sit p l e _ s m _ below meth c _ st n0 0 0 _ 122 #[.val (.ref o), .val (.int q), .val (.int wI)] [(.int (zI + (1 : Int32))), (.ref o)] := s41
        |>.getf (.int zI) hZ hown (wi hw 21 rfl) (fun hh q => q.2.2.2.1) d3_117 rfl
        |>.iconst (1 : Int32) d3_120 rfl rfl
        |>.iadd d3_121 rfl
      have s43 : Sit p l e _ s m _ below meth c _ st n0 0 0 _ 125 #[.val (.ref o), .val (.int q), .val (.int wI)] [] := s42
        |>.putf (C := "reenact/trace/IntBits") (P' := fun hh => Exa Z hh o "reenact/trace/IntBits" ∧ Fld Z hh o "reenact/trace/IntBits" "words" "[J" (.ref v) ∧ Fld Z hh o "reenact/trace/IntBits" "greatest" "I" (.int q) ∧ Fld Z hh o "reenact/trace/IntBits" "size" "I" (.int (zI + (1 : Int32))) ∧ Fld Z hh o "reenact/trace/IntBits" "base" "I" (.int bI) ∧ Fld Z hh o "reenact/trace/IntBits" "head" "I" (.int hI) ∧ AV Z hh v .long ((ws.set kk (ws.getD kk 0 ||| shl64 (1 : Int64) q)).map Value.long)) .int hZ hown (wi hw 21 rfl) (go) (fun hh q => ⟨q.2.2.2.1, q.1⟩) (Or.inl (wi hw 22 rfl)) (wi hw 3 rfl) (by decide) rfl rfl (fun hh hh' q X => ⟨(q.1).wr X, (q.2.1).other X (Or.inr (sn_words_size hw)), (q.2.2.1).other X (Or.inr (sn_greatest_size hw)), (q.2.2.2.1).same X, (q.2.2.2.2.1).other X (Or.inr (sn_base_size hw)), (q.2.2.2.2.2.1).other X (Or.inr (sn_head_size hw)), (q.2.2.2.2.2.2).other X (neN (by omega))⟩) d3_122 rfl
      have sB := s43.bound (cells' := 1) (slots' := cap) (by decide) (Nat.zero_le _)
      have ez : (zI + (1 : Int32)).toInt = ((q.toInt :: S).length : Int) := by
        rw [add_ti (by omega) (by omega), hz, List.length_cons]; omega
      exact sB.retV d3_125 hret hlk (fun hh qq => ⟨rfl, v, bI, hI, zI + (1 : Int32), (ws.set kk (ws.getD kk 0 ||| shl64 (1 : Int64) q)), ⟨gv, ne, ez, VM, by rw [List.length_set]; exact hl⟩, qq.1, qq.2.1, qq.2.2.1, qq.2.2.2.1, qq.2.2.2.2.1, qq.2.2.2.2.2.1, qq.2.2.2.2.2.2⟩)
    · have s44 : Sit p l e _ s m _ below meth c _ st n0 0 0 _ 67 #[.val (.ref o), .val (.int q), .val (.int wI)] [(.ref o), (.ref o)] := s32
        |>.icmpN d3_62 (cmpF (cd := .lt) cw) rfl
        |>.aloadN d3_65 rfl rfl
        |>.aloadN d3_66 rfl rfl
      have s45 : Sit p l e _ s m _ below meth c _ st n0 0 0 _ 74 #[.val (.ref o), .val (.int q), .val (.int wI)] [(.ref o), (.int wI), (.int (2 : Int32)), (.int (Int32.ofNat ws.length)), (.ref o)] := s44
        |>.getf (.ref v) hZ hown (wi hw 12 rfl) (fun hh q => q.2.1) d3_67 rfl
        |>.alen (n := ws.length) (Int32.ofNat ws.length) hZ (fun hh q => ⟨_, q.2.2.2.2.2.2, by rw [List.length_map]⟩) d3_70 rfl rfl
        |>.iconst (2 : Int32) d3_71 rfl rfl
        |>.iloadN d3_72 rfl rfl
        |>.aloadN d3_73 rfl rfl
      have s46 : Sit p l e _ s m _ below meth c _ st n0 0 0 _ 80 #[.val (.ref o), .val (.int q), .val (.int wI)] [(.int ((wI - hI) + (1 : Int32))), (.int (2 : Int32)), (.int (Int32.ofNat ws.length)), (.ref o)] := s45
        |>.getf (.int hI) hZ hown (wi hw 25 rfl) (fun hh q => q.2.2.2.2.2.1) d3_74 rfl
        |>.isub d3_77 rfl
        |>.iconst (1 : Int32) d3_78 rfl rfl
        |>.iadd d3_79 rfl
      have sb1 := sub_ti (x := wI) (y := hI) (by omega) h0'
      have sb2 := add_ti (x := wI - hI) (y := (1 : Int32)) (by omega) (by omega)
      obtain ⟨r48, s47⟩ := Sit.callS (y := (⟨"java/lang/Integer", "highestOneBit", "(I)I"⟩ : MethodName)) (W := 3) (Q := fun rv_ hh => ∃ ex2 : Nat, (rv_ = some (.int (Int32.ofNat (2 ^ ex2))) ∧ (ex2 ≤ 30 ∧ ((2 ^ ex2 : Nat) : Int) ≤ (wI - hI + (1 : Int32)).toInt ∧ (wI - hI + (1 : Int32)).toInt < ((2 ^ (ex2 + 1) : Nat) : Int))) ∧ (fun hh => Exa Z hh o "reenact/trace/IntBits" ∧ Fld Z hh o "reenact/trace/IntBits" "words" "[J" (.ref v) ∧ Fld Z hh o "reenact/trace/IntBits" "greatest" "I" (.int gI) ∧ Fld Z hh o "reenact/trace/IntBits" "size" "I" (.int zI) ∧ Fld Z hh o "reenact/trace/IntBits" "base" "I" (.int bI) ∧ Fld Z hh o "reenact/trace/IntBits" "head" "I" (.int hI) ∧ AV Z hh v .long (ws.map Value.long)) hh) [(.int ((wI - hI) + (1 : Int32)))] [(.int (2 : Int32)), (.int (Int32.ofNat ws.length)), (.ref o)] s46 hZ hown (wi hw 39 rfl) (wi hw 40 rfl) (wi hw 41 rfl) (wi hw 42 rfl) (by first | decide | exact Nat.le_of_ble_eq_true rfl | (show _ ≤ 110; decide)) (fun h1 hP hn => (rmHob l Z a0 hw [] _ h1 n0 hn (by omega)).mono fun rv_ hh q => by
          obtain ⟨⟨n, e1, e2⟩, e3⟩ := q
          exact ⟨n, ⟨e1, e2⟩, e3 ▸ hP⟩) hml rfl (lenOf pd_0 rfl) d3_80 (Nat.le_of_eq rfl) (by first | decide | exact Nat.le_of_ble_eq_true rfl | (show _ ≤ 110; decide)) (by first | decide | exact Nat.le_of_ble_eq_true rfl | (show _ ≤ 110; decide)) (by first | decide | exact Nat.le_of_ble_eq_true rfl | (show _ ≤ 110; decide)) (by first | decide | exact Nat.le_of_ble_eq_true rfl | (show _ ≤ 110; decide)) (pc' := 83) rfl
      obtain ⟨ex2, s50⟩ := s47.ex
      obtain ⟨_, ⟨er48, spr48⟩, _⟩ := s50.facts
      subst er48
      have s49 : Sit p l e _ s m _ below meth c _ st n0 0 0 (fun hh => Exa Z hh o "reenact/trace/IntBits" ∧ Fld Z hh o "reenact/trace/IntBits" "words" "[J" (.ref v) ∧ Fld Z hh o "reenact/trace/IntBits" "greatest" "I" (.int gI) ∧ Fld Z hh o "reenact/trace/IntBits" "size" "I" (.int zI) ∧ Fld Z hh o "reenact/trace/IntBits" "base" "I" (.int bI) ∧ Fld Z hh o "reenact/trace/IntBits" "head" "I" (.int hI) ∧ AV Z hh v .long (ws.map Value.long)) 83 #[.val (.ref o), .val (.int q), .val (.int wI)] [(.int (Int32.ofNat (2 ^ ex2))), (.int (2 : Int32)), (.int (Int32.ofNat ws.length)), (.ref o)] := s50.mono fun _ q => q.2
      obtain ⟨p1, p2, p3⟩ := spr48
      obtain ⟨pe, epe⟩ : ∃ pe : Nat, pe = 2 ^ ex2 := ⟨_, rfl⟩
      rw [Nat.pow_succ, ← epe] at p3
      rw [← epe] at p2
      have ep := ofNat_ti (n := pe) (by omega)
      have s51 : Sit p l e ({ frames := 3, cells := 1, slots := cap, locals := 110 } : Room) s m #[(.ref o), (.int q)] below meth c prog_149_method_2_code st n0 0 0 (fun hh => Exa Z hh o "reenact/trace/IntBits" ∧ Fld Z hh o "reenact/trace/IntBits" "words" "[J" (.ref v) ∧ Fld Z hh o "reenact/trace/IntBits" "greatest" "I" (.int gI) ∧ Fld Z hh o "reenact/trace/IntBits" "size" "I" (.int zI) ∧ Fld Z hh o "reenact/trace/IntBits" "base" "I" (.int bI) ∧ Fld Z hh o "reenact/trace/IntBits" "head" "I" (.int hI) ∧ AV Z hh v .long (ws.map Value.long)) 83 #[.val (.ref o), .val (.int q), .val (.int wI)] [(.int (Int32.ofNat pe)), (.int (2 : Int32)), (.int (Int32.ofNat ws.length)), (.ref o)] := by
        have q := s49
        rw [← epe] at q
        exact q
      have s52 : Sit p l e _ s m _ below meth c _ st n0 0 0 _ 84 #[.val (.ref o), .val (.int q), .val (.int wI)] [(.int ((2 : Int32) * (Int32.ofNat pe))), (.int (Int32.ofNat ws.length)), (.ref o)] := s51
        |>.imul d3_83 rfl
      have m2 := mul_ti (x := (2 : Int32)) (y := Int32.ofNat pe) (by have : (2 : Int32).toInt = 2 := rfl; rw [this, ep]; omega) (by have : (2 : Int32).toInt = 2 := rfl; rw [this, ep]; omega)
      rw [ti2, ep] at m2
      obtain ⟨r54, s53⟩ := Sit.callS (y := (⟨"java/lang/Math", "max", "(II)I"⟩ : MethodName)) (W := 1) (Q := fun rv_ hh => (rv_ = some (.int (mxF (Int32.ofNat ws.length) ((2 : Int32) * (Int32.ofNat pe))))) ∧ (fun hh => Exa Z hh o "reenact/trace/IntBits" ∧ Fld Z hh o "reenact/trace/IntBits" "words" "[J" (.ref v) ∧ Fld Z hh o "reenact/trace/IntBits" "greatest" "I" (.int gI) ∧ Fld Z hh o "reenact/trace/IntBits" "size" "I" (.int zI) ∧ Fld Z hh o "reenact/trace/IntBits" "base" "I" (.int bI) ∧ Fld Z hh o "reenact/trace/IntBits" "head" "I" (.int hI) ∧ AV Z hh v .long (ws.map Value.long)) hh) [(.int (Int32.ofNat ws.length)), (.int ((2 : Int32) * (Int32.ofNat pe)))] [(.ref o)] s52 hZ hown (wi hw 48 rfl) (wi hw 49 rfl) (wi hw 50 rfl) (wi hw 51 rfl) (by first | decide | exact Nat.le_of_ble_eq_true rfl | (show _ ≤ 110; decide)) (fun h1 hP hn => (rmMax l Z a0 hw [] _ _ h1 n0 hn).mono fun rv_ hh q => ⟨q.1, q.2 ▸ hP⟩) hml rfl (lenOf pd_1 rfl) d3_84 (Nat.le_of_eq rfl) (by first | decide | exact Nat.le_of_ble_eq_true rfl | (show _ ≤ 110; decide)) (by first | decide | exact Nat.le_of_ble_eq_true rfl | (show _ ≤ 110; decide)) (by first | decide | exact Nat.le_of_ble_eq_true rfl | (show _ ≤ 110; decide)) (by first | decide | exact Nat.le_of_ble_eq_true rfl | (show _ ≤ 110; decide)) (pc' := 87) rfl
      obtain ⟨_, er54, _⟩ := s53.facts
      subst er54
      have s55 : Sit p l e _ s m _ below meth c _ st n0 0 0 (fun hh => Exa Z hh o "reenact/trace/IntBits" ∧ Fld Z hh o "reenact/trace/IntBits" "words" "[J" (.ref v) ∧ Fld Z hh o "reenact/trace/IntBits" "greatest" "I" (.int gI) ∧ Fld Z hh o "reenact/trace/IntBits" "size" "I" (.int zI) ∧ Fld Z hh o "reenact/trace/IntBits" "base" "I" (.int bI) ∧ Fld Z hh o "reenact/trace/IntBits" "head" "I" (.int hI) ∧ AV Z hh v .long (ws.map Value.long)) 87 #[.val (.ref o), .val (.int q), .val (.int wI)] [(.int (mxF (Int32.ofNat ws.length) ((2 : Int32) * (Int32.ofNat pe)))), (.ref o)] := s53.mono fun _ q => q.2
      obtain ⟨lnI, e_lnI, s56⟩ : ∃ lnI : Int32, lnI = (mxF (Int32.ofNat ws.length) ((2 : Int32) * (Int32.ofNat pe))) ∧ Sit p l e _ s m _ below meth c _ st n0 0 0 _ 87 #[.val (.ref o), .val (.int q), .val (.int wI)] [(.int lnI), (.ref o)] := ⟨_, rfl, s55⟩
      have mx := mx_ti (Int32.ofNat ws.length) ((2 : Int32) * Int32.ofNat pe)
      rw [← e_lnI, el, m2] at mx
      obtain ⟨ln, eln⟩ : ∃ ln : Nat, lnI.toInt = (ln : Int) := ⟨lnI.toInt.toNat, by omega⟩
      obtain ⟨sp, esp⟩ : ∃ sp : Nat, (sp : Int) = (gI.toInt - bI.toInt) / 64 - hI.toInt + 1 := ⟨((gI.toInt - bI.toInt) / 64 - hI.toInt + 1).toNat, by omega⟩
      have lnc : ln ≤ cap := by omega
      obtain ⟨r58, s57⟩ := Sit.callP (C := "reenact/trace/IntBits") (y := (⟨"reenact/trace/IntBits", "moveDown", "(I)V"⟩ : MethodName)) (W := 0) (Q := fun rv_ hh => ∃ u : Addr, ∃ b2 : Int32, (rv_ = none ∧ (n0 ≤ u ∧ @Ne Nat o u ∧ b2.toInt = bI.toInt + 64 * hI.toInt)) ∧ (fun hh => Exa Z hh o "reenact/trace/IntBits" ∧ Fld Z hh o "reenact/trace/IntBits" "words" "[J" (.ref u) ∧ Fld Z hh o "reenact/trace/IntBits" "greatest" "I" (.int gI) ∧ Fld Z hh o "reenact/trace/IntBits" "size" "I" (.int zI) ∧ Fld Z hh o "reenact/trace/IntBits" "base" "I" (.int b2) ∧ Fld Z hh o "reenact/trace/IntBits" "head" "I" (.int (0 : Int32)) ∧ AV Z hh u .long (((ws.drop hI.toInt.toNat).take sp ++ List.replicate (ln - sp) 0).map Value.long)) hh) [(.int lnI)] [] s56 hZ hown (wi hw 52 rfl) (wi hw 53 rfl) (wi hw 54 rfl) (wi hw 3 rfl) (wi hw 55 rfl) (wi hw 4 rfl) (by first | decide | exact Nat.le_of_ble_eq_true rfl | (show _ ≤ 110; decide)) (fun hh q => q.1) (fun h1 hP hn => (rmM l Z a0 hw [] o lnI v bI hI gI zI ws ln sp cap h1 n0 hn go ne zn b0 h0' (by omega) eln esp (by omega) (by omega) (by omega) lnc hcap hP).mono fun rv_ hh q => by
          obtain ⟨e1, v', b', e2, e3⟩ := q
          exact ⟨v', b', ⟨e1, e2⟩, e3⟩) hml rfl (lenOf pd_2 rfl) d3_87 (Nat.le_of_eq rfl) (by first | decide | exact Nat.le_of_ble_eq_true rfl | (show _ ≤ 110; decide)) (by first | decide | exact Nat.le_of_ble_eq_true rfl | (show _ ≤ 110; decide)) (by first | decide | exact Nat.le_of_ble_eq_true rfl | (show _ ≤ 110; decide)) (Nat.le_of_eq (Nat.zero_add cap)) (pc' := 90) rfl
      obtain ⟨u, s60⟩ := s57.ex
      obtain ⟨b2, s61⟩ := s60.ex
      obtain ⟨_, ⟨er58, spr58⟩, _⟩ := s61.facts
      subst er58
      have s59 : Sit p l e _ s m _ below meth c _ st n0 1 cap (fun hh => Exa Z hh o "reenact/trace/IntBits" ∧ Fld Z hh o "reenact/trace/IntBits" "words" "[J" (.ref u) ∧ Fld Z hh o "reenact/trace/IntBits" "greatest" "I" (.int gI) ∧ Fld Z hh o "reenact/trace/IntBits" "size" "I" (.int zI) ∧ Fld Z hh o "reenact/trace/IntBits" "base" "I" (.int b2) ∧ Fld Z hh o "reenact/trace/IntBits" "head" "I" (.int (0 : Int32)) ∧ AV Z hh u .long (((ws.drop hI.toInt.toNat).take sp ++ List.replicate (ln - sp) 0).map Value.long)) 90 #[.val (.ref o), .val (.int q), .val (.int wI)] [] := (s61.bound (Nat.le_refl _) (Nat.le_of_eq (Nat.zero_add cap))).mono fun _ q => q.2
      obtain ⟨g_u, nu, eb2⟩ := spr58
      have VM0 := Inv.moved hd b0 b1 h0' hS hr g1 (hm hS) hb' esp (show sp ≤ ln by omega) (show 4 ≤ ln by omega)
      obtain ⟨ws2, ew2⟩ : ∃ ws2 : List Int64, ws2 = ((ws.drop hI.toInt.toNat).take sp ++ List.replicate (ln - sp) 0) := ⟨_, rfl⟩
      have l2 : ws2.length = ln := by rw [ew2]; simp only [List.length_append, List.length_take, List.length_drop, List.length_replicate]; omega
      rw [← ew2, ← eb2] at VM0
      have s62 : Sit p l e ({ frames := 3, cells := 1, slots := cap, locals := 110 } : Room) s m #[(.ref o), (.int q)] below meth c prog_149_method_2_code st n0 1 cap (fun hh => Exa Z hh o "reenact/trace/IntBits" ∧ Fld Z hh o "reenact/trace/IntBits" "words" "[J" (.ref u) ∧ Fld Z hh o "reenact/trace/IntBits" "greatest" "I" (.int gI) ∧ Fld Z hh o "reenact/trace/IntBits" "size" "I" (.int zI) ∧ Fld Z hh o "reenact/trace/IntBits" "base" "I" (.int b2) ∧ Fld Z hh o "reenact/trace/IntBits" "head" "I" (.int (0 : Int32)) ∧ AV Z hh u .long (ws2.map Value.long)) 90 #[.val (.ref o), .val (.int q), .val (.int wI)] [] := by
        rw [ew2]
        exact s59
      have ek := idx_ti (x := q) (b := b2) (by omega) (by omega)
      obtain ⟨k2, ek2⟩ : ∃ k2 : Nat, (q.toInt - b2.toInt) / 64 = (k2 : Int) := ⟨((q.toInt - b2.toInt) / 64).toNat, by omega⟩
      rw [ek2] at ek
      have kb : k2 < ws2.length := by omega
      have VM := VM0.more hS hq (by omega)
      have kt : ((q.toInt - b2.toInt) / 64).toNat = k2 := by omega
      rw [kt] at VM
      have s63 : Sit p l e _ s m _ below meth c _ st n0 1 cap _ 91 #[.val (.ref o), .val (.int q), .val (.int wI)] [(.ref o)] := s62
        |>.aloadN d3_90 rfl rfl
      have s64 : Sit p l e _ s m _ below meth c _ st n0 1 cap _ 96 #[.val (.ref o), .val (.int q), .val (.int wI)] [(.ref o), (.int q), (.ref u)] := s63
        |>.getf (.ref u) hZ hown (wi hw 12 rfl) (fun hh q => q.2.1) d3_91 rfl
        |>.iloadN d3_94 rfl rfl
        |>.aloadN d3_95 rfl rfl
      have s65 : Sit p l e _ s m _ below meth c _ st n0 1 cap _ 102 #[.val (.ref o), .val (.int q), .val (.int wI)] [(.int (64 : Int32)), (.int (q - b2)), (.ref u)] := s64
        |>.getf (.int b2) hZ hown (wi hw 23 rfl) (fun hh q => q.2.2.2.2.1) d3_96 rfl
        |>.isub d3_99 rfl
        |>.bipush (64 : Int32) d3_100 rfl rfl
      have s66 : Sit p l e _ s m _ below meth c _ st n0 1 cap _ 104 #[.val (.ref o), .val (.int q), .val (.int wI)] [(.int ((q - b2) / (64 : Int32))), (.ref u), (.int ((q - b2) / (64 : Int32))), (.ref u)] := s65
        |>.idiv d3_102 (by decide) rfl
        |>.dup2 d3_103 rfl rfl rfl
      have s67 : Sit p l e _ s m _ below meth c _ st n0 1 cap _ 109 #[.val (.ref o), .val (.int q), .val (.int wI)] [(.long ((ws2.getD k2 0) ||| (shl64 (1 : Int64) q))), (.int ((q - b2) / (64 : Int32))), (.ref u)] := s66
        |>.laload (v := (ws2.getD k2 0)) hZ (by omega) (fun hh q => ⟨_, q.2.2.2.2.2.2, by rw [clamp_of ek]; exact look_map kb⟩) d3_104 rfl
        |>.lconst (1 : Int64) d3_105 rfl rfl
        |>.iloadN d3_106 rfl rfl
        |>.lshl d3_107 rfl
        |>.lor d3_108 rfl
      have s68 : Sit p l e _ s m _ below meth c _ st n0 1 cap _ 110 #[.val (.ref o), .val (.int q), .val (.int wI)] [] := s67
        |>.lastore (P' := fun hh => Exa Z hh o "reenact/trace/IntBits" ∧ Fld Z hh o "reenact/trace/IntBits" "words" "[J" (.ref u) ∧ Fld Z hh o "reenact/trace/IntBits" "greatest" "I" (.int gI) ∧ Fld Z hh o "reenact/trace/IntBits" "size" "I" (.int zI) ∧ Fld Z hh o "reenact/trace/IntBits" "base" "I" (.int b2) ∧ Fld Z hh o "reenact/trace/IntBits" "head" "I" (.int (0 : Int32)) ∧ AV Z hh u .long ((ws2.set k2 (ws2.getD k2 0 ||| shl64 (1 : Int64) q)).map Value.long)) hZ (g_u) (by omega) (fun hh q => ⟨_, q.2.2.2.2.2.2, by rw [clamp_of ek, List.length_map]; exact kb⟩) (fun hh hh' q X => by
          rw [clamp_of ek] at X
          exact ⟨(q.1).wr X, (q.2.1).other X (Or.inl (neN (by omega))), (q.2.2.1).other X (Or.inl (neN (by omega))), (q.2.2.2.1).other X (Or.inl (neN (by omega))), (q.2.2.2.2.1).other X (Or.inl (neN (by omega))), (q.2.2.2.2.2.1).other X (Or.inl (neN (by omega))), (by have A := (q.2.2.2.2.2.2).set X; rw [set_map] at A; exact A)⟩) d3_109 rfl
      have s69 : Sit p l e _ s m _ below meth c _ st n0 1 cap _ 112 #[.val (.ref o), .val (.int q), .val (.int wI)] [(.int q), (.ref o)] := s68
        |>.aloadN d3_110 rfl rfl
        |>.iloadN d3_111 rfl rfl
      have s70 : Sit p l e _ s m _ below meth c _ st n0 1 cap _ 115 #[.val (.ref o), .val (.int q), .val (.int wI)] [] := s69
        |>.putf (C := "reenact/trace/IntBits") (P' := fun hh => Exa Z hh o "reenact/trace/IntBits" ∧ Fld Z hh o "reenact/trace/IntBits" "words" "[J" (.ref u) ∧ Fld Z hh o "reenact/trace/IntBits" "greatest" "I" (.int q) ∧ Fld Z hh o "reenact/trace/IntBits" "size" "I" (.int zI) ∧ Fld Z hh o "reenact/trace/IntBits" "base" "I" (.int b2) ∧ Fld Z hh o "reenact/trace/IntBits" "head" "I" (.int (0 : Int32)) ∧ AV Z hh u .long ((ws2.set k2 (ws2.getD k2 0 ||| shl64 (1 : Int64) q)).map Value.long)) .int hZ hown (wi hw 14 rfl) (go) (fun hh q => ⟨q.2.2.1, q.1⟩) (Or.inl (wi hw 15 rfl)) (wi hw 3 rfl) (by decide) rfl rfl (fun hh hh' q X => ⟨(q.1).wr X, (q.2.1).other X (Or.inr (sn_words_greatest hw)), (q.2.2.1).same X, (q.2.2.2.1).other X (Or.inr (sn_size_greatest hw)), (q.2.2.2.2.1).other X (Or.inr (sn_base_greatest hw)), (q.2.2.2.2.2.1).other X (Or.inr (sn_head_greatest hw)), (q.2.2.2.2.2.2).other X (neN (by omega))⟩) d3_112 rfl
      have s71 : Sit p l e _ s m _ below meth c _ st n0 1 cap _ 117 #[.val (.ref o), .val (.int q), .val (.int wI)] [(.ref o), (.ref o)] := s70
        |>.aloadN d3_115 rfl rfl
        |>.dup d3_116 rfl rfl
      have s72 : Sit p l e _ s m _ below meth c _ st n0 1 cap _ 122 #[.val (.ref o), .val (.int q), .val (.int wI)] [(.int (zI + (1 : Int32))), (.ref o)] := s71
        |>.getf (.int zI) hZ hown (wi hw 21 rfl) (fun hh q => q.2.2.2.1) d3_117 rfl
        |>.iconst (1 : Int32) d3_120 rfl rfl
        |>.iadd d3_121 rfl
      have s73 : Sit p l e _ s m _ below meth c _ st n0 1 cap _ 125 #[.val (.ref o), .val (.int q), .val (.int wI)] [] := s72
        |>.putf (C := "reenact/trace/IntBits") (P' := fun hh => Exa Z hh o "reenact/trace/IntBits" ∧ Fld Z hh o "reenact/trace/IntBits" "words" "[J" (.ref u) ∧ Fld Z hh o "reenact/trace/IntBits" "greatest" "I" (.int q) ∧ Fld Z hh o "reenact/trace/IntBits" "size" "I" (.int (zI + (1 : Int32))) ∧ Fld Z hh o "reenact/trace/IntBits" "base" "I" (.int b2) ∧ Fld Z hh o "reenact/trace/IntBits" "head" "I" (.int (0 : Int32)) ∧ AV Z hh u .long ((ws2.set k2 (ws2.getD k2 0 ||| shl64 (1 : Int64) q)).map Value.long)) .int hZ hown (wi hw 21 rfl) (go) (fun hh q => ⟨q.2.2.2.1, q.1⟩) (Or.inl (wi hw 22 rfl)) (wi hw 3 rfl) (by decide) rfl rfl (fun hh hh' q X => ⟨(q.1).wr X, (q.2.1).other X (Or.inr (sn_words_size hw)), (q.2.2.1).other X (Or.inr (sn_greatest_size hw)), (q.2.2.2.1).same X, (q.2.2.2.2.1).other X (Or.inr (sn_base_size hw)), (q.2.2.2.2.2.1).other X (Or.inr (sn_head_size hw)), (q.2.2.2.2.2.2).other X (neN (by omega))⟩) d3_122 rfl
      have ez : (zI + (1 : Int32)).toInt = ((q.toInt :: S).length : Int) := by
        rw [add_ti (by omega) (by omega), hz, List.length_cons]; omega
      exact s73.retV d3_125 hret hlk (fun hh qq => ⟨rfl, u, b2, (0 : Int32), zI + (1 : Int32), (ws2.set k2 (ws2.getD k2 0 ||| shl64 (1 : Int64) q)), ⟨g_u, nu, ez, VM, by rw [List.length_set]; omega⟩, qq.1, qq.2.1, qq.2.2.1, qq.2.2.2.1, qq.2.2.2.2.1, qq.2.2.2.2.2.1, qq.2.2.2.2.2.2⟩)
theorem pn_rmR : plainName "reenact/trace/IntBits" = true := by first | (simp [plainName, overriddenIn]; done) | decide +kernel
theorem d5_0 : decode prog_149_method_4_code 0 = .ok (.aload_n 0, 1) := by decide +kernel
theorem d5_1 : decode prog_149_method_4_code 1 = .ok (.iload_n 1, 1) := by decide +kernel
theorem d5_2 : decode prog_149_method_4_code 2 = .ok (.invokevirtual 53, 3) := by decide +kernel
theorem d5_5 : decode prog_149_method_4_code 5 = .ok (.ifCond .ne 4, 3) := by decide +kernel
theorem d5_8 : decode prog_149_method_4_code 8 = .ok (.return_, 1) := by decide +kernel
theorem d5_9 : decode prog_149_method_4_code 9 = .ok (.aload_n 0, 1) := by decide +kernel
theorem d5_10 : decode prog_149_method_4_code 10 = .ok (.getfield 9, 3) := by decide +kernel
theorem d5_13 : decode prog_149_method_4_code 13 = .ok (.iload_n 1, 1) := by decide +kernel
theorem d5_14 : decode prog_149_method_4_code 14 = .ok (.aload_n 0, 1) := by decide +kernel
theorem d5_15 : decode prog_149_method_4_code 15 = .ok (.getfield 31, 3) := by decide +kernel
theorem d5_18 : decode prog_149_method_4_code 18 = .ok (.isub, 1) := by decide +kernel
theorem d5_19 : decode prog_149_method_4_code 19 = .ok (.bipush 64, 2) := by decide +kernel
theorem d5_21 : decode prog_149_method_4_code 21 = .ok (.idiv, 1) := by decide +kernel
theorem d5_22 : decode prog_149_method_4_code 22 = .ok (.dup2, 1) := by decide +kernel
theorem d5_23 : decode prog_149_method_4_code 23 = .ok (.laload, 1) := by decide +kernel
theorem d5_24 : decode prog_149_method_4_code 24 = .ok (.lconst 1, 1) := by decide +kernel
theorem d5_25 : decode prog_149_method_4_code 25 = .ok (.iload_n 1, 1) := by decide +kernel
theorem d5_26 : decode prog_149_method_4_code 26 = .ok (.lshl, 1) := by decide +kernel
theorem d5_27 : decode prog_149_method_4_code 27 = .ok (.ldc2_w 57, 3) := by decide +kernel
theorem d5_30 : decode prog_149_method_4_code 30 = .ok (.lxor, 1) := by decide +kernel
theorem d5_31 : decode prog_149_method_4_code 31 = .ok (.land, 1) := by decide +kernel
theorem d5_32 : decode prog_149_method_4_code 32 = .ok (.lastore, 1) := by decide +kernel
theorem d5_33 : decode prog_149_method_4_code 33 = .ok (.aload_n 0, 1) := by decide +kernel
theorem d5_34 : decode prog_149_method_4_code 34 = .ok (.dup, 1) := by decide +kernel
theorem d5_35 : decode prog_149_method_4_code 35 = .ok (.getfield 26, 3) := by decide +kernel
theorem d5_38 : decode prog_149_method_4_code 38 = .ok (.iconst 1, 1) := by decide +kernel
theorem d5_39 : decode prog_149_method_4_code 39 = .ok (.isub, 1) := by decide +kernel
theorem d5_40 : decode prog_149_method_4_code 40 = .ok (.putfield 26, 3) := by decide +kernel
theorem d5_43 : decode prog_149_method_4_code 43 = .ok (.aload_n 0, 1) := by decide +kernel
theorem d5_44 : decode prog_149_method_4_code 44 = .ok (.getfield 26, 3) := by decide +kernel
theorem d5_47 : decode prog_149_method_4_code 47 = .ok (.ifCond .ne 14, 3) := by decide +kernel
theorem d5_50 : decode prog_149_method_4_code 50 = .ok (.aload_n 0, 1) := by decide +kernel
theorem d5_51 : decode prog_149_method_4_code 51 = .ok (.iconst 0, 1) := by decide +kernel
theorem d5_52 : decode prog_149_method_4_code 52 = .ok (.putfield 34, 3) := by decide +kernel
theorem d5_55 : decode prog_149_method_4_code 55 = .ok (.aload_n 0, 1) := by decide +kernel
theorem d5_56 : decode prog_149_method_4_code 56 = .ok (.iconst (-1), 1) := by decide +kernel
theorem d5_57 : decode prog_149_method_4_code 57 = .ok (.putfield 13, 3) := by decide +kernel
theorem d5_60 : decode prog_149_method_4_code 60 = .ok (.return_, 1) := by decide +kernel
theorem d5_61 : decode prog_149_method_4_code 61 = .ok (.aload_n 0, 1) := by decide +kernel
theorem d5_62 : decode prog_149_method_4_code 62 = .ok (.getfield 9, 3) := by decide +kernel
theorem d5_65 : decode prog_149_method_4_code 65 = .ok (.aload_n 0, 1) := by decide +kernel
theorem d5_66 : decode prog_149_method_4_code 66 = .ok (.getfield 34, 3) := by decide +kernel
theorem d5_69 : decode prog_149_method_4_code 69 = .ok (.laload, 1) := by decide +kernel
theorem d5_70 : decode prog_149_method_4_code 70 = .ok (.lconst 0, 1) := by decide +kernel
theorem d5_71 : decode prog_149_method_4_code 71 = .ok (.lcmp, 1) := by decide +kernel
theorem d5_72 : decode prog_149_method_4_code 72 = .ok (.ifCond .ne 16, 3) := by decide +kernel
theorem d5_75 : decode prog_149_method_4_code 75 = .ok (.aload_n 0, 1) := by decide +kernel
theorem d5_76 : decode prog_149_method_4_code 76 = .ok (.dup, 1) := by decide +kernel
theorem d5_77 : decode prog_149_method_4_code 77 = .ok (.getfield 34, 3) := by decide +kernel
theorem d5_80 : decode prog_149_method_4_code 80 = .ok (.iconst 1, 1) := by decide +kernel
theorem d5_81 : decode prog_149_method_4_code 81 = .ok (.iadd, 1) := by decide +kernel
theorem d5_82 : decode prog_149_method_4_code 82 = .ok (.putfield 34, 3) := by decide +kernel
theorem d5_85 : decode prog_149_method_4_code 85 = .ok (.goto (-24), 3) := by decide +kernel
theorem d5_88 : decode prog_149_method_4_code 88 = .ok (.aload_n 0, 1) := by decide +kernel
theorem d5_89 : decode prog_149_method_4_code 89 = .ok (.getfield 34, 3) := by decide +kernel
theorem d5_92 : decode prog_149_method_4_code 92 = .ok (.aload_n 0, 1) := by decide +kernel
theorem d5_93 : decode prog_149_method_4_code 93 = .ok (.getfield 9, 3) := by decide +kernel
theorem d5_96 : decode prog_149_method_4_code 96 = .ok (.arraylength, 1) := by decide +kernel
theorem d5_97 : decode prog_149_method_4_code 97 = .ok (.iconst 2, 1) := by decide +kernel
theorem d5_98 : decode prog_149_method_4_code 98 = .ok (.idiv, 1) := by decide +kernel
theorem d5_99 : decode prog_149_method_4_code 99 = .ok (.if_icmp .lt 37, 3) := by decide +kernel
theorem d5_102 : decode prog_149_method_4_code 102 = .ok (.aload_n 0, 1) := by decide +kernel
theorem d5_103 : decode prog_149_method_4_code 103 = .ok (.getfield 13, 3) := by decide +kernel
theorem d5_106 : decode prog_149_method_4_code 106 = .ok (.aload_n 0, 1) := by decide +kernel
theorem d5_107 : decode prog_149_method_4_code 107 = .ok (.getfield 31, 3) := by decide +kernel
theorem d5_110 : decode prog_149_method_4_code 110 = .ok (.isub, 1) := by decide +kernel
theorem d5_111 : decode prog_149_method_4_code 111 = .ok (.bipush 64, 2) := by decide +kernel
theorem d5_113 : decode prog_149_method_4_code 113 = .ok (.idiv, 1) := by decide +kernel
theorem d5_114 : decode prog_149_method_4_code 114 = .ok (.aload_n 0, 1) := by decide +kernel
theorem d5_115 : decode prog_149_method_4_code 115 = .ok (.getfield 34, 3) := by decide +kernel
theorem d5_118 : decode prog_149_method_4_code 118 = .ok (.isub, 1) := by decide +kernel
theorem d5_119 : decode prog_149_method_4_code 119 = .ok (.iconst 1, 1) := by decide +kernel
theorem d5_120 : decode prog_149_method_4_code 120 = .ok (.iadd, 1) := by decide +kernel
theorem d5_121 : decode prog_149_method_4_code 121 = .ok (.istore_n 2, 1) := by decide +kernel
theorem d5_122 : decode prog_149_method_4_code 122 = .ok (.aload_n 0, 1) := by decide +kernel
theorem d5_123 : decode prog_149_method_4_code 123 = .ok (.iconst 4, 1) := by decide +kernel
theorem d5_124 : decode prog_149_method_4_code 124 = .ok (.iconst 2, 1) := by decide +kernel
theorem d5_125 : decode prog_149_method_4_code 125 = .ok (.iload_n 2, 1) := by decide +kernel
theorem d5_126 : decode prog_149_method_4_code 126 = .ok (.invokestatic 37, 3) := by decide +kernel
theorem d5_129 : decode prog_149_method_4_code 129 = .ok (.imul, 1) := by decide +kernel
theorem d5_130 : decode prog_149_method_4_code 130 = .ok (.invokestatic 43, 3) := by decide +kernel
theorem d5_133 : decode prog_149_method_4_code 133 = .ok (.invokevirtual 49, 3) := by decide +kernel
theorem d5_136 : decode prog_149_method_4_code 136 = .ok (.return_, 1) := by decide +kernel
theorem ef_rmR (m : MethodId) (o : Addr) (q : Int32) : entryFrame m #[(.ref o), (.int q)] 3 = mkF m 0 #[.val (.ref o), .val (.int q), .unset] [] := by first | (simp [entryFrame, mkF, argsToLocals, Value.category]; done) | rfl
set_option maxRecDepth 65536 in
set_option maxHeartbeats 40000000 in
theorem rmR (l : Launch) (Z : State) (a0 : Array Value) (hw : ∀ d ∈ tables_1, d.before a0 Z = true) (wcs : List Jvm.Cond) (o : Addr) (q : Int32) (v : Addr) (bI hI gI zI : Int32) (ws : List Int64) (S : List Int) (cap : Nat) (h0 : Heap) (n0 : Nat) (Z0 : n0 ≤ h0.size) (go : n0 ≤ o) (gv : n0 ≤ v) (ne : @Ne Nat o v) (V : Inv S bI.toInt hI.toInt gI.toInt ws) (hz : zI.toInt = (S.length : Int)) (hL : S.length < 1000) (hx : q.toInt ∈ S) (hmov : (∃ y ∈ (S.erase q.toInt), ∀ z ∈ S, y ≤ z) ∨ (4 ≤ cap ∧ ∀ y ∈ (S.erase q.toInt), 2 * ((gI.toInt - y) / 64 + 2) ≤ (cap : Int))) (hl : ws.length ≤ 1024) (hcap : cap ≤ 1024) (I : Exa Z h0 o "reenact/trace/IntBits" ∧ Fld Z h0 o "reenact/trace/IntBits" "words" "[J" (.ref v) ∧ Fld Z h0 o "reenact/trace/IntBits" "greatest" "I" (.int gI) ∧ Fld Z h0 o "reenact/trace/IntBits" "size" "I" (.int zI) ∧ Fld Z h0 o "reenact/trace/IntBits" "base" "I" (.int bI) ∧ Fld Z h0 o "reenact/trace/IntBits" "head" "I" (.int hI) ∧ AV Z h0 v .long (ws.map Value.long)) : Met1 l (⟨"reenact/trace/IntBits", "remove", "(I)V"⟩ : MethodName) prog_149_method_4_code 3 none wcs ({ frames := 3, cells := 1, slots := cap, locals := 110 } : Room) Z #[(.ref o), (.int q)] h0 n0 (fun r hh => r = none ∧ ∃ v' : Addr, ∃ b' : Int32, ∃ h' : Int32, ∃ g' : Int32, ∃ z' : Int32, ∃ ws' : List Int64, (n0 ≤ v' ∧ @Ne Nat o v' ∧ z'.toInt = ((S.erase q.toInt).length : Int) ∧ Inv (S.erase q.toInt) b'.toInt h'.toInt g'.toInt ws' ∧ (ws'.length ≤ ws.length ∨ ws'.length ≤ cap) ∧ ((S.erase q.toInt) ≠ [] → g' = gI)) ∧ Exa Z hh o "reenact/trace/IntBits" ∧ Fld Z hh o "reenact/trace/IntBits" "words" "[J" (.ref v') ∧ Fld Z hh o "reenact/trace/IntBits" "greatest" "I" (.int g') ∧ Fld Z hh o "reenact/trace/IntBits" "size" "I" (.int z') ∧ Fld Z hh o "reenact/trace/IntBits" "base" "I" (.int b') ∧ Fld Z hh o "reenact/trace/IntBits" "head" "I" (.int h') ∧ AV Z hh v' .long (ws'.map Value.long)) := by
  refine Met1.of (L0 := #[.val (.ref o), .val (.int q), .unset]) (plainFor_of_name pn_rmR) (fun m => ef_rmR m o q) Z0 ?_
  intro p e s m below meth c st s0 hZ hown hret hlk hnm hml
  have s1 : Sit p l e _ s m _ below meth c _ st n0 0 0 (fun hh => Exa Z hh o "reenact/trace/IntBits" ∧ Fld Z hh o "reenact/trace/IntBits" "words" "[J" (.ref v) ∧ Fld Z hh o "reenact/trace/IntBits" "greatest" "I" (.int gI) ∧ Fld Z hh o "reenact/trace/IntBits" "size" "I" (.int zI) ∧ Fld Z hh o "reenact/trace/IntBits" "base" "I" (.int bI) ∧ Fld Z hh o "reenact/trace/IntBits" "head" "I" (.int hI) ∧ AV Z hh v .long (ws.map Value.long)) 0 #[.val (.ref o), .val (.int q), .unset] [] := s0.mono fun hh q => q.symm ▸ I
  have V' := V
  obtain ⟨hd, b0, b1, h0', hh', hn4, he, hr, hg, hm, hb'⟩ := V'
  have r1 : (1 : Int32).toInt = 1 := rfl
  have rq := rng32 q
  have hS : S ≠ [] := fun e => by rw [e] at hx; simp at hx
  obtain ⟨g1, g2⟩ := hg hS
  have rx := hr _ hx
  have hbits := V.less hx
  have hlen : (S.erase q.toInt).length + 1 = S.length := by rw [List.length_erase_of_mem hx]; have := List.length_pos_of_mem hx; omega
  have s2 : Sit p l e _ s m _ below meth c _ st n0 0 0 _ 2 #[.val (.ref o), .val (.int q), .unset] [(.int q), (.ref o)] := s1
    |>.aloadN d5_0 rfl rfl
    |>.iloadN d5_1 rfl rfl
  obtain ⟨r4, s3⟩ := Sit.callV (C := "reenact/trace/IntBits") (y := (⟨"reenact/trace/IntBits", "contains", "(I)Z"⟩ : MethodName)) (W := 0) (Q := fun rv_ hh => (rv_ = some (.int (1 : Int32))) ∧ (fun hh => Exa Z hh o "reenact/trace/IntBits" ∧ Fld Z hh o "reenact/trace/IntBits" "words" "[J" (.ref v) ∧ Fld Z hh o "reenact/trace/IntBits" "greatest" "I" (.int gI) ∧ Fld Z hh o "reenact/trace/IntBits" "size" "I" (.int zI) ∧ Fld Z hh o "reenact/trace/IntBits" "base" "I" (.int bI) ∧ Fld Z hh o "reenact/trace/IntBits" "head" "I" (.int hI) ∧ AV Z hh v .long (ws.map Value.long)) hh) [(.int q)] [] s2 hZ hown (wi hw 37 rfl) (wi hw 28 rfl) (wi hw 30 rfl) (wi hw 29 rfl) (wi hw 31 rfl) (wi hw 4 rfl) (by first | decide | exact Nat.le_of_ble_eq_true rfl | (show _ ≤ 110; decide)) (fun hh q => q.1) (fun h1 hP hn => (rmC l Z a0 hw [] o q v bI hI gI zI ws S h1 n0 hn V hz hP).mono fun rv_ hh q => ⟨by rw [q.1, if_pos hx], q.2 ▸ hP⟩) hml rfl (lenOf pd_3 rfl) d5_2 (Nat.le_of_eq rfl) (by first | decide | exact Nat.le_of_ble_eq_true rfl | (show _ ≤ 110; decide)) (by first | decide | exact Nat.le_of_ble_eq_true rfl | (show _ ≤ 110; decide)) (by first | decide | exact Nat.le_of_ble_eq_true rfl | (show _ ≤ 110; decide)) (by first | decide | exact Nat.le_of_ble_eq_true rfl | (show _ ≤ 110; decide)) (pc' := 5) rfl
  obtain ⟨_, er4, _⟩ := s3.facts
  subst er4
  have s5 : Sit p l e _ s m _ below meth c _ st n0 0 0 (fun hh => Exa Z hh o "reenact/trace/IntBits" ∧ Fld Z hh o "reenact/trace/IntBits" "words" "[J" (.ref v) ∧ Fld Z hh o "reenact/trace/IntBits" "greatest" "I" (.int gI) ∧ Fld Z hh o "reenact/trace/IntBits" "size" "I" (.int zI) ∧ Fld Z hh o "reenact/trace/IntBits" "base" "I" (.int bI) ∧ Fld Z hh o "reenact/trace/IntBits" "head" "I" (.int hI) ∧ AV Z hh v .long (ws.map Value.long)) 5 #[.val (.ref o), .val (.int q), .unset] [(.int (1 : Int32))] := s3.mono fun _ q => q.2
  have s6 : Sit p l e _ s m _ below meth c _ st n0 0 0 _ 10 #[.val (.ref o), .val (.int q), .unset] [(.ref o)] := s5
    |>.ifY d5_5 (neT (show ¬ (1 : Int32) = 0 from by decide)) (by decide) (by decide)
    |>.aloadN d5_9 rfl rfl
  have s7 : Sit p l e _ s m _ below meth c _ st n0 0 0 _ 15 #[.val (.ref o), .val (.int q), .unset] [(.ref o), (.int q), (.ref v)] := s6
    |>.getf (.ref v) hZ hown (wi hw 12 rfl) (fun hh q => q.2.1) d5_10 rfl
    |>.iloadN d5_13 rfl rfl
    |>.aloadN d5_14 rfl rfl
  have s8 : Sit p l e _ s m _ below meth c _ st n0 0 0 _ 21 #[.val (.ref o), .val (.int q), .unset] [(.int (64 : Int32)), (.int (q - bI)), (.ref v)] := s7
    |>.getf (.int bI) hZ hown (wi hw 23 rfl) (fun hh q => q.2.2.2.2.1) d5_15 rfl
    |>.isub d5_18 rfl
    |>.bipush (64 : Int32) d5_19 rfl rfl
  have s9 : Sit p l e _ s m _ below meth c _ st n0 0 0 _ 23 #[.val (.ref o), .val (.int q), .unset] [(.int ((q - bI) / (64 : Int32))), (.ref v), (.int ((q - bI) / (64 : Int32))), (.ref v)] := s8
    |>.idiv d5_21 (by decide) rfl
    |>.dup2 d5_22 rfl rfl rfl
  have ek := idx_ti (x := q) (b := bI) b0 (by omega)
  obtain ⟨kk, ekk⟩ : ∃ kk : Nat, (q.toInt - bI.toInt) / 64 = (kk : Int) := ⟨((q.toInt - bI.toInt) / 64).toNat, by omega⟩
  rw [ekk] at ek
  have kb : kk < ws.length := by omega
  have kt : ((q.toInt - bI.toInt) / 64).toNat = kk := by omega
  rw [kt] at hbits
  have s10 : Sit p l e _ s m _ below meth c _ st n0 0 0 _ 32 #[.val (.ref o), .val (.int q), .unset] [(.long ((ws.getD kk 0) &&& ((shl64 (1 : Int64) q) ^^^ (-1 : Int64)))), (.int ((q - bI) / (64 : Int32))), (.ref v)] := s9
    |>.laload (v := (ws.getD kk 0)) hZ (by omega) (fun hh q => ⟨_, q.2.2.2.2.2.2, by rw [clamp_of ek]; exact look_map kb⟩) d5_23 rfl
    |>.lconst (1 : Int64) d5_24 rfl rfl
    |>.iloadN d5_25 rfl rfl
    |>.lshl d5_26 rfl
    |>.ldc2 hZ hown (wi hw 38 rfl) d5_27 rfl
    |>.lxor d5_30 rfl
    |>.land d5_31 rfl
  have s11 : Sit p l e _ s m _ below meth c _ st n0 0 0 _ 33 #[.val (.ref o), .val (.int q), .unset] [] := s10
    |>.lastore (P' := fun hh => Exa Z hh o "reenact/trace/IntBits" ∧ Fld Z hh o "reenact/trace/IntBits" "words" "[J" (.ref v) ∧ Fld Z hh o "reenact/trace/IntBits" "greatest" "I" (.int gI) ∧ Fld Z hh o "reenact/trace/IntBits" "size" "I" (.int zI) ∧ Fld Z hh o "reenact/trace/IntBits" "base" "I" (.int bI) ∧ Fld Z hh o "reenact/trace/IntBits" "head" "I" (.int hI) ∧ AV Z hh v .long ((ws.set kk (ws.getD kk 0 &&& (shl64 (1 : Int64) q ^^^ (-1 : Int64)))).map Value.long)) hZ (gv) (by omega) (fun hh q => ⟨_, q.2.2.2.2.2.2, by rw [clamp_of ek, List.length_map]; exact kb⟩) (fun hh hh' q X => by
      rw [clamp_of ek] at X
      exact ⟨(q.1).wr X, (q.2.1).other X (Or.inl (neN (by omega))), (q.2.2.1).other X (Or.inl (neN (by omega))), (q.2.2.2.1).other X (Or.inl (neN (by omega))), (q.2.2.2.2.1).other X (Or.inl (neN (by omega))), (q.2.2.2.2.2.1).other X (Or.inl (neN (by omega))), (by have A := (q.2.2.2.2.2.2).set X; rw [set_map] at A; exact A)⟩) d5_32 rfl
  obtain ⟨ws1, ew1⟩ : ∃ ws1 : List Int64, ws1 = (ws.set kk (ws.getD kk 0 &&& (shl64 (1 : Int64) q ^^^ (-1 : Int64)))) := ⟨_, rfl⟩
  have l1 : ws1.length = ws.length := by rw [ew1, List.length_set]
  rw [← ew1] at hbits
  rw [← l1] at hbits
  have s12 : Sit p l e ({ frames := 3, cells := 1, slots := cap, locals := 110 } : Room) s m #[(.ref o), (.int q)] below meth c prog_149_method_4_code st n0 0 0 (fun hh => Exa Z hh o "reenact/trace/IntBits" ∧ Fld Z hh o "reenact/trace/IntBits" "words" "[J" (.ref v) ∧ Fld Z hh o "reenact/trace/IntBits" "greatest" "I" (.int gI) ∧ Fld Z hh o "reenact/trace/IntBits" "size" "I" (.int zI) ∧ Fld Z hh o "reenact/trace/IntBits" "base" "I" (.int bI) ∧ Fld Z hh o "reenact/trace/IntBits" "head" "I" (.int hI) ∧ AV Z hh v .long (ws1.map Value.long)) 33 #[.val (.ref o), .val (.int q), .unset] [] := by
    rw [ew1]
    exact s11
  have s13 : Sit p l e _ s m _ below meth c _ st n0 0 0 _ 35 #[.val (.ref o), .val (.int q), .unset] [(.ref o), (.ref o)] := s12
    |>.aloadN d5_33 rfl rfl
    |>.dup d5_34 rfl rfl
  have s14 : Sit p l e _ s m _ below meth c _ st n0 0 0 _ 40 #[.val (.ref o), .val (.int q), .unset] [(.int (zI - (1 : Int32))), (.ref o)] := s13
    |>.getf (.int zI) hZ hown (wi hw 21 rfl) (fun hh q => q.2.2.2.1) d5_35 rfl
    |>.iconst (1 : Int32) d5_38 rfl rfl
    |>.isub d5_39 rfl
  have s15 : Sit p l e _ s m _ below meth c _ st n0 0 0 _ 43 #[.val (.ref o), .val (.int q), .unset] [] := s14
    |>.putf (C := "reenact/trace/IntBits") (P' := fun hh => Exa Z hh o "reenact/trace/IntBits" ∧ Fld Z hh o "reenact/trace/IntBits" "words" "[J" (.ref v) ∧ Fld Z hh o "reenact/trace/IntBits" "greatest" "I" (.int gI) ∧ Fld Z hh o "reenact/trace/IntBits" "size" "I" (.int (zI - (1 : Int32))) ∧ Fld Z hh o "reenact/trace/IntBits" "base" "I" (.int bI) ∧ Fld Z hh o "reenact/trace/IntBits" "head" "I" (.int hI) ∧ AV Z hh v .long (ws1.map Value.long)) .int hZ hown (wi hw 21 rfl) (go) (fun hh q => ⟨q.2.2.2.1, q.1⟩) (Or.inl (wi hw 22 rfl)) (wi hw 3 rfl) (by decide) rfl rfl (fun hh hh' q X => ⟨(q.1).wr X, (q.2.1).other X (Or.inr (sn_words_size hw)), (q.2.2.1).other X (Or.inr (sn_greatest_size hw)), (q.2.2.2.1).same X, (q.2.2.2.2.1).other X (Or.inr (sn_base_size hw)), (q.2.2.2.2.2.1).other X (Or.inr (sn_head_size hw)), (q.2.2.2.2.2.2).other X (neN (by omega))⟩) d5_40 rfl
  have s16 : Sit p l e _ s m _ below meth c _ st n0 0 0 _ 44 #[.val (.ref o), .val (.int q), .unset] [(.ref o)] := s15
    |>.aloadN d5_43 rfl rfl
  obtain ⟨z1, ez1⟩ : ∃ z1 : Int32, z1 = zI - (1 : Int32) := ⟨_, rfl⟩
  have hz1 : z1.toInt = ((S.erase q.toInt).length : Int) := by rw [ez1, sub_ti (by omega) (by omega), hz]; omega
  have s17 : Sit p l e ({ frames := 3, cells := 1, slots := cap, locals := 110 } : Room) s m #[(.ref o), (.int q)] below meth c prog_149_method_4_code st n0 0 0 (fun hh => Exa Z hh o "reenact/trace/IntBits" ∧ Fld Z hh o "reenact/trace/IntBits" "words" "[J" (.ref v) ∧ Fld Z hh o "reenact/trace/IntBits" "greatest" "I" (.int gI) ∧ Fld Z hh o "reenact/trace/IntBits" "size" "I" (.int z1) ∧ Fld Z hh o "reenact/trace/IntBits" "base" "I" (.int bI) ∧ Fld Z hh o "reenact/trace/IntBits" "head" "I" (.int hI) ∧ AV Z hh v .long (ws1.map Value.long)) 44 #[.val (.ref o), .val (.int q), .unset] [(.ref o)] := by
    rw [ez1]
    exact s16
  have s18 : Sit p l e _ s m _ below meth c _ st n0 0 0 _ 47 #[.val (.ref o), .val (.int q), .unset] [(.int z1)] := s17
    |>.getf (.int z1) hZ hown (wi hw 21 rfl) (fun hh q => q.2.2.2.1) d5_44 rfl
  have hnd : (S.erase q.toInt).Nodup := hd.erase _
  by_cases hE : (S.erase q.toInt) = []
  · have ez0 : z1 = 0 := Int32.toInt_inj.mp (by rw [hz1, hE]; rfl)
    have s19 : Sit p l e _ s m _ below meth c _ st n0 0 0 _ 52 #[.val (.ref o), .val (.int q), .unset] [(.int (0 : Int32)), (.ref o)] := s18
      |>.ifN d5_47 ((neF (Classical.not_not.mp (show ¬ (¬ z1 = 0) from fun h => h ez0)))) rfl
      |>.aloadN d5_50 rfl rfl
      |>.iconst (0 : Int32) d5_51 rfl rfl
    have s20 : Sit p l e _ s m _ below meth c _ st n0 0 0 _ 55 #[.val (.ref o), .val (.int q), .unset] [] := s19
      |>.putf (C := "reenact/trace/IntBits") (P' := fun hh => Exa Z hh o "reenact/trace/IntBits" ∧ Fld Z hh o "reenact/trace/IntBits" "words" "[J" (.ref v) ∧ Fld Z hh o "reenact/trace/IntBits" "greatest" "I" (.int gI) ∧ Fld Z hh o "reenact/trace/IntBits" "size" "I" (.int z1) ∧ Fld Z hh o "reenact/trace/IntBits" "base" "I" (.int bI) ∧ Fld Z hh o "reenact/trace/IntBits" "head" "I" (.int (0 : Int32)) ∧ AV Z hh v .long (ws1.map Value.long)) .int hZ hown (wi hw 25 rfl) (go) (fun hh q => ⟨q.2.2.2.2.2.1, q.1⟩) (Or.inl (wi hw 26 rfl)) (wi hw 3 rfl) (by decide) rfl rfl (fun hh hh' q X => ⟨(q.1).wr X, (q.2.1).other X (Or.inr (sn_words_head hw)), (q.2.2.1).other X (Or.inr (sn_greatest_head hw)), (q.2.2.2.1).other X (Or.inr (sn_size_head hw)), (q.2.2.2.2.1).other X (Or.inr (sn_base_head hw)), (q.2.2.2.2.2.1).same X, (q.2.2.2.2.2.2).other X (neN (by omega))⟩) d5_52 rfl
    have s21 : Sit p l e _ s m _ below meth c _ st n0 0 0 _ 57 #[.val (.ref o), .val (.int q), .unset] [(.int (-1 : Int32)), (.ref o)] := s20
      |>.aloadN d5_55 rfl rfl
      |>.iconst (-1 : Int32) d5_56 rfl rfl
    have s22 : Sit p l e _ s m _ below meth c _ st n0 0 0 _ 60 #[.val (.ref o), .val (.int q), .unset] [] := s21
      |>.putf (C := "reenact/trace/IntBits") (P' := fun hh => Exa Z hh o "reenact/trace/IntBits" ∧ Fld Z hh o "reenact/trace/IntBits" "words" "[J" (.ref v) ∧ Fld Z hh o "reenact/trace/IntBits" "greatest" "I" (.int (-1 : Int32)) ∧ Fld Z hh o "reenact/trace/IntBits" "size" "I" (.int z1) ∧ Fld Z hh o "reenact/trace/IntBits" "base" "I" (.int bI) ∧ Fld Z hh o "reenact/trace/IntBits" "head" "I" (.int (0 : Int32)) ∧ AV Z hh v .long (ws1.map Value.long)) .int hZ hown (wi hw 14 rfl) (go) (fun hh q => ⟨q.2.2.1, q.1⟩) (Or.inl (wi hw 15 rfl)) (wi hw 3 rfl) (by decide) rfl rfl (fun hh hh' q X => ⟨(q.1).wr X, (q.2.1).other X (Or.inr (sn_words_greatest hw)), (q.2.2.1).same X, (q.2.2.2.1).other X (Or.inr (sn_size_greatest hw)), (q.2.2.2.2.1).other X (Or.inr (sn_base_greatest hw)), (q.2.2.2.2.2.1).other X (Or.inr (sn_head_greatest hw)), (q.2.2.2.2.2.2).other X (neN (by omega))⟩) d5_57 rfl
    have VE : Inv (S.erase q.toInt) bI.toInt (0 : Int32).toInt (-1 : Int32).toInt ws1 := ⟨hnd, b0, b1, by decide, by have e : (0 : Int32).toInt = 0 := rfl; omega, by omega, fun _ => ⟨rfl, rfl⟩, fun y hy => by rw [hE] at hy; simp at hy, fun h => absurd hE h, fun h => absurd hE h, hbits⟩
    have sB := s22.bound (cells' := 1) (slots' := cap) (by decide) (Nat.zero_le _)
    exact sB.retV d5_60 hret hlk (fun hh q => ⟨rfl, v, bI, (0 : Int32), (-1 : Int32), z1, ws1, ⟨gv, ne, hz1, VE, Or.inl (by omega), fun h => absurd hE h⟩, q.1, q.2.1, q.2.2.1, q.2.2.2.1, q.2.2.2.2.1, q.2.2.2.2.2.1, q.2.2.2.2.2.2⟩)
  · have zn : ¬ z1 = 0 := fun h => hE (List.length_eq_zero_iff.mp (by rw [h] at hz1; have e : (0 : Int32).toInt = 0 := rfl; omega))
    obtain ⟨y1, hy1⟩ := List.exists_mem_of_ne_nil _ hE
    have hsub : ∀ y ∈ (S.erase q.toInt), y ∈ S := fun y hy => List.mem_of_mem_erase hy
    have s23 : Sit p l e _ s m _ below meth c _ st n0 0 0 _ 61 #[.val (.ref o), .val (.int q), .unset] [] := s18
      |>.ifY d5_47 (neT (show ¬ z1 = 0 from zn)) (by decide) (by decide)
    have loop : ∀ (n : Nat) (hh1 : Int32), 0 ≤ hh1.toInt → (∀ y ∈ (S.erase q.toInt), bI.toInt + 64 * hh1.toInt ≤ y) → ((y1 - bI.toInt) / 64 - hh1.toInt).toNat ≤ n → Sit p l e ({ frames := 3, cells := 1, slots := cap, locals := 110 } : Room) s m #[(.ref o), (.int q)] below meth c prog_149_method_4_code st n0 0 0 (fun hh => Exa Z hh o "reenact/trace/IntBits" ∧ Fld Z hh o "reenact/trace/IntBits" "words" "[J" (.ref v) ∧ Fld Z hh o "reenact/trace/IntBits" "greatest" "I" (.int gI) ∧ Fld Z hh o "reenact/trace/IntBits" "size" "I" (.int z1) ∧ Fld Z hh o "reenact/trace/IntBits" "base" "I" (.int bI) ∧ Fld Z hh o "reenact/trace/IntBits" "head" "I" (.int hh1) ∧ AV Z hh v .long (ws1.map Value.long)) 61 #[.val (.ref o), .val (.int q), .unset] [] → ∃ hh2 : Int32, (hh1.toInt ≤ hh2.toInt ∧ (∀ y ∈ (S.erase q.toInt), bI.toInt + 64 * hh2.toInt ≤ y) ∧ ∃ y ∈ (S.erase q.toInt), y < bI.toInt + 64 * hh2.toInt + 64) ∧ Sit p l e ({ frames := 3, cells := 1, slots := cap, locals := 110 } : Room) s m #[(.ref o), (.int q)] below meth c prog_149_method_4_code st n0 0 0 (fun hh => Exa Z hh o "reenact/trace/IntBits" ∧ Fld Z hh o "reenact/trace/IntBits" "words" "[J" (.ref v) ∧ Fld Z hh o "reenact/trace/IntBits" "greatest" "I" (.int gI) ∧ Fld Z hh o "reenact/trace/IntBits" "size" "I" (.int z1) ∧ Fld Z hh o "reenact/trace/IntBits" "base" "I" (.int bI) ∧ Fld Z hh o "reenact/trace/IntBits" "head" "I" (.int hh2) ∧ AV Z hh v .long (ws1.map Value.long)) 88 #[.val (.ref o), .val (.int q), .unset] [] := by
      intro n
      induction n with
      | zero =>
        intro hh1 a1 a2 a3 q0
        have b3 := a2 y1 hy1
        have b4 := (hr y1 (hsub y1 hy1)).2
        obtain ⟨hn, ehn⟩ : ∃ hn : Nat, hh1.toInt = (hn : Int) := ⟨hh1.toInt.toNat, by omega⟩
        have hnl : hn < ws1.length := by omega
        have s24 : Sit p l e _ s m _ below meth c _ st n0 0 0 _ 62 #[.val (.ref o), .val (.int q), .unset] [(.ref o)] := q0
          |>.aloadN d5_61 rfl rfl
        have s25 : Sit p l e _ s m _ below meth c _ st n0 0 0 _ 66 #[.val (.ref o), .val (.int q), .unset] [(.ref o), (.ref v)] := s24
          |>.getf (.ref v) hZ hown (wi hw 12 rfl) (fun hh q => q.2.1) d5_62 rfl
          |>.aloadN d5_65 rfl rfl
        have s26 : Sit p l e _ s m _ below meth c _ st n0 0 0 _ 69 #[.val (.ref o), .val (.int q), .unset] [(.int hh1), (.ref v)] := s25
          |>.getf (.int hh1) hZ hown (wi hw 25 rfl) (fun hh q => q.2.2.2.2.2.1) d5_66 rfl
        have s27 : Sit p l e _ s m _ below meth c _ st n0 0 0 _ 72 #[.val (.ref o), .val (.int q), .unset] [(.int (lcmp3 (ws1.getD hn 0) (0 : Int64)))] := s26
          |>.laload (v := (ws1.getD hn 0)) hZ (by omega) (fun hh q => ⟨_, q.2.2.2.2.2.2, by rw [clamp_of ehn]; exact look_map hnl⟩) d5_69 rfl
          |>.lconst (0 : Int64) d5_70 rfl rfl
          |>.lcmp d5_71 rfl
        by_cases cz : ¬ (ws1.getD hn 0) = (0 : Int64)
        · have s28 : Sit p l e _ s m _ below meth c _ st n0 0 0 _ 88 #[.val (.ref o), .val (.int q), .unset] [] := s27
            |>.ifY d5_72 (lcT (cd := .ne) cz) (by decide) (by decide)
          obtain ⟨y, hy, c1, c2⟩ := head_some hbits hnl cz
          exact ⟨hh1, ⟨by omega, a2, y, hy, by omega⟩, s28⟩
        · have zh := zero_head hbits hnl (Classical.not_not.mp cz)
          have a4 : ∀ y ∈ (S.erase q.toInt), bI.toInt + 64 * (hh1.toInt + 1) ≤ y := fun y hy => by
            have q1 := a2 y hy
            have q2 := zh y hy
            omega
          have b5 := a4 y1 hy1
          exact absurd b5 (by omega)
      | succ n ih =>
        intro hh1 a1 a2 a3 q0
        have b3 := a2 y1 hy1
        have b4 := (hr y1 (hsub y1 hy1)).2
        obtain ⟨hn, ehn⟩ : ∃ hn : Nat, hh1.toInt = (hn : Int) := ⟨hh1.toInt.toNat, by omega⟩
        have hnl : hn < ws1.length := by omega
        have s29 : Sit p l e _ s m _ below meth c _ st n0 0 0 _ 62 #[.val (.ref o), .val (.int q), .unset] [(.ref o)] := q0
          |>.aloadN d5_61 rfl rfl
        have s30 : Sit p l e _ s m _ below meth c _ st n0 0 0 _ 66 #[.val (.ref o), .val (.int q), .unset] [(.ref o), (.ref v)] := s29
          |>.getf (.ref v) hZ hown (wi hw 12 rfl) (fun hh q => q.2.1) d5_62 rfl
          |>.aloadN d5_65 rfl rfl
        have s31 : Sit p l e _ s m _ below meth c _ st n0 0 0 _ 69 #[.val (.ref o), .val (.int q), .unset] [(.int hh1), (.ref v)] := s30
          |>.getf (.int hh1) hZ hown (wi hw 25 rfl) (fun hh q => q.2.2.2.2.2.1) d5_66 rfl
        have s32 : Sit p l e _ s m _ below meth c _ st n0 0 0 _ 72 #[.val (.ref o), .val (.int q), .unset] [(.int (lcmp3 (ws1.getD hn 0) (0 : Int64)))] := s31
          |>.laload (v := (ws1.getD hn 0)) hZ (by omega) (fun hh q => ⟨_, q.2.2.2.2.2.2, by rw [clamp_of ehn]; exact look_map hnl⟩) d5_69 rfl
          |>.lconst (0 : Int64) d5_70 rfl rfl
          |>.lcmp d5_71 rfl
        by_cases cz : ¬ (ws1.getD hn 0) = (0 : Int64)
        · have s33 : Sit p l e _ s m _ below meth c _ st n0 0 0 _ 88 #[.val (.ref o), .val (.int q), .unset] [] := s32
            |>.ifY d5_72 (lcT (cd := .ne) cz) (by decide) (by decide)
          obtain ⟨y, hy, c1, c2⟩ := head_some hbits hnl cz
          exact ⟨hh1, ⟨by omega, a2, y, hy, by omega⟩, s33⟩
        · have zh := zero_head hbits hnl (Classical.not_not.mp cz)
          have a4 : ∀ y ∈ (S.erase q.toInt), bI.toInt + 64 * (hh1.toInt + 1) ≤ y := fun y hy => by
            have q1 := a2 y hy
            have q2 := zh y hy
            omega
          have b5 := a4 y1 hy1
          have s34 : Sit p l e _ s m _ below meth c _ st n0 0 0 _ 77 #[.val (.ref o), .val (.int q), .unset] [(.ref o), (.ref o)] := s32
            |>.ifN d5_72 (lcF (cd := .ne) cz) rfl
            |>.aloadN d5_75 rfl rfl
            |>.dup d5_76 rfl rfl
          have s35 : Sit p l e _ s m _ below meth c _ st n0 0 0 _ 82 #[.val (.ref o), .val (.int q), .unset] [(.int (hh1 + (1 : Int32))), (.ref o)] := s34
            |>.getf (.int hh1) hZ hown (wi hw 25 rfl) (fun hh q => q.2.2.2.2.2.1) d5_77 rfl
            |>.iconst (1 : Int32) d5_80 rfl rfl
            |>.iadd d5_81 rfl
          have s36 : Sit p l e _ s m _ below meth c _ st n0 0 0 _ 85 #[.val (.ref o), .val (.int q), .unset] [] := s35
            |>.putf (C := "reenact/trace/IntBits") (P' := fun hh => Exa Z hh o "reenact/trace/IntBits" ∧ Fld Z hh o "reenact/trace/IntBits" "words" "[J" (.ref v) ∧ Fld Z hh o "reenact/trace/IntBits" "greatest" "I" (.int gI) ∧ Fld Z hh o "reenact/trace/IntBits" "size" "I" (.int z1) ∧ Fld Z hh o "reenact/trace/IntBits" "base" "I" (.int bI) ∧ Fld Z hh o "reenact/trace/IntBits" "head" "I" (.int (hh1 + (1 : Int32))) ∧ AV Z hh v .long (ws1.map Value.long)) .int hZ hown (wi hw 25 rfl) (go) (fun hh q => ⟨q.2.2.2.2.2.1, q.1⟩) (Or.inl (wi hw 26 rfl)) (wi hw 3 rfl) (by decide) rfl rfl (fun hh hh' q X => ⟨(q.1).wr X, (q.2.1).other X (Or.inr (sn_words_head hw)), (q.2.2.1).other X (Or.inr (sn_greatest_head hw)), (q.2.2.2.1).other X (Or.inr (sn_size_head hw)), (q.2.2.2.2.1).other X (Or.inr (sn_base_head hw)), (q.2.2.2.2.2.1).same X, (q.2.2.2.2.2.2).other X (neN (by omega))⟩) d5_82 rfl
          have s37 : Sit p l e _ s m _ below meth c _ st n0 0 0 _ 61 #[.val (.ref o), .val (.int q), .unset] [] := s36
            |>.goto d5_85 (by decide) (by decide)
          have eh1 : (hh1 + (1 : Int32)).toInt = hh1.toInt + 1 := by rw [add_ti (by omega) (by omega)]; omega
          obtain ⟨hh2, ⟨c1, c2, c3⟩, sq⟩ := ih (hh1 + (1 : Int32)) (by omega) (by rw [eh1]; exact a4) (by omega) s37
          exact ⟨hh2, ⟨by omega, c2, c3⟩, sq⟩
    obtain ⟨hh2, ⟨a1, a2, a3⟩, sL⟩ := loop ((y1 - bI.toInt) / 64 - hI.toInt).toNat hI h0' (fun y hy => (hr y (hsub y hy)).1) (Nat.le_refl _) s23
    obtain ⟨y2, hy2, c2⟩ := a3
    have b3 := a2 y2 hy2
    have b4 := (hr y2 (hsub y2 hy2)).2
    have hbits' := hbits
    have s38 : Sit p l e _ s m _ below meth c _ st n0 0 0 _ 89 #[.val (.ref o), .val (.int q), .unset] [(.ref o)] := sL
      |>.aloadN d5_88 rfl rfl
    have s39 : Sit p l e _ s m _ below meth c _ st n0 0 0 _ 93 #[.val (.ref o), .val (.int q), .unset] [(.ref o), (.int hh2)] := s38
      |>.getf (.int hh2) hZ hown (wi hw 25 rfl) (fun hh q => q.2.2.2.2.2.1) d5_89 rfl
      |>.aloadN d5_92 rfl rfl
    have el := ofNat_ti (n := ws1.length) (by omega)
    have eh := half_ti (x := Int32.ofNat ws1.length) (by omega)
    have s40 : Sit p l e _ s m _ below meth c _ st n0 0 0 _ 98 #[.val (.ref o), .val (.int q), .unset] [(.int (2 : Int32)), (.int (Int32.ofNat ws1.length)), (.int hh2)] := s39
      |>.getf (.ref v) hZ hown (wi hw 12 rfl) (fun hh q => q.2.1) d5_93 rfl
      |>.alen (n := ws1.length) (Int32.ofNat ws1.length) hZ (fun hh q => ⟨_, q.2.2.2.2.2.2, by rw [List.length_map]⟩) d5_96 rfl rfl
      |>.iconst (2 : Int32) d5_97 rfl rfl
    have s41 : Sit p l e _ s m _ below meth c _ st n0 0 0 _ 99 #[.val (.ref o), .val (.int q), .unset] [(.int ((Int32.ofNat ws1.length) / (2 : Int32))), (.int hh2)] := s40
      |>.idiv d5_98 (by decide) rfl
    by_cases cm : hh2.toInt < ((Int32.ofNat ws1.length) / (2 : Int32)).toInt
    · have s42 : Sit p l e _ s m _ below meth c _ st n0 0 0 _ 136 #[.val (.ref o), .val (.int q), .unset] [] := s41
        |>.icmpY d5_99 (cmpT (cd := .lt) cm) (by decide) (by decide)
      have VN : Inv (S.erase q.toInt) bI.toInt hh2.toInt gI.toInt ws1 := ⟨hnd, b0, b1, by omega, by omega, by omega, fun h => absurd h hE, fun y hy => ⟨a2 y hy, (hr y (hsub y hy)).2⟩, fun _ => ⟨by omega, g2⟩, fun _ => ⟨y2, hy2, c2⟩, hbits⟩
      have sB := s42.bound (cells' := 1) (slots' := cap) (by decide) (Nat.zero_le _)
      exact sB.retV d5_136 hret hlk (fun hh q => ⟨rfl, v, bI, hh2, gI, z1, ws1, ⟨gv, ne, hz1, VN, Or.inl (by omega), fun _ => rfl⟩, q.1, q.2.1, q.2.2.1, q.2.2.2.1, q.2.2.2.2.1, q.2.2.2.2.2.1, q.2.2.2.2.2.2⟩)
    · have hmv : 4 ≤ cap ∧ ∀ y ∈ (S.erase q.toInt), 2 * ((gI.toInt - y) / 64 + 2) ≤ (cap : Int) := by
        rcases hmov with ⟨y, hy, hall⟩ | h
        · exfalso
          obtain ⟨y0, hy0, hy1'⟩ := hm hS
          have d1 := hall y0 hy0
          have d2 := a2 y hy
          omega
        · exact h
      have hcy := hmv.2 y2 hy2
      have s43 : Sit p l e _ s m _ below meth c _ st n0 0 0 _ 103 #[.val (.ref o), .val (.int q), .unset] [(.ref o)] := s41
        |>.icmpN d5_99 (cmpF (cd := .lt) cm) rfl
        |>.aloadN d5_102 rfl rfl
      have s44 : Sit p l e _ s m _ below meth c _ st n0 0 0 _ 107 #[.val (.ref o), .val (.int q), .unset] [(.ref o), (.int gI)] := s43
        |>.getf (.int gI) hZ hown (wi hw 14 rfl) (fun hh q => q.2.2.1) d5_103 rfl
        |>.aloadN d5_106 rfl rfl
      have s45 : Sit p l e _ s m _ below meth c _ st n0 0 0 _ 113 #[.val (.ref o), .val (.int q), .unset] [(.int (64 : Int32)), (.int (gI - bI))] := s44
        |>.getf (.int bI) hZ hown (wi hw 23 rfl) (fun hh q => q.2.2.2.2.1) d5_107 rfl
        |>.isub d5_110 rfl
        |>.bipush (64 : Int32) d5_111 rfl rfl
      have s46 : Sit p l e _ s m _ below meth c _ st n0 0 0 _ 115 #[.val (.ref o), .val (.int q), .unset] [(.ref o), (.int ((gI - bI) / (64 : Int32)))] := s45
        |>.idiv d5_113 (by decide) rfl
        |>.aloadN d5_114 rfl rfl
      have s47 : Sit p l e _ s m _ below meth c _ st n0 0 0 _ 121 #[.val (.ref o), .val (.int q), .unset] [(.int ((((gI - bI) / (64 : Int32)) - hh2) + (1 : Int32)))] := s46
        |>.getf (.int hh2) hZ hown (wi hw 25 rfl) (fun hh q => q.2.2.2.2.2.1) d5_115 rfl
        |>.isub d5_118 rfl
        |>.iconst (1 : Int32) d5_119 rfl rfl
        |>.iadd d5_120 rfl
      obtain ⟨spI, e_spI, s48⟩ : ∃ spI : Int32, spI = ((((gI - bI) / (64 : Int32)) - hh2) + (1 : Int32)) ∧ Sit p l e _ s m _ below meth c _ st n0 0 0 _ 121 #[.val (.ref o), .val (.int q), .unset] [(.int spI)] := ⟨_, rfl, s47⟩
      have i1 := idx_ti (x := gI) (b := bI) b0 (by omega)
      have rg := rng32 gI
      have esI : spI.toInt = (gI.toInt - bI.toInt) / 64 - hh2.toInt + 1 := by
        rw [e_spI]
        have a1 := sub_ti (x := (gI - bI) / (64 : Int32)) (y := hh2) (by omega) (by omega)
        have a3 := add_ti (x := (gI - bI) / (64 : Int32) - hh2) (y := (1 : Int32)) (by omega) (by omega)
        omega
      obtain ⟨sp, esp⟩ : ∃ sp : Nat, (sp : Int) = (gI.toInt - bI.toInt) / 64 - hh2.toInt + 1 := ⟨((gI.toInt - bI.toInt) / 64 - hh2.toInt + 1).toNat, by omega⟩
      have s49 : Sit p l e _ s m _ below meth c _ st n0 0 0 _ 126 #[.val (.ref o), .val (.int q), .val (.int spI)] [(.int spI), (.int (2 : Int32)), (.int (4 : Int32)), (.ref o)] := s48
        |>.istoreN #[.val (.ref o), .val (.int q), .val (.int spI)] d5_121 rfl rfl
        |>.aloadN d5_122 rfl rfl
        |>.iconst (4 : Int32) d5_123 rfl rfl
        |>.iconst (2 : Int32) d5_124 rfl rfl
        |>.iloadN d5_125 rfl rfl
      obtain ⟨r51, s50⟩ := Sit.callS (y := (⟨"java/lang/Integer", "highestOneBit", "(I)I"⟩ : MethodName)) (W := 3) (Q := fun rv_ hh => ∃ ex2 : Nat, (rv_ = some (.int (Int32.ofNat (2 ^ ex2))) ∧ (ex2 ≤ 30 ∧ ((2 ^ ex2 : Nat) : Int) ≤ spI.toInt ∧ spI.toInt < ((2 ^ (ex2 + 1) : Nat) : Int))) ∧ (fun hh => Exa Z hh o "reenact/trace/IntBits" ∧ Fld Z hh o "reenact/trace/IntBits" "words" "[J" (.ref v) ∧ Fld Z hh o "reenact/trace/IntBits" "greatest" "I" (.int gI) ∧ Fld Z hh o "reenact/trace/IntBits" "size" "I" (.int z1) ∧ Fld Z hh o "reenact/trace/IntBits" "base" "I" (.int bI) ∧ Fld Z hh o "reenact/trace/IntBits" "head" "I" (.int hh2) ∧ AV Z hh v .long (ws1.map Value.long)) hh) [(.int spI)] [(.int (2 : Int32)), (.int (4 : Int32)), (.ref o)] s49 hZ hown (wi hw 39 rfl) (wi hw 40 rfl) (wi hw 41 rfl) (wi hw 42 rfl) (by first | decide | exact Nat.le_of_ble_eq_true rfl | (show _ ≤ 110; decide)) (fun h1 hP hn => (rmHob l Z a0 hw [] _ h1 n0 hn (by omega)).mono fun rv_ hh q => by
          obtain ⟨⟨n, e1, e2⟩, e3⟩ := q
          exact ⟨n, ⟨e1, e2⟩, e3 ▸ hP⟩) hml rfl (lenOf pd_0 rfl) d5_126 (Nat.le_of_eq rfl) (by first | decide | exact Nat.le_of_ble_eq_true rfl | (show _ ≤ 110; decide)) (by first | decide | exact Nat.le_of_ble_eq_true rfl | (show _ ≤ 110; decide)) (by first | decide | exact Nat.le_of_ble_eq_true rfl | (show _ ≤ 110; decide)) (by first | decide | exact Nat.le_of_ble_eq_true rfl | (show _ ≤ 110; decide)) (pc' := 129) rfl
      obtain ⟨ex2, s53⟩ := s50.ex
      obtain ⟨_, ⟨er51, spr51⟩, _⟩ := s53.facts
      subst er51
      have s52 : Sit p l e _ s m _ below meth c _ st n0 0 0 (fun hh => Exa Z hh o "reenact/trace/IntBits" ∧ Fld Z hh o "reenact/trace/IntBits" "words" "[J" (.ref v) ∧ Fld Z hh o "reenact/trace/IntBits" "greatest" "I" (.int gI) ∧ Fld Z hh o "reenact/trace/IntBits" "size" "I" (.int z1) ∧ Fld Z hh o "reenact/trace/IntBits" "base" "I" (.int bI) ∧ Fld Z hh o "reenact/trace/IntBits" "head" "I" (.int hh2) ∧ AV Z hh v .long (ws1.map Value.long)) 129 #[.val (.ref o), .val (.int q), .val (.int spI)] [(.int (Int32.ofNat (2 ^ ex2))), (.int (2 : Int32)), (.int (4 : Int32)), (.ref o)] := s53.mono fun _ q => q.2
      obtain ⟨p1, p2, p3⟩ := spr51
      obtain ⟨pe, epe⟩ : ∃ pe : Nat, pe = 2 ^ ex2 := ⟨_, rfl⟩
      rw [Nat.pow_succ, ← epe] at p3
      rw [← epe] at p2
      have ep := ofNat_ti (n := pe) (by omega)
      have s54 : Sit p l e ({ frames := 3, cells := 1, slots := cap, locals := 110 } : Room) s m #[(.ref o), (.int q)] below meth c prog_149_method_4_code st n0 0 0 (fun hh => Exa Z hh o "reenact/trace/IntBits" ∧ Fld Z hh o "reenact/trace/IntBits" "words" "[J" (.ref v) ∧ Fld Z hh o "reenact/trace/IntBits" "greatest" "I" (.int gI) ∧ Fld Z hh o "reenact/trace/IntBits" "size" "I" (.int z1) ∧ Fld Z hh o "reenact/trace/IntBits" "base" "I" (.int bI) ∧ Fld Z hh o "reenact/trace/IntBits" "head" "I" (.int hh2) ∧ AV Z hh v .long (ws1.map Value.long)) 129 #[.val (.ref o), .val (.int q), .val (.int spI)] [(.int (Int32.ofNat pe)), (.int (2 : Int32)), (.int (4 : Int32)), (.ref o)] := by
        have q := s52
        rw [← epe] at q
        exact q
      have s55 : Sit p l e _ s m _ below meth c _ st n0 0 0 _ 130 #[.val (.ref o), .val (.int q), .val (.int spI)] [(.int ((2 : Int32) * (Int32.ofNat pe))), (.int (4 : Int32)), (.ref o)] := s54
        |>.imul d5_129 rfl
      have m2 := mul_ti (x := (2 : Int32)) (y := Int32.ofNat pe) (by have : (2 : Int32).toInt = 2 := rfl; rw [this, ep]; omega) (by have : (2 : Int32).toInt = 2 := rfl; rw [this, ep]; omega)
      rw [ti2, ep] at m2
      obtain ⟨r57, s56⟩ := Sit.callS (y := (⟨"java/lang/Math", "max", "(II)I"⟩ : MethodName)) (W := 1) (Q := fun rv_ hh => (rv_ = some (.int (mxF (4 : Int32) ((2 : Int32) * (Int32.ofNat pe))))) ∧ (fun hh => Exa Z hh o "reenact/trace/IntBits" ∧ Fld Z hh o "reenact/trace/IntBits" "words" "[J" (.ref v) ∧ Fld Z hh o "reenact/trace/IntBits" "greatest" "I" (.int gI) ∧ Fld Z hh o "reenact/trace/IntBits" "size" "I" (.int z1) ∧ Fld Z hh o "reenact/trace/IntBits" "base" "I" (.int bI) ∧ Fld Z hh o "reenact/trace/IntBits" "head" "I" (.int hh2) ∧ AV Z hh v .long (ws1.map Value.long)) hh) [(.int (4 : Int32)), (.int ((2 : Int32) * (Int32.ofNat pe)))] [(.ref o)] s55 hZ hown (wi hw 48 rfl) (wi hw 49 rfl) (wi hw 50 rfl) (wi hw 51 rfl) (by first | decide | exact Nat.le_of_ble_eq_true rfl | (show _ ≤ 110; decide)) (fun h1 hP hn => (rmMax l Z a0 hw [] _ _ h1 n0 hn).mono fun rv_ hh q => ⟨q.1, q.2 ▸ hP⟩) hml rfl (lenOf pd_1 rfl) d5_130 (Nat.le_of_eq rfl) (by first | decide | exact Nat.le_of_ble_eq_true rfl | (show _ ≤ 110; decide)) (by first | decide | exact Nat.le_of_ble_eq_true rfl | (show _ ≤ 110; decide)) (by first | decide | exact Nat.le_of_ble_eq_true rfl | (show _ ≤ 110; decide)) (by first | decide | exact Nat.le_of_ble_eq_true rfl | (show _ ≤ 110; decide)) (pc' := 133) rfl
      obtain ⟨_, er57, _⟩ := s56.facts
      subst er57
      have s58 : Sit p l e _ s m _ below meth c _ st n0 0 0 (fun hh => Exa Z hh o "reenact/trace/IntBits" ∧ Fld Z hh o "reenact/trace/IntBits" "words" "[J" (.ref v) ∧ Fld Z hh o "reenact/trace/IntBits" "greatest" "I" (.int gI) ∧ Fld Z hh o "reenact/trace/IntBits" "size" "I" (.int z1) ∧ Fld Z hh o "reenact/trace/IntBits" "base" "I" (.int bI) ∧ Fld Z hh o "reenact/trace/IntBits" "head" "I" (.int hh2) ∧ AV Z hh v .long (ws1.map Value.long)) 133 #[.val (.ref o), .val (.int q), .val (.int spI)] [(.int (mxF (4 : Int32) ((2 : Int32) * (Int32.ofNat pe)))), (.ref o)] := s56.mono fun _ q => q.2
      obtain ⟨lnI, e_lnI, s59⟩ : ∃ lnI : Int32, lnI = (mxF (4 : Int32) ((2 : Int32) * (Int32.ofNat pe))) ∧ Sit p l e _ s m _ below meth c _ st n0 0 0 _ 133 #[.val (.ref o), .val (.int q), .val (.int spI)] [(.int lnI), (.ref o)] := ⟨_, rfl, s58⟩
      have mx := mx_ti (4 : Int32) ((2 : Int32) * Int32.ofNat pe)
      rw [← e_lnI, ti4, m2] at mx
      obtain ⟨ln, eln⟩ : ∃ ln : Nat, lnI.toInt = (ln : Int) := ⟨lnI.toInt.toNat, by omega⟩
      have lnc : ln ≤ cap := by omega
      obtain ⟨r61, s60⟩ := Sit.callP (C := "reenact/trace/IntBits") (y := (⟨"reenact/trace/IntBits", "moveDown", "(I)V"⟩ : MethodName)) (W := 0) (Q := fun rv_ hh => ∃ u : Addr, ∃ b2 : Int32, (rv_ = none ∧ (n0 ≤ u ∧ @Ne Nat o u ∧ b2.toInt = bI.toInt + 64 * hh2.toInt)) ∧ (fun hh => Exa Z hh o "reenact/trace/IntBits" ∧ Fld Z hh o "reenact/trace/IntBits" "words" "[J" (.ref u) ∧ Fld Z hh o "reenact/trace/IntBits" "greatest" "I" (.int gI) ∧ Fld Z hh o "reenact/trace/IntBits" "size" "I" (.int z1) ∧ Fld Z hh o "reenact/trace/IntBits" "base" "I" (.int b2) ∧ Fld Z hh o "reenact/trace/IntBits" "head" "I" (.int (0 : Int32)) ∧ AV Z hh u .long (((ws1.drop hh2.toInt.toNat).take sp ++ List.replicate (ln - sp) 0).map Value.long)) hh) [(.int lnI)] [] s59 hZ hown (wi hw 52 rfl) (wi hw 53 rfl) (wi hw 54 rfl) (wi hw 3 rfl) (wi hw 55 rfl) (wi hw 4 rfl) (by first | decide | exact Nat.le_of_ble_eq_true rfl | (show _ ≤ 110; decide)) (fun hh q => q.1) (fun h1 hP hn => (rmM l Z a0 hw [] o lnI v bI hh2 gI z1 ws1 ln sp cap h1 n0 hn go ne zn b0 (by omega) (by omega) eln esp (by omega) (by omega) (by omega) lnc hcap hP).mono fun rv_ hh q => by
          obtain ⟨e1, v', b', e2, e3⟩ := q
          exact ⟨v', b', ⟨e1, e2⟩, e3⟩) hml rfl (lenOf pd_2 rfl) d5_133 (Nat.le_of_eq rfl) (by first | decide | exact Nat.le_of_ble_eq_true rfl | (show _ ≤ 110; decide)) (by first | decide | exact Nat.le_of_ble_eq_true rfl | (show _ ≤ 110; decide)) (by first | decide | exact Nat.le_of_ble_eq_true rfl | (show _ ≤ 110; decide)) (Nat.le_of_eq (Nat.zero_add cap)) (pc' := 136) rfl
      obtain ⟨u, s63⟩ := s60.ex
      obtain ⟨b2, s64⟩ := s63.ex
      obtain ⟨_, ⟨er61, spr61⟩, _⟩ := s64.facts
      subst er61
      have s62 : Sit p l e _ s m _ below meth c _ st n0 1 cap (fun hh => Exa Z hh o "reenact/trace/IntBits" ∧ Fld Z hh o "reenact/trace/IntBits" "words" "[J" (.ref u) ∧ Fld Z hh o "reenact/trace/IntBits" "greatest" "I" (.int gI) ∧ Fld Z hh o "reenact/trace/IntBits" "size" "I" (.int z1) ∧ Fld Z hh o "reenact/trace/IntBits" "base" "I" (.int b2) ∧ Fld Z hh o "reenact/trace/IntBits" "head" "I" (.int (0 : Int32)) ∧ AV Z hh u .long (((ws1.drop hh2.toInt.toNat).take sp ++ List.replicate (ln - sp) 0).map Value.long)) 136 #[.val (.ref o), .val (.int q), .val (.int spI)] [] := (s64.bound (Nat.le_refl _) (Nat.le_of_eq (Nat.zero_add cap))).mono fun _ q => q.2
      obtain ⟨g_u, nu, eb2⟩ := spr61
      have VM0 := Inv.moved hnd b0 b1 (show 0 ≤ hh2.toInt by omega) hE (fun y hy => ⟨a2 y hy, (hr y (hsub y hy)).2⟩) (show (gI.toInt - bI.toInt) / 64 < (ws1.length : Int) by omega) ⟨y2, hy2, c2⟩ hbits esp (show sp ≤ ln by omega) (show 4 ≤ ln by omega)
      rw [← eb2] at VM0
      have l2 : ((ws1.drop hh2.toInt.toNat).take sp ++ List.replicate (ln - sp) 0).length = ln := by simp only [List.length_append, List.length_take, List.length_drop, List.length_replicate]; omega
      exact s62.retV d5_136 hret hlk (fun hh q => ⟨rfl, u, b2, (0 : Int32), gI, z1, ((ws1.drop hh2.toInt.toNat).take sp ++ List.replicate (ln - sp) 0), ⟨g_u, nu, hz1, VM0, Or.inr (by omega), fun _ => rfl⟩, q.1, q.2.1, q.2.2.1, q.2.2.2.1, q.2.2.2.2.1, q.2.2.2.2.2.1, q.2.2.2.2.2.2⟩)
theorem pn_rm0 : plainName "reenact/trace/IntBitsContainsPinLaw" = true := by first | (simp [plainName, overriddenIn]; done) | decide +kernel
theorem ef_rm0 (m : MethodId) (u0 : Int32) (u1 : Int64) (u3 : Int32) (u4 : Int32) (u5 : Int32) : entryFrame m #[(.int u0), (.long u1), (.int u3), (.int u4), (.int u5)] maxLocals = mkF m 0 #[.val (.int u0), .val (.long u1), .second, .val (.int u3), .val (.int u4), .val (.int u5), .unset, .unset, .unset, .unset, .unset, .unset, .unset, .unset, .unset, .unset, .unset, .unset, .unset, .unset, .unset, .unset, .unset, .unset, .unset, .unset, .unset, .unset] [] := by first | (simp [entryFrame, mkF, argsToLocals, Value.category, maxLocals]; done) | rfl
set_option maxRecDepth 65536 in
set_option maxHeartbeats 40000000 in
theorem rm0 (l : Launch) (Z : State) (a0 : Array Value) (hw : ∀ d ∈ tables_1, d.before a0 Z = true) (wcs : List Jvm.Cond) (u0 : Int32) (u1 : Int64) (u3 : Int32) (u4 : Int32) (u5 : Int32)  (h0 : Heap) (n0 : Nat) (Z0 : n0 ≤ h0.size)  : Met1 l x code maxLocals ret wcs room_1 Z #[(.int u0), (.long u1), (.int u3), (.int u4), (.int u5)] h0 n0 (fun v hh => v = some (.int 1)) := by
  refine Met1.of (L0 := #[.val (.int u0), .val (.long u1), .second, .val (.int u3), .val (.int u4), .val (.int u5), .unset, .unset, .unset, .unset, .unset, .unset, .unset, .unset, .unset, .unset, .unset, .unset, .unset, .unset, .unset, .unset, .unset, .unset, .unset, .unset, .unset, .unset]) (plainFor_of_name pn_rm0) (fun m => ef_rm0 m u0 u1 u3 u4 u5) Z0 ?_
  intro p e s m below meth c st s0 hZ hown hret hlk hnm hml
  have hown : s.vm.findClass "reenact/trace/IntBitsContainsPinLaw" = some m.cls := hown
  have hret : meth.sig.returnType = some .boolean := hret
  have hml : c.maxLocals = 28 := hml
  have s1 : Sit p l e _ s m _ below meth c _ st n0 0 0 (fun hh => True) 0 #[.val (.int u0), .val (.long u1), .second, .val (.int u3), .val (.int u4), .val (.int u5), .unset, .unset, .unset, .unset, .unset, .unset, .unset, .unset, .unset, .unset, .unset, .unset, .unset, .unset, .unset, .unset, .unset, .unset, .unset, .unset, .unset, .unset] [] := s0.mono fun hh q => trivial
  have s2 : Sit p l e _ s m _ below meth c _ st n0 0 0 _ 3 #[.val (.int u0), .val (.long u1), .second, .val (.int u3), .val (.int u4), .val (.int u5), .unset, .unset, .unset, .unset, .unset, .unset, .unset, .unset, .unset, .unset, .unset, .unset, .unset, .unset, .unset, .unset, .unset, .unset, .unset, .unset, .unset, .unset] [(.int (u3 &&& (3 : Int32)))] := s1
    |>.iloadN at_0 rfl rfl
    |>.iconst (3 : Int32) at_1 rfl rfl
    |>.iand at_2 rfl
  obtain ⟨n, e_n, s3⟩ : ∃ n : Int32, n = (u3 &&& (3 : Int32)) ∧ Sit p l e _ s m _ below meth c _ st n0 0 0 _ 3 #[.val (.int u0), .val (.long u1), .second, .val (.int u3), .val (.int u4), .val (.int u5), .unset, .unset, .unset, .unset, .unset, .unset, .unset, .unset, .unset, .unset, .unset, .unset, .unset, .unset, .unset, .unset, .unset, .unset, .unset, .unset, .unset, .unset] [(.int n)] := ⟨_, rfl, s2⟩
  have s4 : Sit p l e _ s m _ below meth c _ st n0 0 0 _ 9 #[.val (.int u0), .val (.long u1), .second, .val (.int u3), .val (.int u4), .val (.int u5), .val (.int n), .unset, .unset, .unset, .unset, .unset, .unset, .unset, .unset, .unset, .unset, .unset, .unset, .unset, .unset, .unset, .unset, .unset, .unset, .unset, .unset, .unset] [(.int (u0 &&& (1073741823 : Int32)))] := s3
    |>.istore #[.val (.int u0), .val (.long u1), .second, .val (.int u3), .val (.int u4), .val (.int u5), .val (.int n), .unset, .unset, .unset, .unset, .unset, .unset, .unset, .unset, .unset, .unset, .unset, .unset, .unset, .unset, .unset, .unset, .unset, .unset, .unset, .unset, .unset] at_3 rfl rfl
    |>.iloadN at_5 rfl rfl
    |>.ldc hZ hown (wi hw 0 rfl) at_6 rfl
    |>.iand at_8 rfl
  obtain ⟨xa, e_xa, s5⟩ : ∃ xa : Int32, xa = (u0 &&& (1073741823 : Int32)) ∧ Sit p l e _ s m _ below meth c _ st n0 0 0 _ 9 #[.val (.int u0), .val (.long u1), .second, .val (.int u3), .val (.int u4), .val (.int u5), .val (.int n), .unset, .unset, .unset, .unset, .unset, .unset, .unset, .unset, .unset, .unset, .unset, .unset, .unset, .unset, .unset, .unset, .unset, .unset, .unset, .unset, .unset] [(.int xa)] := ⟨_, rfl, s4⟩
  have s6 : Sit p l e _ s m _ below meth c _ st n0 0 0 _ 22 #[.val (.int u0), .val (.long u1), .second, .val (.int u3), .val (.int u4), .val (.int u5), .val (.int n), .val (.int xa), .unset, .unset, .unset, .unset, .unset, .unset, .unset, .unset, .unset, .unset, .unset, .unset, .unset, .unset, .unset, .unset, .unset, .unset, .unset, .unset] [(.int ((xa + (u1 &&& (4095 : Int64)).toInt32) + (1 : Int32)))] := s5
    |>.istore #[.val (.int u0), .val (.long u1), .second, .val (.int u3), .val (.int u4), .val (.int u5), .val (.int n), .val (.int xa), .unset, .unset, .unset, .unset, .unset, .unset, .unset, .unset, .unset, .unset, .unset, .unset, .unset, .unset, .unset, .unset, .unset, .unset, .unset, .unset] at_9 rfl rfl
    |>.iload at_11 rfl rfl
    |>.lloadN at_13 rfl rfl
    |>.ldc2 hZ hown (wi hw 1 rfl) at_14 rfl
    |>.land at_17 rfl
    |>.l2i at_18 rfl
    |>.iadd at_19 rfl
    |>.iconst (1 : Int32) at_20 rfl rfl
    |>.iadd at_21 rfl
  obtain ⟨xb, e_xb, s7⟩ : ∃ xb : Int32, xb = ((xa + (u1 &&& (4095 : Int64)).toInt32) + (1 : Int32)) ∧ Sit p l e _ s m _ below meth c _ st n0 0 0 _ 22 #[.val (.int u0), .val (.long u1), .second, .val (.int u3), .val (.int u4), .val (.int u5), .val (.int n), .val (.int xa), .unset, .unset, .unset, .unset, .unset, .unset, .unset, .unset, .unset, .unset, .unset, .unset, .unset, .unset, .unset, .unset, .unset, .unset, .unset, .unset] [(.int xb)] := ⟨_, rfl, s6⟩
  have s8 : Sit p l e _ s m _ below meth c _ st n0 0 0 _ 38 #[.val (.int u0), .val (.long u1), .second, .val (.int u3), .val (.int u4), .val (.int u5), .val (.int n), .val (.int xa), .val (.int xb), .unset, .unset, .unset, .unset, .unset, .unset, .unset, .unset, .unset, .unset, .unset, .unset, .unset, .unset, .unset, .unset, .unset, .unset, .unset] [(.int ((xb + ((ushr64 u1 (12 : Int32)) &&& (4095 : Int64)).toInt32) + (1 : Int32)))] := s7
    |>.istore #[.val (.int u0), .val (.long u1), .second, .val (.int u3), .val (.int u4), .val (.int u5), .val (.int n), .val (.int xa), .val (.int xb), .unset, .unset, .unset, .unset, .unset, .unset, .unset, .unset, .unset, .unset, .unset, .unset, .unset, .unset, .unset, .unset, .unset, .unset, .unset] at_22 rfl rfl
    |>.iload at_24 rfl rfl
    |>.lloadN at_26 rfl rfl
    |>.bipush (12 : Int32) at_27 rfl rfl
    |>.lushr at_29 rfl
    |>.ldc2 hZ hown (wi hw 1 rfl) at_30 rfl
    |>.land at_33 rfl
    |>.l2i at_34 rfl
    |>.iadd at_35 rfl
    |>.iconst (1 : Int32) at_36 rfl rfl
    |>.iadd at_37 rfl
  obtain ⟨xc, e_xc, s9⟩ : ∃ xc : Int32, xc = ((xb + ((ushr64 u1 (12 : Int32)) &&& (4095 : Int64)).toInt32) + (1 : Int32)) ∧ Sit p l e _ s m _ below meth c _ st n0 0 0 _ 38 #[.val (.int u0), .val (.long u1), .second, .val (.int u3), .val (.int u4), .val (.int u5), .val (.int n), .val (.int xa), .val (.int xb), .unset, .unset, .unset, .unset, .unset, .unset, .unset, .unset, .unset, .unset, .unset, .unset, .unset, .unset, .unset, .unset, .unset, .unset, .unset] [(.int xc)] := ⟨_, rfl, s8⟩
  have s10 : Sit p l e _ s m _ below meth c _ st n0 0 0 _ 51 #[.val (.int u0), .val (.long u1), .second, .val (.int u3), .val (.int u4), .val (.int u5), .val (.int n), .val (.int xa), .val (.int xb), .val (.int xc), .unset, .unset, .unset, .unset, .unset, .unset, .unset, .unset, .unset, .unset, .unset, .unset, .unset, .unset, .unset, .unset, .unset, .unset] [(.int (((ushr64 u1 (24 : Int32)) &&& (4095 : Int64)).toInt32 + (1 : Int32)))] := s9
    |>.istore #[.val (.int u0), .val (.long u1), .second, .val (.int u3), .val (.int u4), .val (.int u5), .val (.int n), .val (.int xa), .val (.int xb), .val (.int xc), .unset, .unset, .unset, .unset, .unset, .unset, .unset, .unset, .unset, .unset, .unset, .unset, .unset, .unset, .unset, .unset, .unset, .unset] at_38 rfl rfl
    |>.lloadN at_40 rfl rfl
    |>.bipush (24 : Int32) at_41 rfl rfl
    |>.lushr at_43 rfl
    |>.ldc2 hZ hown (wi hw 1 rfl) at_44 rfl
    |>.land at_47 rfl
    |>.l2i at_48 rfl
    |>.iconst (1 : Int32) at_49 rfl rfl
    |>.iadd at_50 rfl
  obtain ⟨g4, e_g4, s11⟩ : ∃ g4 : Int32, g4 = (((ushr64 u1 (24 : Int32)) &&& (4095 : Int64)).toInt32 + (1 : Int32)) ∧ Sit p l e _ s m _ below meth c _ st n0 0 0 _ 51 #[.val (.int u0), .val (.long u1), .second, .val (.int u3), .val (.int u4), .val (.int u5), .val (.int n), .val (.int xa), .val (.int xb), .val (.int xc), .unset, .unset, .unset, .unset, .unset, .unset, .unset, .unset, .unset, .unset, .unset, .unset, .unset, .unset, .unset, .unset, .unset, .unset] [(.int g4)] := ⟨_, rfl, s10⟩
  have ra : 0 ≤ xa.toInt ∧ xa.toInt ≤ 1073741823 := by rw [e_xa]; exact m30 _
  have one : (1 : Int32).toInt = 1 := rfl
  have q1 := gap_rng u1
  have q2 := gap_rng (ushr64 u1 (12 : Int32))
  have q3 := gap_rng (ushr64 u1 (24 : Int32))
  have rb : xa.toInt < xb.toInt ∧ xb.toInt ≤ xa.toInt + 4096 := by
    rw [e_xb]
    have a1 := add_ti (x := xa) (y := (u1 &&& (4095 : Int64)).toInt32) (by omega) (by omega)
    have a2 := add_ti (x := xa + (u1 &&& (4095 : Int64)).toInt32) (y := (1 : Int32)) (by omega) (by omega)
    omega
  have rc : xb.toInt < xc.toInt ∧ xc.toInt ≤ xb.toInt + 4096 := by
    rw [e_xc]
    have a1 := add_ti (x := xb) (y := (ushr64 u1 (12 : Int32) &&& (4095 : Int64)).toInt32) (by omega) (by omega)
    have a2 := add_ti (x := xb + (ushr64 u1 (12 : Int32) &&& (4095 : Int64)).toInt32) (y := (1 : Int32)) (by omega) (by omega)
    omega
  have rg : 1 ≤ g4.toInt ∧ g4.toInt ≤ 4096 := by
    rw [e_g4]
    have a1 := add_ti (x := (ushr64 u1 (24 : Int32) &&& (4095 : Int64)).toInt32) (y := (1 : Int32)) (by omega) (by omega)
    omega
  have tail : ∀ (n' rA rB rC rv ex nr cs hA hB hC em hi ee : Int32) (o v : Addr) (bI hI gI zI : Int32) (ws : List Int64) (S : List Int), n0 ≤ o → n0 ≤ v → @Ne Nat o v → Inv S bI.toInt hI.toInt gI.toInt ws → zI.toInt = (S.length : Int) → S.length < 900 → ws.length ≤ 388 → (∀ y : Int32, y.toInt ∈ S ↔ ((¬ hA = 0 ∧ y = xa) ∨ (¬ hB = 0 ∧ y = xb) ∨ (¬ hC = 0 ∧ y = xc))) → (∀ y ∈ S, xa.toInt ≤ y) → (ex = 0 ∨ ex = 1) → gI.toInt < ee.toInt → 0 ≤ ee.toInt → (S = [] ∨ ee.toInt ≤ xa.toInt + 12288) → Sit p l e room_1 s m #[(.int u0), (.long u1), (.int u3), (.int u4), (.int u5)] below meth c code st n0 12 560 (fun hh => Exa Z hh o "reenact/trace/IntBits" ∧ Fld Z hh o "reenact/trace/IntBits" "words" "[J" (.ref v) ∧ Fld Z hh o "reenact/trace/IntBits" "greatest" "I" (.int gI) ∧ Fld Z hh o "reenact/trace/IntBits" "size" "I" (.int zI) ∧ Fld Z hh o "reenact/trace/IntBits" "base" "I" (.int bI) ∧ Fld Z hh o "reenact/trace/IntBits" "head" "I" (.int hI) ∧ AV Z hh v .long (ws.map Value.long)) 431 #[.val (.int u0), .val (.long u1), .second, .val (.int u3), .val (.int u4), .val (.int u5), .val (.int n'), .val (.int xa), .val (.int xb), .val (.int xc), .val (.int g4), .val (.int rA), .val (.int rB), .val (.int rC), .val (.int rv), .val (.int ex), .val (.int nr), .val (.int cs), .val (.int hA), .val (.int hB), .val (.int hC), .val (.int em), .val (.int hi), .val (.int ee), .val (.ref o), .unset, .unset, .unset] [] → Out p e below s st n0 24 1024 (fun v hh => v = some (.int 1)) := by
    intro n' rA rB rC rv ex nr cs hA hB hC em hi ee o v bI hI gI zI ws S go gv ne V hz hL hl hS hmin hex hge he0 hec q0
    have s12 : Sit p l e _ s m _ below meth c _ st n0 12 560 _ 433 #[.val (.int u0), .val (.long u1), .second, .val (.int u3), .val (.int u4), .val (.int u5), .val (.int n'), .val (.int xa), .val (.int xb), .val (.int xc), .val (.int g4), .val (.int rA), .val (.int rB), .val (.int rC), .val (.int rv), .val (.int ex), .val (.int nr), .val (.int cs), .val (.int hA), .val (.int hB), .val (.int hC), .val (.int em), .val (.int hi), .val (.int ee), .val (.ref o), .unset, .unset, .unset] [(.int ex)] := q0
      |>.iload at_431 rfl rfl
    rcases hex with rfl | rfl
    · have s13 : Sit p l e _ s m _ below meth c _ st n0 12 560 (fun hh => Exa Z hh o "reenact/trace/IntBits" ∧ Fld Z hh o "reenact/trace/IntBits" "words" "[J" (.ref v) ∧ Fld Z hh o "reenact/trace/IntBits" "greatest" "I" (.int gI) ∧ Fld Z hh o "reenact/trace/IntBits" "size" "I" (.int zI) ∧ Fld Z hh o "reenact/trace/IntBits" "base" "I" (.int bI) ∧ Fld Z hh o "reenact/trace/IntBits" "head" "I" (.int hI) ∧ AV Z hh v .long (ws.map Value.long)) 433 #[.val (.int u0), .val (.long u1), .second, .val (.int u3), .val (.int u4), .val (.int u5), .val (.int n'), .val (.int xa), .val (.int xb), .val (.int xc), .val (.int g4), .val (.int rA), .val (.int rB), .val (.int rC), .val (.int rv), .val (.int (0 : Int32)), .val (.int nr), .val (.int cs), .val (.int hA), .val (.int hB), .val (.int hC), .val (.int em), .val (.int hi), .val (.int ee), .val (.ref o), .unset, .unset, .unset] [(.int (0 : Int32))] := s12
      have VV := V
      have zz := hz
      have mem : ∀ y : Int32, y.toInt ∈ S ↔ ((¬ hA = 0 ∧ y = xa) ∨ ((¬ hB = 0 ∧ y = xb) ∨ ((¬ hC = 0 ∧ y = xc) ∨ (¬ (0 : Int32) = 0 ∧ y = ee)))) := fun y => by rw [hS y]; simp
      have s14 : Sit p l e _ s m _ below meth c _ st n0 12 560 _ 443 #[.val (.int u0), .val (.long u1), .second, .val (.int u3), .val (.int u4), .val (.int u5), .val (.int n'), .val (.int xa), .val (.int xb), .val (.int xc), .val (.int g4), .val (.int rA), .val (.int rB), .val (.int rC), .val (.int rv), .val (.int (0 : Int32)), .val (.int nr), .val (.int cs), .val (.int hA), .val (.int hB), .val (.int hC), .val (.int em), .val (.int hi), .val (.int ee), .val (.ref o), .unset, .unset, .unset] [] := s13
        |>.ifY at_433 (eqT (show (0 : Int32) = 0 from rfl)) (by decide) (by decide)
      obtain ⟨ct, e_ct, s25⟩ : ∃ ct : Int32, (True) ∧ Sit p l e room_1 s m #[(.int u0), (.long u1), (.int u3), (.int u4), (.int u5)] below meth c code st n0 12 560 (fun hh => Exa Z hh o "reenact/trace/IntBits" ∧ Fld Z hh o "reenact/trace/IntBits" "words" "[J" (.ref v) ∧ Fld Z hh o "reenact/trace/IntBits" "greatest" "I" (.int gI) ∧ Fld Z hh o "reenact/trace/IntBits" "size" "I" (.int zI) ∧ Fld Z hh o "reenact/trace/IntBits" "base" "I" (.int bI) ∧ Fld Z hh o "reenact/trace/IntBits" "head" "I" (.int hI) ∧ AV Z hh v .long (ws.map Value.long)) 477 #[.val (.int u0), .val (.long u1), .second, .val (.int u3), .val (.int u4), .val (.int u5), .val (.int n'), .val (.int xa), .val (.int xb), .val (.int xc), .val (.int g4), .val (.int rA), .val (.int rB), .val (.int rC), .val (.int rv), .val (.int (0 : Int32)), .val (.int nr), .val (.int cs), .val (.int hA), .val (.int hB), .val (.int hC), .val (.int em), .val (.int hi), .val (.int ee), .val (.ref o), .unset, .unset, .unset] [(.int ct)] := by
        have s15 : Sit p l e _ s m _ below meth c _ st n0 12 560 _ 445 #[.val (.int u0), .val (.long u1), .second, .val (.int u3), .val (.int u4), .val (.int u5), .val (.int n'), .val (.int xa), .val (.int xb), .val (.int xc), .val (.int g4), .val (.int rA), .val (.int rB), .val (.int rC), .val (.int rv), .val (.int (0 : Int32)), .val (.int nr), .val (.int cs), .val (.int hA), .val (.int hB), .val (.int hC), .val (.int em), .val (.int hi), .val (.int ee), .val (.ref o), .unset, .unset, .unset] [(.int cs)] := s14
          |>.iload at_443 rfl rfl
        by_cases cnd16 : ¬ cs = 0
        · have s17 : Sit p l e _ s m _ below meth c _ st n0 12 560 _ 456 #[.val (.int u0), .val (.long u1), .second, .val (.int u3), .val (.int u4), .val (.int u5), .val (.int n'), .val (.int xa), .val (.int xb), .val (.int xc), .val (.int g4), .val (.int rA), .val (.int rB), .val (.int rC), .val (.int rv), .val (.int (0 : Int32)), .val (.int nr), .val (.int cs), .val (.int hA), .val (.int hB), .val (.int hC), .val (.int em), .val (.int hi), .val (.int ee), .val (.ref o), .unset, .unset, .unset] [(.int (1 : Int32)), (.int cs)] := s15
            |>.ifY at_445 (neT cnd16) (by decide) (by decide)
            |>.iload at_453 rfl rfl
            |>.iconst (1 : Int32) at_455 rfl rfl
          by_cases cnd18 : ¬ cs = (1 : Int32)
          · have s19 : Sit p l e _ s m _ below meth c _ st n0 12 560 _ 467 #[.val (.int u0), .val (.long u1), .second, .val (.int u3), .val (.int u4), .val (.int u5), .val (.int n'), .val (.int xa), .val (.int xb), .val (.int xc), .val (.int g4), .val (.int rA), .val (.int rB), .val (.int rC), .val (.int rv), .val (.int (0 : Int32)), .val (.int nr), .val (.int cs), .val (.int hA), .val (.int hB), .val (.int hC), .val (.int em), .val (.int hi), .val (.int ee), .val (.ref o), .unset, .unset, .unset] [(.int (2 : Int32)), (.int cs)] := s17
              |>.icmpY at_456 (neT cnd18) (by decide) (by decide)
              |>.iload at_464 rfl rfl
              |>.iconst (2 : Int32) at_466 rfl rfl
            by_cases cnd20 : ¬ cs = (2 : Int32)
            · have s21 : Sit p l e _ s m _ below meth c _ st n0 12 560 _ 477 #[.val (.int u0), .val (.long u1), .second, .val (.int u3), .val (.int u4), .val (.int u5), .val (.int n'), .val (.int xa), .val (.int xb), .val (.int xc), .val (.int g4), .val (.int rA), .val (.int rB), .val (.int rC), .val (.int rv), .val (.int (0 : Int32)), .val (.int nr), .val (.int cs), .val (.int hA), .val (.int hB), .val (.int hC), .val (.int em), .val (.int hi), .val (.int ee), .val (.ref o), .unset, .unset, .unset] [(.int ee)] := s19
                |>.icmpY at_467 (neT cnd20) (by decide) (by decide)
                |>.iload at_475 rfl rfl
              exact ⟨ee, trivial, s21⟩
            · have s22 : Sit p l e _ s m _ below meth c _ st n0 12 560 _ 477 #[.val (.int u0), .val (.long u1), .second, .val (.int u3), .val (.int u4), .val (.int u5), .val (.int n'), .val (.int xa), .val (.int xb), .val (.int xc), .val (.int g4), .val (.int rA), .val (.int rB), .val (.int rC), .val (.int rv), .val (.int (0 : Int32)), .val (.int nr), .val (.int cs), .val (.int hA), .val (.int hB), .val (.int hC), .val (.int em), .val (.int hi), .val (.int ee), .val (.ref o), .unset, .unset, .unset] [(.int xc)] := s19
                |>.icmpN at_467 ((neF (Classical.not_not.mp cnd20))) rfl
                |>.iload at_470 rfl rfl
                |>.goto at_472 (by decide) (by decide)
              exact ⟨xc, trivial, s22⟩
          · have s23 : Sit p l e _ s m _ below meth c _ st n0 12 560 _ 477 #[.val (.int u0), .val (.long u1), .second, .val (.int u3), .val (.int u4), .val (.int u5), .val (.int n'), .val (.int xa), .val (.int xb), .val (.int xc), .val (.int g4), .val (.int rA), .val (.int rB), .val (.int rC), .val (.int rv), .val (.int (0 : Int32)), .val (.int nr), .val (.int cs), .val (.int hA), .val (.int hB), .val (.int hC), .val (.int em), .val (.int hi), .val (.int ee), .val (.ref o), .unset, .unset, .unset] [(.int xb)] := s17
              |>.icmpN at_456 ((neF (Classical.not_not.mp cnd18))) rfl
              |>.iload at_459 rfl rfl
              |>.goto at_461 (by decide) (by decide)
            exact ⟨xb, trivial, s23⟩
        · have s24 : Sit p l e _ s m _ below meth c _ st n0 12 560 _ 477 #[.val (.int u0), .val (.long u1), .second, .val (.int u3), .val (.int u4), .val (.int u5), .val (.int n'), .val (.int xa), .val (.int xb), .val (.int xc), .val (.int g4), .val (.int rA), .val (.int rB), .val (.int rC), .val (.int rv), .val (.int (0 : Int32)), .val (.int nr), .val (.int cs), .val (.int hA), .val (.int hB), .val (.int hC), .val (.int em), .val (.int hi), .val (.int ee), .val (.ref o), .unset, .unset, .unset] [(.int xa)] := s15
            |>.ifN at_445 ((neF (Classical.not_not.mp cnd16))) rfl
            |>.iload at_448 rfl rfl
            |>.goto at_450 (by decide) (by decide)
          exact ⟨xa, trivial, s24⟩
      have s26 : Sit p l e _ s m _ below meth c _ st n0 12 560 _ 479 #[.val (.int u0), .val (.long u1), .second, .val (.int u3), .val (.int u4), .val (.int u5), .val (.int n'), .val (.int xa), .val (.int xb), .val (.int xc), .val (.int g4), .val (.int rA), .val (.int rB), .val (.int rC), .val (.int rv), .val (.int (0 : Int32)), .val (.int nr), .val (.int cs), .val (.int hA), .val (.int hB), .val (.int hC), .val (.int em), .val (.int hi), .val (.int ee), .val (.ref o), .val (.int ct), .unset, .unset] [] := s25
        |>.istore #[.val (.int u0), .val (.long u1), .second, .val (.int u3), .val (.int u4), .val (.int u5), .val (.int n'), .val (.int xa), .val (.int xb), .val (.int xc), .val (.int g4), .val (.int rA), .val (.int rB), .val (.int rC), .val (.int rv), .val (.int (0 : Int32)), .val (.int nr), .val (.int cs), .val (.int hA), .val (.int hB), .val (.int hC), .val (.int em), .val (.int hi), .val (.int ee), .val (.ref o), .val (.int ct), .unset, .unset] at_477 rfl rfl
      obtain ⟨qq, e_qq, s31⟩ : ∃ qq : Int32, (True) ∧ Sit p l e room_1 s m #[(.int u0), (.long u1), (.int u3), (.int u4), (.int u5)] below meth c code st n0 12 560 (fun hh => Exa Z hh o "reenact/trace/IntBits" ∧ Fld Z hh o "reenact/trace/IntBits" "words" "[J" (.ref v) ∧ Fld Z hh o "reenact/trace/IntBits" "greatest" "I" (.int gI) ∧ Fld Z hh o "reenact/trace/IntBits" "size" "I" (.int zI) ∧ Fld Z hh o "reenact/trace/IntBits" "base" "I" (.int bI) ∧ Fld Z hh o "reenact/trace/IntBits" "head" "I" (.int hI) ∧ AV Z hh v .long (ws.map Value.long)) 498 #[.val (.int u0), .val (.long u1), .second, .val (.int u3), .val (.int u4), .val (.int u5), .val (.int n'), .val (.int xa), .val (.int xb), .val (.int xc), .val (.int g4), .val (.int rA), .val (.int rB), .val (.int rC), .val (.int rv), .val (.int (0 : Int32)), .val (.int nr), .val (.int cs), .val (.int hA), .val (.int hB), .val (.int hC), .val (.int em), .val (.int hi), .val (.int ee), .val (.ref o), .val (.int ct), .unset, .unset] [(.int qq)] := by
        have s27 : Sit p l e _ s m _ below meth c _ st n0 12 560 _ 481 #[.val (.int u0), .val (.long u1), .second, .val (.int u3), .val (.int u4), .val (.int u5), .val (.int n'), .val (.int xa), .val (.int xb), .val (.int xc), .val (.int g4), .val (.int rA), .val (.int rB), .val (.int rC), .val (.int rv), .val (.int (0 : Int32)), .val (.int nr), .val (.int cs), .val (.int hA), .val (.int hB), .val (.int hC), .val (.int em), .val (.int hi), .val (.int ee), .val (.ref o), .val (.int ct), .unset, .unset] [(.int nr)] := s26
          |>.iload at_479 rfl rfl
        by_cases cnd28 : nr = 0
        · have s29 : Sit p l e _ s m _ below meth c _ st n0 12 560 _ 498 #[.val (.int u0), .val (.long u1), .second, .val (.int u3), .val (.int u4), .val (.int u5), .val (.int n'), .val (.int xa), .val (.int xb), .val (.int xc), .val (.int g4), .val (.int rA), .val (.int rB), .val (.int rC), .val (.int rv), .val (.int (0 : Int32)), .val (.int nr), .val (.int cs), .val (.int hA), .val (.int hB), .val (.int hC), .val (.int em), .val (.int hi), .val (.int ee), .val (.ref o), .val (.int ct), .unset, .unset] [(.int u4)] := s27
            |>.ifY at_481 (eqT cnd28) (by decide) (by decide)
            |>.iload at_496 rfl rfl
          exact ⟨u4, trivial, s29⟩
        · have s30 : Sit p l e _ s m _ below meth c _ st n0 12 560 _ 498 #[.val (.int u0), .val (.long u1), .second, .val (.int u3), .val (.int u4), .val (.int u5), .val (.int n'), .val (.int xa), .val (.int xb), .val (.int xc), .val (.int g4), .val (.int rA), .val (.int rB), .val (.int rC), .val (.int rv), .val (.int (0 : Int32)), .val (.int nr), .val (.int cs), .val (.int hA), .val (.int hB), .val (.int hC), .val (.int em), .val (.int hi), .val (.int ee), .val (.ref o), .val (.int ct), .unset, .unset] [(.int (ct + (u4 % (8200 : Int32))))] := s27
            |>.ifN at_481 (eqF cnd28) rfl
            |>.iload at_484 rfl rfl
            |>.iload at_486 rfl rfl
            |>.sipush (8200 : Int32) at_488 rfl rfl
            |>.irem at_491 (by decide) rfl
            |>.iadd at_492 rfl
            |>.goto at_493 (by decide) (by decide)
          exact ⟨(ct + (u4 % (8200 : Int32))), trivial, s30⟩
      have s32 : Sit p l e _ s m _ below meth c _ st n0 12 560 _ 500 #[.val (.int u0), .val (.long u1), .second, .val (.int u3), .val (.int u4), .val (.int u5), .val (.int n'), .val (.int xa), .val (.int xb), .val (.int xc), .val (.int g4), .val (.int rA), .val (.int rB), .val (.int rC), .val (.int rv), .val (.int (0 : Int32)), .val (.int nr), .val (.int cs), .val (.int hA), .val (.int hB), .val (.int hC), .val (.int em), .val (.int hi), .val (.int ee), .val (.ref o), .val (.int ct), .val (.int qq), .unset] [] := s31
        |>.istore #[.val (.int u0), .val (.long u1), .second, .val (.int u3), .val (.int u4), .val (.int u5), .val (.int n'), .val (.int xa), .val (.int xb), .val (.int xc), .val (.int g4), .val (.int rA), .val (.int rB), .val (.int rC), .val (.int rv), .val (.int (0 : Int32)), .val (.int nr), .val (.int cs), .val (.int hA), .val (.int hB), .val (.int hC), .val (.int em), .val (.int hi), .val (.int ee), .val (.ref o), .val (.int ct), .val (.int qq), .unset] at_498 rfl rfl
      have j536 : Sit p l e room_1 s m #[(.int u0), (.long u1), (.int u3), (.int u4), (.int u5)] below meth c code st n0 12 560 (fun hh => Exa Z hh o "reenact/trace/IntBits" ∧ Fld Z hh o "reenact/trace/IntBits" "words" "[J" (.ref v) ∧ Fld Z hh o "reenact/trace/IntBits" "greatest" "I" (.int gI) ∧ Fld Z hh o "reenact/trace/IntBits" "size" "I" (.int zI) ∧ Fld Z hh o "reenact/trace/IntBits" "base" "I" (.int bI) ∧ Fld Z hh o "reenact/trace/IntBits" "head" "I" (.int hI) ∧ AV Z hh v .long (ws.map Value.long)) 536 #[.val (.int u0), .val (.long u1), .second, .val (.int u3), .val (.int u4), .val (.int u5), .val (.int n'), .val (.int xa), .val (.int xb), .val (.int xc), .val (.int g4), .val (.int rA), .val (.int rB), .val (.int rC), .val (.int rv), .val (.int (0 : Int32)), .val (.int nr), .val (.int cs), .val (.int hA), .val (.int hB), .val (.int hC), .val (.int em), .val (.int hi), .val (.int ee), .val (.ref o), .val (.int ct), .val (.int qq), .unset] [] → ∃ xp : Int32, ((xp = 1 ∧ (¬ (0 : Int32) = 0 ∧ qq = ee)) ∨ (xp = 0 ∧ ¬ (¬ (0 : Int32) = 0 ∧ qq = ee))) ∧ Sit p l e room_1 s m #[(.int u0), (.long u1), (.int u3), (.int u4), (.int u5)] below meth c code st n0 12 560 (fun hh => Exa Z hh o "reenact/trace/IntBits" ∧ Fld Z hh o "reenact/trace/IntBits" "words" "[J" (.ref v) ∧ Fld Z hh o "reenact/trace/IntBits" "greatest" "I" (.int gI) ∧ Fld Z hh o "reenact/trace/IntBits" "size" "I" (.int zI) ∧ Fld Z hh o "reenact/trace/IntBits" "base" "I" (.int bI) ∧ Fld Z hh o "reenact/trace/IntBits" "head" "I" (.int hI) ∧ AV Z hh v .long (ws.map Value.long)) 553 #[.val (.int u0), .val (.long u1), .second, .val (.int u3), .val (.int u4), .val (.int u5), .val (.int n'), .val (.int xa), .val (.int xb), .val (.int xc), .val (.int g4), .val (.int rA), .val (.int rB), .val (.int rC), .val (.int rv), .val (.int (0 : Int32)), .val (.int nr), .val (.int cs), .val (.int hA), .val (.int hB), .val (.int hC), .val (.int em), .val (.int hi), .val (.int ee), .val (.ref o), .val (.int ct), .val (.int qq), .unset] [(.int xp)] := by
        intro q0
        have s33 : Sit p l e _ s m _ below meth c _ st n0 12 560 _ 538 #[.val (.int u0), .val (.long u1), .second, .val (.int u3), .val (.int u4), .val (.int u5), .val (.int n'), .val (.int xa), .val (.int xb), .val (.int xc), .val (.int g4), .val (.int rA), .val (.int rB), .val (.int rC), .val (.int rv), .val (.int (0 : Int32)), .val (.int nr), .val (.int cs), .val (.int hA), .val (.int hB), .val (.int hC), .val (.int em), .val (.int hi), .val (.int ee), .val (.ref o), .val (.int ct), .val (.int qq), .unset] [(.int (0 : Int32))] := q0
          |>.iload at_536 rfl rfl
        have s34 : Sit p l e _ s m _ below meth c _ st n0 12 560 _ 553 #[.val (.int u0), .val (.long u1), .second, .val (.int u3), .val (.int u4), .val (.int u5), .val (.int n'), .val (.int xa), .val (.int xb), .val (.int xc), .val (.int g4), .val (.int rA), .val (.int rB), .val (.int rC), .val (.int rv), .val (.int (0 : Int32)), .val (.int nr), .val (.int cs), .val (.int hA), .val (.int hB), .val (.int hC), .val (.int em), .val (.int hi), .val (.int ee), .val (.ref o), .val (.int ct), .val (.int qq), .unset] [(.int (0 : Int32))] := s33
          |>.ifY at_538 (eqT (show (0 : Int32) = 0 from rfl)) (by decide) (by decide)
          |>.iconst (0 : Int32) at_552 rfl rfl
        exact ⟨0, Or.inr ⟨rfl, fun h => h.1 rfl⟩, s34⟩
      have j524 : Sit p l e room_1 s m #[(.int u0), (.long u1), (.int u3), (.int u4), (.int u5)] below meth c code st n0 12 560 (fun hh => Exa Z hh o "reenact/trace/IntBits" ∧ Fld Z hh o "reenact/trace/IntBits" "words" "[J" (.ref v) ∧ Fld Z hh o "reenact/trace/IntBits" "greatest" "I" (.int gI) ∧ Fld Z hh o "reenact/trace/IntBits" "size" "I" (.int zI) ∧ Fld Z hh o "reenact/trace/IntBits" "base" "I" (.int bI) ∧ Fld Z hh o "reenact/trace/IntBits" "head" "I" (.int hI) ∧ AV Z hh v .long (ws.map Value.long)) 524 #[.val (.int u0), .val (.long u1), .second, .val (.int u3), .val (.int u4), .val (.int u5), .val (.int n'), .val (.int xa), .val (.int xb), .val (.int xc), .val (.int g4), .val (.int rA), .val (.int rB), .val (.int rC), .val (.int rv), .val (.int (0 : Int32)), .val (.int nr), .val (.int cs), .val (.int hA), .val (.int hB), .val (.int hC), .val (.int em), .val (.int hi), .val (.int ee), .val (.ref o), .val (.int ct), .val (.int qq), .unset] [] → ∃ xp : Int32, ((xp = 1 ∧ ((¬ hC = 0 ∧ qq = xc) ∨ (¬ (0 : Int32) = 0 ∧ qq = ee))) ∨ (xp = 0 ∧ ¬ ((¬ hC = 0 ∧ qq = xc) ∨ (¬ (0 : Int32) = 0 ∧ qq = ee)))) ∧ Sit p l e room_1 s m #[(.int u0), (.long u1), (.int u3), (.int u4), (.int u5)] below meth c code st n0 12 560 (fun hh => Exa Z hh o "reenact/trace/IntBits" ∧ Fld Z hh o "reenact/trace/IntBits" "words" "[J" (.ref v) ∧ Fld Z hh o "reenact/trace/IntBits" "greatest" "I" (.int gI) ∧ Fld Z hh o "reenact/trace/IntBits" "size" "I" (.int zI) ∧ Fld Z hh o "reenact/trace/IntBits" "base" "I" (.int bI) ∧ Fld Z hh o "reenact/trace/IntBits" "head" "I" (.int hI) ∧ AV Z hh v .long (ws.map Value.long)) 553 #[.val (.int u0), .val (.long u1), .second, .val (.int u3), .val (.int u4), .val (.int u5), .val (.int n'), .val (.int xa), .val (.int xb), .val (.int xc), .val (.int g4), .val (.int rA), .val (.int rB), .val (.int rC), .val (.int rv), .val (.int (0 : Int32)), .val (.int nr), .val (.int cs), .val (.int hA), .val (.int hB), .val (.int hC), .val (.int em), .val (.int hi), .val (.int ee), .val (.ref o), .val (.int ct), .val (.int qq), .unset] [(.int xp)] := by
        intro q0
        have s35 : Sit p l e _ s m _ below meth c _ st n0 12 560 _ 526 #[.val (.int u0), .val (.long u1), .second, .val (.int u3), .val (.int u4), .val (.int u5), .val (.int n'), .val (.int xa), .val (.int xb), .val (.int xc), .val (.int g4), .val (.int rA), .val (.int rB), .val (.int rC), .val (.int rv), .val (.int (0 : Int32)), .val (.int nr), .val (.int cs), .val (.int hA), .val (.int hB), .val (.int hC), .val (.int em), .val (.int hi), .val (.int ee), .val (.ref o), .val (.int ct), .val (.int qq), .unset] [(.int hC)] := q0
          |>.iload at_524 rfl rfl
        by_cases c0 : hC = 0
        · have s36 : Sit p l e _ s m _ below meth c _ st n0 12 560 _ 536 #[.val (.int u0), .val (.long u1), .second, .val (.int u3), .val (.int u4), .val (.int u5), .val (.int n'), .val (.int xa), .val (.int xb), .val (.int xc), .val (.int g4), .val (.int rA), .val (.int rB), .val (.int rC), .val (.int rv), .val (.int (0 : Int32)), .val (.int nr), .val (.int cs), .val (.int hA), .val (.int hB), .val (.int hC), .val (.int em), .val (.int hi), .val (.int ee), .val (.ref o), .val (.int ct), .val (.int qq), .unset] [] := s35
            |>.ifY at_526 (eqT c0) (by decide) (by decide)
          obtain ⟨xp, hxp, sx⟩ := j536 s36
          refine ⟨xp, ?_, sx⟩
          rcases hxp with ⟨e1, e2⟩ | ⟨e1, e2⟩
          · exact Or.inl ⟨e1, Or.inr e2⟩
          · exact Or.inr ⟨e1, fun h => h.elim (fun h => h.1 c0) e2⟩
        · have s37 : Sit p l e _ s m _ below meth c _ st n0 12 560 _ 533 #[.val (.int u0), .val (.long u1), .second, .val (.int u3), .val (.int u4), .val (.int u5), .val (.int n'), .val (.int xa), .val (.int xb), .val (.int xc), .val (.int g4), .val (.int rA), .val (.int rB), .val (.int rC), .val (.int rv), .val (.int (0 : Int32)), .val (.int nr), .val (.int cs), .val (.int hA), .val (.int hB), .val (.int hC), .val (.int em), .val (.int hi), .val (.int ee), .val (.ref o), .val (.int ct), .val (.int qq), .unset] [(.int xc), (.int qq)] := s35
            |>.ifN at_526 (eqF c0) rfl
            |>.iload at_529 rfl rfl
            |>.iload at_531 rfl rfl
          by_cases c1 : qq = xc
          · have s38 : Sit p l e _ s m _ below meth c _ st n0 12 560 _ 553 #[.val (.int u0), .val (.long u1), .second, .val (.int u3), .val (.int u4), .val (.int u5), .val (.int n'), .val (.int xa), .val (.int xb), .val (.int xc), .val (.int g4), .val (.int rA), .val (.int rB), .val (.int rC), .val (.int rv), .val (.int (0 : Int32)), .val (.int nr), .val (.int cs), .val (.int hA), .val (.int hB), .val (.int hC), .val (.int em), .val (.int hi), .val (.int ee), .val (.ref o), .val (.int ct), .val (.int qq), .unset] [(.int (1 : Int32))] := s37
              |>.icmpY at_533 (eqT c1) (by decide) (by decide)
              |>.iconst (1 : Int32) at_548 rfl rfl
              |>.goto at_549 (by decide) (by decide)
            exact ⟨1, Or.inl ⟨rfl, Or.inl ⟨c0, c1⟩⟩, s38⟩
          · have s39 : Sit p l e _ s m _ below meth c _ st n0 12 560 _ 536 #[.val (.int u0), .val (.long u1), .second, .val (.int u3), .val (.int u4), .val (.int u5), .val (.int n'), .val (.int xa), .val (.int xb), .val (.int xc), .val (.int g4), .val (.int rA), .val (.int rB), .val (.int rC), .val (.int rv), .val (.int (0 : Int32)), .val (.int nr), .val (.int cs), .val (.int hA), .val (.int hB), .val (.int hC), .val (.int em), .val (.int hi), .val (.int ee), .val (.ref o), .val (.int ct), .val (.int qq), .unset] [] := s37
              |>.icmpN at_533 (eqF c1) rfl
            obtain ⟨xp, hxp, sx⟩ := j536 s39
            refine ⟨xp, ?_, sx⟩
            rcases hxp with ⟨e1, e2⟩ | ⟨e1, e2⟩
            · exact Or.inl ⟨e1, Or.inr e2⟩
            · exact Or.inr ⟨e1, fun h => h.elim (fun h => c1 h.2) e2⟩
      have j512 : Sit p l e room_1 s m #[(.int u0), (.long u1), (.int u3), (.int u4), (.int u5)] below meth c code st n0 12 560 (fun hh => Exa Z hh o "reenact/trace/IntBits" ∧ Fld Z hh o "reenact/trace/IntBits" "words" "[J" (.ref v) ∧ Fld Z hh o "reenact/trace/IntBits" "greatest" "I" (.int gI) ∧ Fld Z hh o "reenact/trace/IntBits" "size" "I" (.int zI) ∧ Fld Z hh o "reenact/trace/IntBits" "base" "I" (.int bI) ∧ Fld Z hh o "reenact/trace/IntBits" "head" "I" (.int hI) ∧ AV Z hh v .long (ws.map Value.long)) 512 #[.val (.int u0), .val (.long u1), .second, .val (.int u3), .val (.int u4), .val (.int u5), .val (.int n'), .val (.int xa), .val (.int xb), .val (.int xc), .val (.int g4), .val (.int rA), .val (.int rB), .val (.int rC), .val (.int rv), .val (.int (0 : Int32)), .val (.int nr), .val (.int cs), .val (.int hA), .val (.int hB), .val (.int hC), .val (.int em), .val (.int hi), .val (.int ee), .val (.ref o), .val (.int ct), .val (.int qq), .unset] [] → ∃ xp : Int32, ((xp = 1 ∧ ((¬ hB = 0 ∧ qq = xb) ∨ ((¬ hC = 0 ∧ qq = xc) ∨ (¬ (0 : Int32) = 0 ∧ qq = ee)))) ∨ (xp = 0 ∧ ¬ ((¬ hB = 0 ∧ qq = xb) ∨ ((¬ hC = 0 ∧ qq = xc) ∨ (¬ (0 : Int32) = 0 ∧ qq = ee))))) ∧ Sit p l e room_1 s m #[(.int u0), (.long u1), (.int u3), (.int u4), (.int u5)] below meth c code st n0 12 560 (fun hh => Exa Z hh o "reenact/trace/IntBits" ∧ Fld Z hh o "reenact/trace/IntBits" "words" "[J" (.ref v) ∧ Fld Z hh o "reenact/trace/IntBits" "greatest" "I" (.int gI) ∧ Fld Z hh o "reenact/trace/IntBits" "size" "I" (.int zI) ∧ Fld Z hh o "reenact/trace/IntBits" "base" "I" (.int bI) ∧ Fld Z hh o "reenact/trace/IntBits" "head" "I" (.int hI) ∧ AV Z hh v .long (ws.map Value.long)) 553 #[.val (.int u0), .val (.long u1), .second, .val (.int u3), .val (.int u4), .val (.int u5), .val (.int n'), .val (.int xa), .val (.int xb), .val (.int xc), .val (.int g4), .val (.int rA), .val (.int rB), .val (.int rC), .val (.int rv), .val (.int (0 : Int32)), .val (.int nr), .val (.int cs), .val (.int hA), .val (.int hB), .val (.int hC), .val (.int em), .val (.int hi), .val (.int ee), .val (.ref o), .val (.int ct), .val (.int qq), .unset] [(.int xp)] := by
        intro q0
        have s40 : Sit p l e _ s m _ below meth c _ st n0 12 560 _ 514 #[.val (.int u0), .val (.long u1), .second, .val (.int u3), .val (.int u4), .val (.int u5), .val (.int n'), .val (.int xa), .val (.int xb), .val (.int xc), .val (.int g4), .val (.int rA), .val (.int rB), .val (.int rC), .val (.int rv), .val (.int (0 : Int32)), .val (.int nr), .val (.int cs), .val (.int hA), .val (.int hB), .val (.int hC), .val (.int em), .val (.int hi), .val (.int ee), .val (.ref o), .val (.int ct), .val (.int qq), .unset] [(.int hB)] := q0
          |>.iload at_512 rfl rfl
        by_cases c0 : hB = 0
        · have s41 : Sit p l e _ s m _ below meth c _ st n0 12 560 _ 524 #[.val (.int u0), .val (.long u1), .second, .val (.int u3), .val (.int u4), .val (.int u5), .val (.int n'), .val (.int xa), .val (.int xb), .val (.int xc), .val (.int g4), .val (.int rA), .val (.int rB), .val (.int rC), .val (.int rv), .val (.int (0 : Int32)), .val (.int nr), .val (.int cs), .val (.int hA), .val (.int hB), .val (.int hC), .val (.int em), .val (.int hi), .val (.int ee), .val (.ref o), .val (.int ct), .val (.int qq), .unset] [] := s40
            |>.ifY at_514 (eqT c0) (by decide) (by decide)
          obtain ⟨xp, hxp, sx⟩ := j524 s41
          refine ⟨xp, ?_, sx⟩
          rcases hxp with ⟨e1, e2⟩ | ⟨e1, e2⟩
          · exact Or.inl ⟨e1, Or.inr e2⟩
          · exact Or.inr ⟨e1, fun h => h.elim (fun h => h.1 c0) e2⟩
        · have s42 : Sit p l e _ s m _ below meth c _ st n0 12 560 _ 521 #[.val (.int u0), .val (.long u1), .second, .val (.int u3), .val (.int u4), .val (.int u5), .val (.int n'), .val (.int xa), .val (.int xb), .val (.int xc), .val (.int g4), .val (.int rA), .val (.int rB), .val (.int rC), .val (.int rv), .val (.int (0 : Int32)), .val (.int nr), .val (.int cs), .val (.int hA), .val (.int hB), .val (.int hC), .val (.int em), .val (.int hi), .val (.int ee), .val (.ref o), .val (.int ct), .val (.int qq), .unset] [(.int xb), (.int qq)] := s40
            |>.ifN at_514 (eqF c0) rfl
            |>.iload at_517 rfl rfl
            |>.iload at_519 rfl rfl
          by_cases c1 : qq = xb
          · have s43 : Sit p l e _ s m _ below meth c _ st n0 12 560 _ 553 #[.val (.int u0), .val (.long u1), .second, .val (.int u3), .val (.int u4), .val (.int u5), .val (.int n'), .val (.int xa), .val (.int xb), .val (.int xc), .val (.int g4), .val (.int rA), .val (.int rB), .val (.int rC), .val (.int rv), .val (.int (0 : Int32)), .val (.int nr), .val (.int cs), .val (.int hA), .val (.int hB), .val (.int hC), .val (.int em), .val (.int hi), .val (.int ee), .val (.ref o), .val (.int ct), .val (.int qq), .unset] [(.int (1 : Int32))] := s42
              |>.icmpY at_521 (eqT c1) (by decide) (by decide)
              |>.iconst (1 : Int32) at_548 rfl rfl
              |>.goto at_549 (by decide) (by decide)
            exact ⟨1, Or.inl ⟨rfl, Or.inl ⟨c0, c1⟩⟩, s43⟩
          · have s44 : Sit p l e _ s m _ below meth c _ st n0 12 560 _ 524 #[.val (.int u0), .val (.long u1), .second, .val (.int u3), .val (.int u4), .val (.int u5), .val (.int n'), .val (.int xa), .val (.int xb), .val (.int xc), .val (.int g4), .val (.int rA), .val (.int rB), .val (.int rC), .val (.int rv), .val (.int (0 : Int32)), .val (.int nr), .val (.int cs), .val (.int hA), .val (.int hB), .val (.int hC), .val (.int em), .val (.int hi), .val (.int ee), .val (.ref o), .val (.int ct), .val (.int qq), .unset] [] := s42
              |>.icmpN at_521 (eqF c1) rfl
            obtain ⟨xp, hxp, sx⟩ := j524 s44
            refine ⟨xp, ?_, sx⟩
            rcases hxp with ⟨e1, e2⟩ | ⟨e1, e2⟩
            · exact Or.inl ⟨e1, Or.inr e2⟩
            · exact Or.inr ⟨e1, fun h => h.elim (fun h => c1 h.2) e2⟩
      have j500 : Sit p l e room_1 s m #[(.int u0), (.long u1), (.int u3), (.int u4), (.int u5)] below meth c code st n0 12 560 (fun hh => Exa Z hh o "reenact/trace/IntBits" ∧ Fld Z hh o "reenact/trace/IntBits" "words" "[J" (.ref v) ∧ Fld Z hh o "reenact/trace/IntBits" "greatest" "I" (.int gI) ∧ Fld Z hh o "reenact/trace/IntBits" "size" "I" (.int zI) ∧ Fld Z hh o "reenact/trace/IntBits" "base" "I" (.int bI) ∧ Fld Z hh o "reenact/trace/IntBits" "head" "I" (.int hI) ∧ AV Z hh v .long (ws.map Value.long)) 500 #[.val (.int u0), .val (.long u1), .second, .val (.int u3), .val (.int u4), .val (.int u5), .val (.int n'), .val (.int xa), .val (.int xb), .val (.int xc), .val (.int g4), .val (.int rA), .val (.int rB), .val (.int rC), .val (.int rv), .val (.int (0 : Int32)), .val (.int nr), .val (.int cs), .val (.int hA), .val (.int hB), .val (.int hC), .val (.int em), .val (.int hi), .val (.int ee), .val (.ref o), .val (.int ct), .val (.int qq), .unset] [] → ∃ xp : Int32, ((xp = 1 ∧ ((¬ hA = 0 ∧ qq = xa) ∨ ((¬ hB = 0 ∧ qq = xb) ∨ ((¬ hC = 0 ∧ qq = xc) ∨ (¬ (0 : Int32) = 0 ∧ qq = ee))))) ∨ (xp = 0 ∧ ¬ ((¬ hA = 0 ∧ qq = xa) ∨ ((¬ hB = 0 ∧ qq = xb) ∨ ((¬ hC = 0 ∧ qq = xc) ∨ (¬ (0 : Int32) = 0 ∧ qq = ee)))))) ∧ Sit p l e room_1 s m #[(.int u0), (.long u1), (.int u3), (.int u4), (.int u5)] below meth c code st n0 12 560 (fun hh => Exa Z hh o "reenact/trace/IntBits" ∧ Fld Z hh o "reenact/trace/IntBits" "words" "[J" (.ref v) ∧ Fld Z hh o "reenact/trace/IntBits" "greatest" "I" (.int gI) ∧ Fld Z hh o "reenact/trace/IntBits" "size" "I" (.int zI) ∧ Fld Z hh o "reenact/trace/IntBits" "base" "I" (.int bI) ∧ Fld Z hh o "reenact/trace/IntBits" "head" "I" (.int hI) ∧ AV Z hh v .long (ws.map Value.long)) 553 #[.val (.int u0), .val (.long u1), .second, .val (.int u3), .val (.int u4), .val (.int u5), .val (.int n'), .val (.int xa), .val (.int xb), .val (.int xc), .val (.int g4), .val (.int rA), .val (.int rB), .val (.int rC), .val (.int rv), .val (.int (0 : Int32)), .val (.int nr), .val (.int cs), .val (.int hA), .val (.int hB), .val (.int hC), .val (.int em), .val (.int hi), .val (.int ee), .val (.ref o), .val (.int ct), .val (.int qq), .unset] [(.int xp)] := by
        intro q0
        have s45 : Sit p l e _ s m _ below meth c _ st n0 12 560 _ 502 #[.val (.int u0), .val (.long u1), .second, .val (.int u3), .val (.int u4), .val (.int u5), .val (.int n'), .val (.int xa), .val (.int xb), .val (.int xc), .val (.int g4), .val (.int rA), .val (.int rB), .val (.int rC), .val (.int rv), .val (.int (0 : Int32)), .val (.int nr), .val (.int cs), .val (.int hA), .val (.int hB), .val (.int hC), .val (.int em), .val (.int hi), .val (.int ee), .val (.ref o), .val (.int ct), .val (.int qq), .unset] [(.int hA)] := q0
          |>.iload at_500 rfl rfl
        by_cases c0 : hA = 0
        · have s46 : Sit p l e _ s m _ below meth c _ st n0 12 560 _ 512 #[.val (.int u0), .val (.long u1), .second, .val (.int u3), .val (.int u4), .val (.int u5), .val (.int n'), .val (.int xa), .val (.int xb), .val (.int xc), .val (.int g4), .val (.int rA), .val (.int rB), .val (.int rC), .val (.int rv), .val (.int (0 : Int32)), .val (.int nr), .val (.int cs), .val (.int hA), .val (.int hB), .val (.int hC), .val (.int em), .val (.int hi), .val (.int ee), .val (.ref o), .val (.int ct), .val (.int qq), .unset] [] := s45
            |>.ifY at_502 (eqT c0) (by decide) (by decide)
          obtain ⟨xp, hxp, sx⟩ := j512 s46
          refine ⟨xp, ?_, sx⟩
          rcases hxp with ⟨e1, e2⟩ | ⟨e1, e2⟩
          · exact Or.inl ⟨e1, Or.inr e2⟩
          · exact Or.inr ⟨e1, fun h => h.elim (fun h => h.1 c0) e2⟩
        · have s47 : Sit p l e _ s m _ below meth c _ st n0 12 560 _ 509 #[.val (.int u0), .val (.long u1), .second, .val (.int u3), .val (.int u4), .val (.int u5), .val (.int n'), .val (.int xa), .val (.int xb), .val (.int xc), .val (.int g4), .val (.int rA), .val (.int rB), .val (.int rC), .val (.int rv), .val (.int (0 : Int32)), .val (.int nr), .val (.int cs), .val (.int hA), .val (.int hB), .val (.int hC), .val (.int em), .val (.int hi), .val (.int ee), .val (.ref o), .val (.int ct), .val (.int qq), .unset] [(.int xa), (.int qq)] := s45
            |>.ifN at_502 (eqF c0) rfl
            |>.iload at_505 rfl rfl
            |>.iload at_507 rfl rfl
          by_cases c1 : qq = xa
          · have s48 : Sit p l e _ s m _ below meth c _ st n0 12 560 _ 553 #[.val (.int u0), .val (.long u1), .second, .val (.int u3), .val (.int u4), .val (.int u5), .val (.int n'), .val (.int xa), .val (.int xb), .val (.int xc), .val (.int g4), .val (.int rA), .val (.int rB), .val (.int rC), .val (.int rv), .val (.int (0 : Int32)), .val (.int nr), .val (.int cs), .val (.int hA), .val (.int hB), .val (.int hC), .val (.int em), .val (.int hi), .val (.int ee), .val (.ref o), .val (.int ct), .val (.int qq), .unset] [(.int (1 : Int32))] := s47
              |>.icmpY at_509 (eqT c1) (by decide) (by decide)
              |>.iconst (1 : Int32) at_548 rfl rfl
              |>.goto at_549 (by decide) (by decide)
            exact ⟨1, Or.inl ⟨rfl, Or.inl ⟨c0, c1⟩⟩, s48⟩
          · have s49 : Sit p l e _ s m _ below meth c _ st n0 12 560 _ 512 #[.val (.int u0), .val (.long u1), .second, .val (.int u3), .val (.int u4), .val (.int u5), .val (.int n'), .val (.int xa), .val (.int xb), .val (.int xc), .val (.int g4), .val (.int rA), .val (.int rB), .val (.int rC), .val (.int rv), .val (.int (0 : Int32)), .val (.int nr), .val (.int cs), .val (.int hA), .val (.int hB), .val (.int hC), .val (.int em), .val (.int hi), .val (.int ee), .val (.ref o), .val (.int ct), .val (.int qq), .unset] [] := s47
              |>.icmpN at_509 (eqF c1) rfl
            obtain ⟨xp, hxp, sx⟩ := j512 s49
            refine ⟨xp, ?_, sx⟩
            rcases hxp with ⟨e1, e2⟩ | ⟨e1, e2⟩
            · exact Or.inl ⟨e1, Or.inr e2⟩
            · exact Or.inr ⟨e1, fun h => h.elim (fun h => c1 h.2) e2⟩
      obtain ⟨xp, hxp, sx⟩ := j500 s32
      have s50 : Sit p l e _ s m _ below meth c _ st n0 12 560 _ 559 #[.val (.int u0), .val (.long u1), .second, .val (.int u3), .val (.int u4), .val (.int u5), .val (.int n'), .val (.int xa), .val (.int xb), .val (.int xc), .val (.int g4), .val (.int rA), .val (.int rB), .val (.int rC), .val (.int rv), .val (.int (0 : Int32)), .val (.int nr), .val (.int cs), .val (.int hA), .val (.int hB), .val (.int hC), .val (.int em), .val (.int hi), .val (.int ee), .val (.ref o), .val (.int ct), .val (.int qq), .val (.int xp)] [(.int qq), (.ref o)] := sx
        |>.istore #[.val (.int u0), .val (.long u1), .second, .val (.int u3), .val (.int u4), .val (.int u5), .val (.int n'), .val (.int xa), .val (.int xb), .val (.int xc), .val (.int g4), .val (.int rA), .val (.int rB), .val (.int rC), .val (.int rv), .val (.int (0 : Int32)), .val (.int nr), .val (.int cs), .val (.int hA), .val (.int hB), .val (.int hC), .val (.int em), .val (.int hi), .val (.int ee), .val (.ref o), .val (.int ct), .val (.int qq), .val (.int xp)] at_553 rfl rfl
        |>.aload at_555 rfl rfl
        |>.iload at_557 rfl rfl
      obtain ⟨r52, s51⟩ := Sit.callV (C := "reenact/trace/IntBits") (y := (⟨"reenact/trace/IntBits", "contains", "(I)Z"⟩ : MethodName)) (W := 0) (Q := fun rv_ hh => (rv_ = some (.int (if qq.toInt ∈ S then 1 else 0))) ∧ (fun hh => Exa Z hh o "reenact/trace/IntBits" ∧ Fld Z hh o "reenact/trace/IntBits" "words" "[J" (.ref v) ∧ Fld Z hh o "reenact/trace/IntBits" "greatest" "I" (.int gI) ∧ Fld Z hh o "reenact/trace/IntBits" "size" "I" (.int zI) ∧ Fld Z hh o "reenact/trace/IntBits" "base" "I" (.int bI) ∧ Fld Z hh o "reenact/trace/IntBits" "head" "I" (.int hI) ∧ AV Z hh v .long (ws.map Value.long)) hh) [(.int qq)] [] s50 hZ hown (wi hw 27 rfl) (wi hw 28 rfl) (wi hw 30 rfl) (wi hw 29 rfl) (wi hw 31 rfl) (wi hw 4 rfl) (by decide) (fun hh q => q.1) (fun h1 hP hn => (rmC l Z a0 hw [] o qq v bI hI gI zI ws S h1 n0 hn VV zz hP).mono fun rv_ hh q => ⟨q.1, q.2 ▸ hP⟩) hml rfl (lenOf pd_3 rfl) at_559 (Nat.le_of_eq rfl) (by decide) (by decide) (by decide) (by decide) (pc' := 562) rfl
      obtain ⟨_, er52, _⟩ := s51.facts
      subst er52
      have s53 : Sit p l e _ s m _ below meth c _ st n0 12 560 (fun hh => Exa Z hh o "reenact/trace/IntBits" ∧ Fld Z hh o "reenact/trace/IntBits" "words" "[J" (.ref v) ∧ Fld Z hh o "reenact/trace/IntBits" "greatest" "I" (.int gI) ∧ Fld Z hh o "reenact/trace/IntBits" "size" "I" (.int zI) ∧ Fld Z hh o "reenact/trace/IntBits" "base" "I" (.int bI) ∧ Fld Z hh o "reenact/trace/IntBits" "head" "I" (.int hI) ∧ AV Z hh v .long (ws.map Value.long)) 562 #[.val (.int u0), .val (.long u1), .second, .val (.int u3), .val (.int u4), .val (.int u5), .val (.int n'), .val (.int xa), .val (.int xb), .val (.int xc), .val (.int g4), .val (.int rA), .val (.int rB), .val (.int rC), .val (.int rv), .val (.int (0 : Int32)), .val (.int nr), .val (.int cs), .val (.int hA), .val (.int hB), .val (.int hC), .val (.int em), .val (.int hi), .val (.int ee), .val (.ref o), .val (.int ct), .val (.int qq), .val (.int xp)] [(.int (if qq.toInt ∈ S then 1 else 0))] := s51.mono fun _ q => q.2
      have s54 : Sit p l e _ s m _ below meth c _ st n0 12 560 _ 564 #[.val (.int u0), .val (.long u1), .second, .val (.int u3), .val (.int u4), .val (.int u5), .val (.int n'), .val (.int xa), .val (.int xb), .val (.int xc), .val (.int g4), .val (.int rA), .val (.int rB), .val (.int rC), .val (.int rv), .val (.int (0 : Int32)), .val (.int nr), .val (.int cs), .val (.int hA), .val (.int hB), .val (.int hC), .val (.int em), .val (.int hi), .val (.int ee), .val (.ref o), .val (.int ct), .val (.int qq), .val (.int xp)] [(.int xp), (.int (if qq.toInt ∈ S then 1 else 0))] := s53
        |>.iload at_562 rfl rfl
      have eqv : (if qq.toInt ∈ S then (1 : Int32) else 0) = xp := by
        rcases hxp with ⟨e1, e2⟩ | ⟨e1, e2⟩
        · rw [if_pos ((mem qq).mpr e2), e1]
        · rw [if_neg (fun h => e2 ((mem qq).mp h)), e1]
      have s55 : Sit p l e _ s m _ below meth c _ st n0 12 560 _ 572 #[.val (.int u0), .val (.long u1), .second, .val (.int u3), .val (.int u4), .val (.int u5), .val (.int n'), .val (.int xa), .val (.int xb), .val (.int xc), .val (.int g4), .val (.int rA), .val (.int rB), .val (.int rC), .val (.int rv), .val (.int (0 : Int32)), .val (.int nr), .val (.int cs), .val (.int hA), .val (.int hB), .val (.int hC), .val (.int em), .val (.int hi), .val (.int ee), .val (.ref o), .val (.int ct), .val (.int qq), .val (.int xp)] [(.int (1 : Int32))] := s54
        |>.icmpN at_564 ((neF (Classical.not_not.mp (show ¬ (¬ (if qq.toInt ∈ S then 1 else 0) = xp) from fun h => h eqv)))) rfl
        |>.iconst (1 : Int32) at_567 rfl rfl
        |>.goto at_568 (by decide) (by decide)
      exact (s55.bound (cells' := 24) (slots' := 1024) (by decide) (by decide)).retZ at_572 hret hlk (fun hh q => rfl)
    · have s56 : Sit p l e _ s m _ below meth c _ st n0 12 560 (fun hh => Exa Z hh o "reenact/trace/IntBits" ∧ Fld Z hh o "reenact/trace/IntBits" "words" "[J" (.ref v) ∧ Fld Z hh o "reenact/trace/IntBits" "greatest" "I" (.int gI) ∧ Fld Z hh o "reenact/trace/IntBits" "size" "I" (.int zI) ∧ Fld Z hh o "reenact/trace/IntBits" "base" "I" (.int bI) ∧ Fld Z hh o "reenact/trace/IntBits" "head" "I" (.int hI) ∧ AV Z hh v .long (ws.map Value.long)) 433 #[.val (.int u0), .val (.long u1), .second, .val (.int u3), .val (.int u4), .val (.int u5), .val (.int n'), .val (.int xa), .val (.int xb), .val (.int xc), .val (.int g4), .val (.int rA), .val (.int rB), .val (.int rC), .val (.int rv), .val (.int (1 : Int32)), .val (.int nr), .val (.int cs), .val (.int hA), .val (.int hB), .val (.int hC), .val (.int em), .val (.int hi), .val (.int ee), .val (.ref o), .unset, .unset, .unset] [(.int (1 : Int32))] := s12
      have s57 : Sit p l e _ s m _ below meth c _ st n0 12 560 _ 440 #[.val (.int u0), .val (.long u1), .second, .val (.int u3), .val (.int u4), .val (.int u5), .val (.int n'), .val (.int xa), .val (.int xb), .val (.int xc), .val (.int g4), .val (.int rA), .val (.int rB), .val (.int rC), .val (.int rv), .val (.int (1 : Int32)), .val (.int nr), .val (.int cs), .val (.int hA), .val (.int hB), .val (.int hC), .val (.int em), .val (.int hi), .val (.int ee), .val (.ref o), .unset, .unset, .unset] [(.int ee), (.ref o)] := s56
        |>.ifN at_433 (eqF (show ¬ ((1 : Int32) = 0) from by decide)) rfl
        |>.aload at_436 rfl rfl
        |>.iload at_438 rfl rfl
      have g_o := go
      obtain ⟨m0, hm0, hmc⟩ : ∃ m0 : Int, (∀ y ∈ S, m0 ≤ y) ∧ 2 * ((ee.toInt - m0) / 64 + 2) ≤ 388 := by
        rcases hec with h | h
        · exact ⟨ee.toInt, fun y hy => by rw [h] at hy; simp at hy, by omega⟩
        · exact ⟨xa.toInt, hmin, by omega⟩
      obtain ⟨r60, s59⟩ := Sit.callV (C := "reenact/trace/IntBits") (y := (⟨"reenact/trace/IntBits", "add", "(I)V"⟩ : MethodName)) (W := 0) (Q := fun rv_ hh => ∃ v58 : Addr, ∃ b58 : Int32, ∃ h58 : Int32, ∃ z58 : Int32, ∃ ws58 : List Int64, (rv_ = none ∧ (n0 ≤ v58 ∧ @Ne Nat o v58 ∧ z58.toInt = ((ee.toInt :: S).length : Int) ∧ Inv (ee.toInt :: S) b58.toInt h58.toInt ee.toInt ws58 ∧ ws58.length ≤ 388)) ∧ (fun hh => Exa Z hh o "reenact/trace/IntBits" ∧ Fld Z hh o "reenact/trace/IntBits" "words" "[J" (.ref v58) ∧ Fld Z hh o "reenact/trace/IntBits" "greatest" "I" (.int ee) ∧ Fld Z hh o "reenact/trace/IntBits" "size" "I" (.int z58) ∧ Fld Z hh o "reenact/trace/IntBits" "base" "I" (.int b58) ∧ Fld Z hh o "reenact/trace/IntBits" "head" "I" (.int h58) ∧ AV Z hh v58 .long (ws58.map Value.long)) hh) [(.int ee)] [] s57 hZ hown (wi hw 16 rfl) (wi hw 17 rfl) (wi hw 19 rfl) (wi hw 18 rfl) (wi hw 20 rfl) (wi hw 4 rfl) (by decide) (fun hh q => q.1) (fun h1 hP hn => (rmA l Z a0 hw [] o ee v bI hI gI zI ws S m0 388 h1 n0 hn g_o gv ne V hz (by omega) hge he0 hm0 (by omega) hl (by decide) hP).mono fun rv_ hh q => by
          obtain ⟨e1, v', b', h', z', ws', e2, e3⟩ := q
          exact ⟨v', b', h', z', ws', ⟨e1, e2⟩, e3⟩) hml rfl (lenOf pd_2 rfl) at_440 (Nat.le_of_eq rfl) (by decide) (by decide) (by decide) (by decide) (pc' := 443) rfl
      obtain ⟨v58, s62⟩ := s59.ex
      obtain ⟨b58, s63⟩ := s62.ex
      obtain ⟨h58, s64⟩ := s63.ex
      obtain ⟨z58, s65⟩ := s64.ex
      obtain ⟨ws58, s66⟩ := s65.ex
      obtain ⟨_, ⟨er60, spr60⟩, _⟩ := s66.facts
      subst er60
      have s61 : Sit p l e _ s m _ below meth c _ st n0 13 948 (fun hh => Exa Z hh o "reenact/trace/IntBits" ∧ Fld Z hh o "reenact/trace/IntBits" "words" "[J" (.ref v58) ∧ Fld Z hh o "reenact/trace/IntBits" "greatest" "I" (.int ee) ∧ Fld Z hh o "reenact/trace/IntBits" "size" "I" (.int z58) ∧ Fld Z hh o "reenact/trace/IntBits" "base" "I" (.int b58) ∧ Fld Z hh o "reenact/trace/IntBits" "head" "I" (.int h58) ∧ AV Z hh v58 .long (ws58.map Value.long)) 443 #[.val (.int u0), .val (.long u1), .second, .val (.int u3), .val (.int u4), .val (.int u5), .val (.int n'), .val (.int xa), .val (.int xb), .val (.int xc), .val (.int g4), .val (.int rA), .val (.int rB), .val (.int rC), .val (.int rv), .val (.int (1 : Int32)), .val (.int nr), .val (.int cs), .val (.int hA), .val (.int hB), .val (.int hC), .val (.int em), .val (.int hi), .val (.int ee), .val (.ref o), .unset, .unset, .unset] [] := s66.mono fun _ q => q.2
      obtain ⟨gv58, ne58, hz58, V58, hl58⟩ := spr60
      have VV := V58
      have zz := hz58
      have mem : ∀ y : Int32, y.toInt ∈ (ee.toInt :: S) ↔ ((¬ hA = 0 ∧ y = xa) ∨ ((¬ hB = 0 ∧ y = xb) ∨ ((¬ hC = 0 ∧ y = xc) ∨ (¬ (1 : Int32) = 0 ∧ y = ee)))) := fun y => by
        rw [List.mem_cons, hS y]
        have d1 : ¬ (1 : Int32) = 0 := by decide
        constructor
        · rintro (h | h | h | h)
          · exact Or.inr (Or.inr (Or.inr ⟨d1, Int32.toInt_inj.mp h⟩))
          · exact Or.inl h
          · exact Or.inr (Or.inl h)
          · exact Or.inr (Or.inr (Or.inl h))
        · rintro (h | h | h | h)
          · exact Or.inr (Or.inl h)
          · exact Or.inr (Or.inr (Or.inl h))
          · exact Or.inr (Or.inr (Or.inr h))
          · exact Or.inl (by rw [h.2])
      obtain ⟨ct, e_ct, s77⟩ : ∃ ct : Int32, (True) ∧ Sit p l e room_1 s m #[(.int u0), (.long u1), (.int u3), (.int u4), (.int u5)] below meth c code st n0 13 948 (fun hh => Exa Z hh o "reenact/trace/IntBits" ∧ Fld Z hh o "reenact/trace/IntBits" "words" "[J" (.ref v58) ∧ Fld Z hh o "reenact/trace/IntBits" "greatest" "I" (.int ee) ∧ Fld Z hh o "reenact/trace/IntBits" "size" "I" (.int z58) ∧ Fld Z hh o "reenact/trace/IntBits" "base" "I" (.int b58) ∧ Fld Z hh o "reenact/trace/IntBits" "head" "I" (.int h58) ∧ AV Z hh v58 .long (ws58.map Value.long)) 477 #[.val (.int u0), .val (.long u1), .second, .val (.int u3), .val (.int u4), .val (.int u5), .val (.int n'), .val (.int xa), .val (.int xb), .val (.int xc), .val (.int g4), .val (.int rA), .val (.int rB), .val (.int rC), .val (.int rv), .val (.int (1 : Int32)), .val (.int nr), .val (.int cs), .val (.int hA), .val (.int hB), .val (.int hC), .val (.int em), .val (.int hi), .val (.int ee), .val (.ref o), .unset, .unset, .unset] [(.int ct)] := by
        have s67 : Sit p l e _ s m _ below meth c _ st n0 13 948 _ 445 #[.val (.int u0), .val (.long u1), .second, .val (.int u3), .val (.int u4), .val (.int u5), .val (.int n'), .val (.int xa), .val (.int xb), .val (.int xc), .val (.int g4), .val (.int rA), .val (.int rB), .val (.int rC), .val (.int rv), .val (.int (1 : Int32)), .val (.int nr), .val (.int cs), .val (.int hA), .val (.int hB), .val (.int hC), .val (.int em), .val (.int hi), .val (.int ee), .val (.ref o), .unset, .unset, .unset] [(.int cs)] := s61
          |>.iload at_443 rfl rfl
        by_cases cnd68 : ¬ cs = 0
        · have s69 : Sit p l e _ s m _ below meth c _ st n0 13 948 _ 456 #[.val (.int u0), .val (.long u1), .second, .val (.int u3), .val (.int u4), .val (.int u5), .val (.int n'), .val (.int xa), .val (.int xb), .val (.int xc), .val (.int g4), .val (.int rA), .val (.int rB), .val (.int rC), .val (.int rv), .val (.int (1 : Int32)), .val (.int nr), .val (.int cs), .val (.int hA), .val (.int hB), .val (.int hC), .val (.int em), .val (.int hi), .val (.int ee), .val (.ref o), .unset, .unset, .unset] [(.int (1 : Int32)), (.int cs)] := s67
            |>.ifY at_445 (neT cnd68) (by decide) (by decide)
            |>.iload at_453 rfl rfl
            |>.iconst (1 : Int32) at_455 rfl rfl
          by_cases cnd70 : ¬ cs = (1 : Int32)
          · have s71 : Sit p l e _ s m _ below meth c _ st n0 13 948 _ 467 #[.val (.int u0), .val (.long u1), .second, .val (.int u3), .val (.int u4), .val (.int u5), .val (.int n'), .val (.int xa), .val (.int xb), .val (.int xc), .val (.int g4), .val (.int rA), .val (.int rB), .val (.int rC), .val (.int rv), .val (.int (1 : Int32)), .val (.int nr), .val (.int cs), .val (.int hA), .val (.int hB), .val (.int hC), .val (.int em), .val (.int hi), .val (.int ee), .val (.ref o), .unset, .unset, .unset] [(.int (2 : Int32)), (.int cs)] := s69
              |>.icmpY at_456 (neT cnd70) (by decide) (by decide)
              |>.iload at_464 rfl rfl
              |>.iconst (2 : Int32) at_466 rfl rfl
            by_cases cnd72 : ¬ cs = (2 : Int32)
            · have s73 : Sit p l e _ s m _ below meth c _ st n0 13 948 _ 477 #[.val (.int u0), .val (.long u1), .second, .val (.int u3), .val (.int u4), .val (.int u5), .val (.int n'), .val (.int xa), .val (.int xb), .val (.int xc), .val (.int g4), .val (.int rA), .val (.int rB), .val (.int rC), .val (.int rv), .val (.int (1 : Int32)), .val (.int nr), .val (.int cs), .val (.int hA), .val (.int hB), .val (.int hC), .val (.int em), .val (.int hi), .val (.int ee), .val (.ref o), .unset, .unset, .unset] [(.int ee)] := s71
                |>.icmpY at_467 (neT cnd72) (by decide) (by decide)
                |>.iload at_475 rfl rfl
              exact ⟨ee, trivial, s73⟩
            · have s74 : Sit p l e _ s m _ below meth c _ st n0 13 948 _ 477 #[.val (.int u0), .val (.long u1), .second, .val (.int u3), .val (.int u4), .val (.int u5), .val (.int n'), .val (.int xa), .val (.int xb), .val (.int xc), .val (.int g4), .val (.int rA), .val (.int rB), .val (.int rC), .val (.int rv), .val (.int (1 : Int32)), .val (.int nr), .val (.int cs), .val (.int hA), .val (.int hB), .val (.int hC), .val (.int em), .val (.int hi), .val (.int ee), .val (.ref o), .unset, .unset, .unset] [(.int xc)] := s71
                |>.icmpN at_467 ((neF (Classical.not_not.mp cnd72))) rfl
                |>.iload at_470 rfl rfl
                |>.goto at_472 (by decide) (by decide)
              exact ⟨xc, trivial, s74⟩
          · have s75 : Sit p l e _ s m _ below meth c _ st n0 13 948 _ 477 #[.val (.int u0), .val (.long u1), .second, .val (.int u3), .val (.int u4), .val (.int u5), .val (.int n'), .val (.int xa), .val (.int xb), .val (.int xc), .val (.int g4), .val (.int rA), .val (.int rB), .val (.int rC), .val (.int rv), .val (.int (1 : Int32)), .val (.int nr), .val (.int cs), .val (.int hA), .val (.int hB), .val (.int hC), .val (.int em), .val (.int hi), .val (.int ee), .val (.ref o), .unset, .unset, .unset] [(.int xb)] := s69
              |>.icmpN at_456 ((neF (Classical.not_not.mp cnd70))) rfl
              |>.iload at_459 rfl rfl
              |>.goto at_461 (by decide) (by decide)
            exact ⟨xb, trivial, s75⟩
        · have s76 : Sit p l e _ s m _ below meth c _ st n0 13 948 _ 477 #[.val (.int u0), .val (.long u1), .second, .val (.int u3), .val (.int u4), .val (.int u5), .val (.int n'), .val (.int xa), .val (.int xb), .val (.int xc), .val (.int g4), .val (.int rA), .val (.int rB), .val (.int rC), .val (.int rv), .val (.int (1 : Int32)), .val (.int nr), .val (.int cs), .val (.int hA), .val (.int hB), .val (.int hC), .val (.int em), .val (.int hi), .val (.int ee), .val (.ref o), .unset, .unset, .unset] [(.int xa)] := s67
            |>.ifN at_445 ((neF (Classical.not_not.mp cnd68))) rfl
            |>.iload at_448 rfl rfl
            |>.goto at_450 (by decide) (by decide)
          exact ⟨xa, trivial, s76⟩
      have s78 : Sit p l e _ s m _ below meth c _ st n0 13 948 _ 479 #[.val (.int u0), .val (.long u1), .second, .val (.int u3), .val (.int u4), .val (.int u5), .val (.int n'), .val (.int xa), .val (.int xb), .val (.int xc), .val (.int g4), .val (.int rA), .val (.int rB), .val (.int rC), .val (.int rv), .val (.int (1 : Int32)), .val (.int nr), .val (.int cs), .val (.int hA), .val (.int hB), .val (.int hC), .val (.int em), .val (.int hi), .val (.int ee), .val (.ref o), .val (.int ct), .unset, .unset] [] := s77
        |>.istore #[.val (.int u0), .val (.long u1), .second, .val (.int u3), .val (.int u4), .val (.int u5), .val (.int n'), .val (.int xa), .val (.int xb), .val (.int xc), .val (.int g4), .val (.int rA), .val (.int rB), .val (.int rC), .val (.int rv), .val (.int (1 : Int32)), .val (.int nr), .val (.int cs), .val (.int hA), .val (.int hB), .val (.int hC), .val (.int em), .val (.int hi), .val (.int ee), .val (.ref o), .val (.int ct), .unset, .unset] at_477 rfl rfl
      obtain ⟨qq, e_qq, s83⟩ : ∃ qq : Int32, (True) ∧ Sit p l e room_1 s m #[(.int u0), (.long u1), (.int u3), (.int u4), (.int u5)] below meth c code st n0 13 948 (fun hh => Exa Z hh o "reenact/trace/IntBits" ∧ Fld Z hh o "reenact/trace/IntBits" "words" "[J" (.ref v58) ∧ Fld Z hh o "reenact/trace/IntBits" "greatest" "I" (.int ee) ∧ Fld Z hh o "reenact/trace/IntBits" "size" "I" (.int z58) ∧ Fld Z hh o "reenact/trace/IntBits" "base" "I" (.int b58) ∧ Fld Z hh o "reenact/trace/IntBits" "head" "I" (.int h58) ∧ AV Z hh v58 .long (ws58.map Value.long)) 498 #[.val (.int u0), .val (.long u1), .second, .val (.int u3), .val (.int u4), .val (.int u5), .val (.int n'), .val (.int xa), .val (.int xb), .val (.int xc), .val (.int g4), .val (.int rA), .val (.int rB), .val (.int rC), .val (.int rv), .val (.int (1 : Int32)), .val (.int nr), .val (.int cs), .val (.int hA), .val (.int hB), .val (.int hC), .val (.int em), .val (.int hi), .val (.int ee), .val (.ref o), .val (.int ct), .unset, .unset] [(.int qq)] := by
        have s79 : Sit p l e _ s m _ below meth c _ st n0 13 948 _ 481 #[.val (.int u0), .val (.long u1), .second, .val (.int u3), .val (.int u4), .val (.int u5), .val (.int n'), .val (.int xa), .val (.int xb), .val (.int xc), .val (.int g4), .val (.int rA), .val (.int rB), .val (.int rC), .val (.int rv), .val (.int (1 : Int32)), .val (.int nr), .val (.int cs), .val (.int hA), .val (.int hB), .val (.int hC), .val (.int em), .val (.int hi), .val (.int ee), .val (.ref o), .val (.int ct), .unset, .unset] [(.int nr)] := s78
          |>.iload at_479 rfl rfl
        by_cases cnd80 : nr = 0
        · have s81 : Sit p l e _ s m _ below meth c _ st n0 13 948 _ 498 #[.val (.int u0), .val (.long u1), .second, .val (.int u3), .val (.int u4), .val (.int u5), .val (.int n'), .val (.int xa), .val (.int xb), .val (.int xc), .val (.int g4), .val (.int rA), .val (.int rB), .val (.int rC), .val (.int rv), .val (.int (1 : Int32)), .val (.int nr), .val (.int cs), .val (.int hA), .val (.int hB), .val (.int hC), .val (.int em), .val (.int hi), .val (.int ee), .val (.ref o), .val (.int ct), .unset, .unset] [(.int u4)] := s79
            |>.ifY at_481 (eqT cnd80) (by decide) (by decide)
            |>.iload at_496 rfl rfl
          exact ⟨u4, trivial, s81⟩
        · have s82 : Sit p l e _ s m _ below meth c _ st n0 13 948 _ 498 #[.val (.int u0), .val (.long u1), .second, .val (.int u3), .val (.int u4), .val (.int u5), .val (.int n'), .val (.int xa), .val (.int xb), .val (.int xc), .val (.int g4), .val (.int rA), .val (.int rB), .val (.int rC), .val (.int rv), .val (.int (1 : Int32)), .val (.int nr), .val (.int cs), .val (.int hA), .val (.int hB), .val (.int hC), .val (.int em), .val (.int hi), .val (.int ee), .val (.ref o), .val (.int ct), .unset, .unset] [(.int (ct + (u4 % (8200 : Int32))))] := s79
            |>.ifN at_481 (eqF cnd80) rfl
            |>.iload at_484 rfl rfl
            |>.iload at_486 rfl rfl
            |>.sipush (8200 : Int32) at_488 rfl rfl
            |>.irem at_491 (by decide) rfl
            |>.iadd at_492 rfl
            |>.goto at_493 (by decide) (by decide)
          exact ⟨(ct + (u4 % (8200 : Int32))), trivial, s82⟩
      have s84 : Sit p l e _ s m _ below meth c _ st n0 13 948 _ 500 #[.val (.int u0), .val (.long u1), .second, .val (.int u3), .val (.int u4), .val (.int u5), .val (.int n'), .val (.int xa), .val (.int xb), .val (.int xc), .val (.int g4), .val (.int rA), .val (.int rB), .val (.int rC), .val (.int rv), .val (.int (1 : Int32)), .val (.int nr), .val (.int cs), .val (.int hA), .val (.int hB), .val (.int hC), .val (.int em), .val (.int hi), .val (.int ee), .val (.ref o), .val (.int ct), .val (.int qq), .unset] [] := s83
        |>.istore #[.val (.int u0), .val (.long u1), .second, .val (.int u3), .val (.int u4), .val (.int u5), .val (.int n'), .val (.int xa), .val (.int xb), .val (.int xc), .val (.int g4), .val (.int rA), .val (.int rB), .val (.int rC), .val (.int rv), .val (.int (1 : Int32)), .val (.int nr), .val (.int cs), .val (.int hA), .val (.int hB), .val (.int hC), .val (.int em), .val (.int hi), .val (.int ee), .val (.ref o), .val (.int ct), .val (.int qq), .unset] at_498 rfl rfl
      have j536 : Sit p l e room_1 s m #[(.int u0), (.long u1), (.int u3), (.int u4), (.int u5)] below meth c code st n0 13 948 (fun hh => Exa Z hh o "reenact/trace/IntBits" ∧ Fld Z hh o "reenact/trace/IntBits" "words" "[J" (.ref v58) ∧ Fld Z hh o "reenact/trace/IntBits" "greatest" "I" (.int ee) ∧ Fld Z hh o "reenact/trace/IntBits" "size" "I" (.int z58) ∧ Fld Z hh o "reenact/trace/IntBits" "base" "I" (.int b58) ∧ Fld Z hh o "reenact/trace/IntBits" "head" "I" (.int h58) ∧ AV Z hh v58 .long (ws58.map Value.long)) 536 #[.val (.int u0), .val (.long u1), .second, .val (.int u3), .val (.int u4), .val (.int u5), .val (.int n'), .val (.int xa), .val (.int xb), .val (.int xc), .val (.int g4), .val (.int rA), .val (.int rB), .val (.int rC), .val (.int rv), .val (.int (1 : Int32)), .val (.int nr), .val (.int cs), .val (.int hA), .val (.int hB), .val (.int hC), .val (.int em), .val (.int hi), .val (.int ee), .val (.ref o), .val (.int ct), .val (.int qq), .unset] [] → ∃ xp : Int32, ((xp = 1 ∧ (¬ (1 : Int32) = 0 ∧ qq = ee)) ∨ (xp = 0 ∧ ¬ (¬ (1 : Int32) = 0 ∧ qq = ee))) ∧ Sit p l e room_1 s m #[(.int u0), (.long u1), (.int u3), (.int u4), (.int u5)] below meth c code st n0 13 948 (fun hh => Exa Z hh o "reenact/trace/IntBits" ∧ Fld Z hh o "reenact/trace/IntBits" "words" "[J" (.ref v58) ∧ Fld Z hh o "reenact/trace/IntBits" "greatest" "I" (.int ee) ∧ Fld Z hh o "reenact/trace/IntBits" "size" "I" (.int z58) ∧ Fld Z hh o "reenact/trace/IntBits" "base" "I" (.int b58) ∧ Fld Z hh o "reenact/trace/IntBits" "head" "I" (.int h58) ∧ AV Z hh v58 .long (ws58.map Value.long)) 553 #[.val (.int u0), .val (.long u1), .second, .val (.int u3), .val (.int u4), .val (.int u5), .val (.int n'), .val (.int xa), .val (.int xb), .val (.int xc), .val (.int g4), .val (.int rA), .val (.int rB), .val (.int rC), .val (.int rv), .val (.int (1 : Int32)), .val (.int nr), .val (.int cs), .val (.int hA), .val (.int hB), .val (.int hC), .val (.int em), .val (.int hi), .val (.int ee), .val (.ref o), .val (.int ct), .val (.int qq), .unset] [(.int xp)] := by
        intro q0
        have s85 : Sit p l e _ s m _ below meth c _ st n0 13 948 _ 538 #[.val (.int u0), .val (.long u1), .second, .val (.int u3), .val (.int u4), .val (.int u5), .val (.int n'), .val (.int xa), .val (.int xb), .val (.int xc), .val (.int g4), .val (.int rA), .val (.int rB), .val (.int rC), .val (.int rv), .val (.int (1 : Int32)), .val (.int nr), .val (.int cs), .val (.int hA), .val (.int hB), .val (.int hC), .val (.int em), .val (.int hi), .val (.int ee), .val (.ref o), .val (.int ct), .val (.int qq), .unset] [(.int (1 : Int32))] := q0
          |>.iload at_536 rfl rfl
        have c0 : ¬ (1 : Int32) = 0 := by decide
        have s86 : Sit p l e _ s m _ below meth c _ st n0 13 948 _ 545 #[.val (.int u0), .val (.long u1), .second, .val (.int u3), .val (.int u4), .val (.int u5), .val (.int n'), .val (.int xa), .val (.int xb), .val (.int xc), .val (.int g4), .val (.int rA), .val (.int rB), .val (.int rC), .val (.int rv), .val (.int (1 : Int32)), .val (.int nr), .val (.int cs), .val (.int hA), .val (.int hB), .val (.int hC), .val (.int em), .val (.int hi), .val (.int ee), .val (.ref o), .val (.int ct), .val (.int qq), .unset] [(.int ee), (.int qq)] := s85
          |>.ifN at_538 (eqF (show ¬ ((1 : Int32) = 0) from c0)) rfl
          |>.iload at_541 rfl rfl
          |>.iload at_543 rfl rfl
        by_cases c1 : ¬ qq = ee
        · have s89 : Sit p l e _ s m _ below meth c _ st n0 13 948 _ 553 #[.val (.int u0), .val (.long u1), .second, .val (.int u3), .val (.int u4), .val (.int u5), .val (.int n'), .val (.int xa), .val (.int xb), .val (.int xc), .val (.int g4), .val (.int rA), .val (.int rB), .val (.int rC), .val (.int rv), .val (.int (1 : Int32)), .val (.int nr), .val (.int cs), .val (.int hA), .val (.int hB), .val (.int hC), .val (.int em), .val (.int hi), .val (.int ee), .val (.ref o), .val (.int ct), .val (.int qq), .unset] [(.int (0 : Int32))] := s86
            |>.icmpY at_545 (neT c1) (by decide) (by decide)
            |>.iconst (0 : Int32) at_552 rfl rfl
          exact ⟨0, Or.inr ⟨rfl, fun h => c1 h.2⟩, s89⟩
        · have s87 : Sit p l e _ s m _ below meth c _ st n0 13 948 _ 548 #[.val (.int u0), .val (.long u1), .second, .val (.int u3), .val (.int u4), .val (.int u5), .val (.int n'), .val (.int xa), .val (.int xb), .val (.int xc), .val (.int g4), .val (.int rA), .val (.int rB), .val (.int rC), .val (.int rv), .val (.int (1 : Int32)), .val (.int nr), .val (.int cs), .val (.int hA), .val (.int hB), .val (.int hC), .val (.int em), .val (.int hi), .val (.int ee), .val (.ref o), .val (.int ct), .val (.int qq), .unset] [] := s86
            |>.icmpN at_545 ((neF (Classical.not_not.mp c1))) rfl
          have c1 := Classical.not_not.mp c1
          have s88 : Sit p l e _ s m _ below meth c _ st n0 13 948 _ 553 #[.val (.int u0), .val (.long u1), .second, .val (.int u3), .val (.int u4), .val (.int u5), .val (.int n'), .val (.int xa), .val (.int xb), .val (.int xc), .val (.int g4), .val (.int rA), .val (.int rB), .val (.int rC), .val (.int rv), .val (.int (1 : Int32)), .val (.int nr), .val (.int cs), .val (.int hA), .val (.int hB), .val (.int hC), .val (.int em), .val (.int hi), .val (.int ee), .val (.ref o), .val (.int ct), .val (.int qq), .unset] [(.int (1 : Int32))] := s87
            |>.iconst (1 : Int32) at_548 rfl rfl
            |>.goto at_549 (by decide) (by decide)
          exact ⟨1, Or.inl ⟨rfl, ⟨c0, c1⟩⟩, s88⟩
      have j524 : Sit p l e room_1 s m #[(.int u0), (.long u1), (.int u3), (.int u4), (.int u5)] below meth c code st n0 13 948 (fun hh => Exa Z hh o "reenact/trace/IntBits" ∧ Fld Z hh o "reenact/trace/IntBits" "words" "[J" (.ref v58) ∧ Fld Z hh o "reenact/trace/IntBits" "greatest" "I" (.int ee) ∧ Fld Z hh o "reenact/trace/IntBits" "size" "I" (.int z58) ∧ Fld Z hh o "reenact/trace/IntBits" "base" "I" (.int b58) ∧ Fld Z hh o "reenact/trace/IntBits" "head" "I" (.int h58) ∧ AV Z hh v58 .long (ws58.map Value.long)) 524 #[.val (.int u0), .val (.long u1), .second, .val (.int u3), .val (.int u4), .val (.int u5), .val (.int n'), .val (.int xa), .val (.int xb), .val (.int xc), .val (.int g4), .val (.int rA), .val (.int rB), .val (.int rC), .val (.int rv), .val (.int (1 : Int32)), .val (.int nr), .val (.int cs), .val (.int hA), .val (.int hB), .val (.int hC), .val (.int em), .val (.int hi), .val (.int ee), .val (.ref o), .val (.int ct), .val (.int qq), .unset] [] → ∃ xp : Int32, ((xp = 1 ∧ ((¬ hC = 0 ∧ qq = xc) ∨ (¬ (1 : Int32) = 0 ∧ qq = ee))) ∨ (xp = 0 ∧ ¬ ((¬ hC = 0 ∧ qq = xc) ∨ (¬ (1 : Int32) = 0 ∧ qq = ee)))) ∧ Sit p l e room_1 s m #[(.int u0), (.long u1), (.int u3), (.int u4), (.int u5)] below meth c code st n0 13 948 (fun hh => Exa Z hh o "reenact/trace/IntBits" ∧ Fld Z hh o "reenact/trace/IntBits" "words" "[J" (.ref v58) ∧ Fld Z hh o "reenact/trace/IntBits" "greatest" "I" (.int ee) ∧ Fld Z hh o "reenact/trace/IntBits" "size" "I" (.int z58) ∧ Fld Z hh o "reenact/trace/IntBits" "base" "I" (.int b58) ∧ Fld Z hh o "reenact/trace/IntBits" "head" "I" (.int h58) ∧ AV Z hh v58 .long (ws58.map Value.long)) 553 #[.val (.int u0), .val (.long u1), .second, .val (.int u3), .val (.int u4), .val (.int u5), .val (.int n'), .val (.int xa), .val (.int xb), .val (.int xc), .val (.int g4), .val (.int rA), .val (.int rB), .val (.int rC), .val (.int rv), .val (.int (1 : Int32)), .val (.int nr), .val (.int cs), .val (.int hA), .val (.int hB), .val (.int hC), .val (.int em), .val (.int hi), .val (.int ee), .val (.ref o), .val (.int ct), .val (.int qq), .unset] [(.int xp)] := by
        intro q0
        have s90 : Sit p l e _ s m _ below meth c _ st n0 13 948 _ 526 #[.val (.int u0), .val (.long u1), .second, .val (.int u3), .val (.int u4), .val (.int u5), .val (.int n'), .val (.int xa), .val (.int xb), .val (.int xc), .val (.int g4), .val (.int rA), .val (.int rB), .val (.int rC), .val (.int rv), .val (.int (1 : Int32)), .val (.int nr), .val (.int cs), .val (.int hA), .val (.int hB), .val (.int hC), .val (.int em), .val (.int hi), .val (.int ee), .val (.ref o), .val (.int ct), .val (.int qq), .unset] [(.int hC)] := q0
          |>.iload at_524 rfl rfl
        by_cases c0 : hC = 0
        · have s91 : Sit p l e _ s m _ below meth c _ st n0 13 948 _ 536 #[.val (.int u0), .val (.long u1), .second, .val (.int u3), .val (.int u4), .val (.int u5), .val (.int n'), .val (.int xa), .val (.int xb), .val (.int xc), .val (.int g4), .val (.int rA), .val (.int rB), .val (.int rC), .val (.int rv), .val (.int (1 : Int32)), .val (.int nr), .val (.int cs), .val (.int hA), .val (.int hB), .val (.int hC), .val (.int em), .val (.int hi), .val (.int ee), .val (.ref o), .val (.int ct), .val (.int qq), .unset] [] := s90
            |>.ifY at_526 (eqT c0) (by decide) (by decide)
          obtain ⟨xp, hxp, sx⟩ := j536 s91
          refine ⟨xp, ?_, sx⟩
          rcases hxp with ⟨e1, e2⟩ | ⟨e1, e2⟩
          · exact Or.inl ⟨e1, Or.inr e2⟩
          · exact Or.inr ⟨e1, fun h => h.elim (fun h => h.1 c0) e2⟩
        · have s92 : Sit p l e _ s m _ below meth c _ st n0 13 948 _ 533 #[.val (.int u0), .val (.long u1), .second, .val (.int u3), .val (.int u4), .val (.int u5), .val (.int n'), .val (.int xa), .val (.int xb), .val (.int xc), .val (.int g4), .val (.int rA), .val (.int rB), .val (.int rC), .val (.int rv), .val (.int (1 : Int32)), .val (.int nr), .val (.int cs), .val (.int hA), .val (.int hB), .val (.int hC), .val (.int em), .val (.int hi), .val (.int ee), .val (.ref o), .val (.int ct), .val (.int qq), .unset] [(.int xc), (.int qq)] := s90
            |>.ifN at_526 (eqF c0) rfl
            |>.iload at_529 rfl rfl
            |>.iload at_531 rfl rfl
          by_cases c1 : qq = xc
          · have s93 : Sit p l e _ s m _ below meth c _ st n0 13 948 _ 553 #[.val (.int u0), .val (.long u1), .second, .val (.int u3), .val (.int u4), .val (.int u5), .val (.int n'), .val (.int xa), .val (.int xb), .val (.int xc), .val (.int g4), .val (.int rA), .val (.int rB), .val (.int rC), .val (.int rv), .val (.int (1 : Int32)), .val (.int nr), .val (.int cs), .val (.int hA), .val (.int hB), .val (.int hC), .val (.int em), .val (.int hi), .val (.int ee), .val (.ref o), .val (.int ct), .val (.int qq), .unset] [(.int (1 : Int32))] := s92
              |>.icmpY at_533 (eqT c1) (by decide) (by decide)
              |>.iconst (1 : Int32) at_548 rfl rfl
              |>.goto at_549 (by decide) (by decide)
            exact ⟨1, Or.inl ⟨rfl, Or.inl ⟨c0, c1⟩⟩, s93⟩
          · have s94 : Sit p l e _ s m _ below meth c _ st n0 13 948 _ 536 #[.val (.int u0), .val (.long u1), .second, .val (.int u3), .val (.int u4), .val (.int u5), .val (.int n'), .val (.int xa), .val (.int xb), .val (.int xc), .val (.int g4), .val (.int rA), .val (.int rB), .val (.int rC), .val (.int rv), .val (.int (1 : Int32)), .val (.int nr), .val (.int cs), .val (.int hA), .val (.int hB), .val (.int hC), .val (.int em), .val (.int hi), .val (.int ee), .val (.ref o), .val (.int ct), .val (.int qq), .unset] [] := s92
              |>.icmpN at_533 (eqF c1) rfl
            obtain ⟨xp, hxp, sx⟩ := j536 s94
            refine ⟨xp, ?_, sx⟩
            rcases hxp with ⟨e1, e2⟩ | ⟨e1, e2⟩
            · exact Or.inl ⟨e1, Or.inr e2⟩
            · exact Or.inr ⟨e1, fun h => h.elim (fun h => c1 h.2) e2⟩
      have j512 : Sit p l e room_1 s m #[(.int u0), (.long u1), (.int u3), (.int u4), (.int u5)] below meth c code st n0 13 948 (fun hh => Exa Z hh o "reenact/trace/IntBits" ∧ Fld Z hh o "reenact/trace/IntBits" "words" "[J" (.ref v58) ∧ Fld Z hh o "reenact/trace/IntBits" "greatest" "I" (.int ee) ∧ Fld Z hh o "reenact/trace/IntBits" "size" "I" (.int z58) ∧ Fld Z hh o "reenact/trace/IntBits" "base" "I" (.int b58) ∧ Fld Z hh o "reenact/trace/IntBits" "head" "I" (.int h58) ∧ AV Z hh v58 .long (ws58.map Value.long)) 512 #[.val (.int u0), .val (.long u1), .second, .val (.int u3), .val (.int u4), .val (.int u5), .val (.int n'), .val (.int xa), .val (.int xb), .val (.int xc), .val (.int g4), .val (.int rA), .val (.int rB), .val (.int rC), .val (.int rv), .val (.int (1 : Int32)), .val (.int nr), .val (.int cs), .val (.int hA), .val (.int hB), .val (.int hC), .val (.int em), .val (.int hi), .val (.int ee), .val (.ref o), .val (.int ct), .val (.int qq), .unset] [] → ∃ xp : Int32, ((xp = 1 ∧ ((¬ hB = 0 ∧ qq = xb) ∨ ((¬ hC = 0 ∧ qq = xc) ∨ (¬ (1 : Int32) = 0 ∧ qq = ee)))) ∨ (xp = 0 ∧ ¬ ((¬ hB = 0 ∧ qq = xb) ∨ ((¬ hC = 0 ∧ qq = xc) ∨ (¬ (1 : Int32) = 0 ∧ qq = ee))))) ∧ Sit p l e room_1 s m #[(.int u0), (.long u1), (.int u3), (.int u4), (.int u5)] below meth c code st n0 13 948 (fun hh => Exa Z hh o "reenact/trace/IntBits" ∧ Fld Z hh o "reenact/trace/IntBits" "words" "[J" (.ref v58) ∧ Fld Z hh o "reenact/trace/IntBits" "greatest" "I" (.int ee) ∧ Fld Z hh o "reenact/trace/IntBits" "size" "I" (.int z58) ∧ Fld Z hh o "reenact/trace/IntBits" "base" "I" (.int b58) ∧ Fld Z hh o "reenact/trace/IntBits" "head" "I" (.int h58) ∧ AV Z hh v58 .long (ws58.map Value.long)) 553 #[.val (.int u0), .val (.long u1), .second, .val (.int u3), .val (.int u4), .val (.int u5), .val (.int n'), .val (.int xa), .val (.int xb), .val (.int xc), .val (.int g4), .val (.int rA), .val (.int rB), .val (.int rC), .val (.int rv), .val (.int (1 : Int32)), .val (.int nr), .val (.int cs), .val (.int hA), .val (.int hB), .val (.int hC), .val (.int em), .val (.int hi), .val (.int ee), .val (.ref o), .val (.int ct), .val (.int qq), .unset] [(.int xp)] := by
        intro q0
        have s95 : Sit p l e _ s m _ below meth c _ st n0 13 948 _ 514 #[.val (.int u0), .val (.long u1), .second, .val (.int u3), .val (.int u4), .val (.int u5), .val (.int n'), .val (.int xa), .val (.int xb), .val (.int xc), .val (.int g4), .val (.int rA), .val (.int rB), .val (.int rC), .val (.int rv), .val (.int (1 : Int32)), .val (.int nr), .val (.int cs), .val (.int hA), .val (.int hB), .val (.int hC), .val (.int em), .val (.int hi), .val (.int ee), .val (.ref o), .val (.int ct), .val (.int qq), .unset] [(.int hB)] := q0
          |>.iload at_512 rfl rfl
        by_cases c0 : hB = 0
        · have s96 : Sit p l e _ s m _ below meth c _ st n0 13 948 _ 524 #[.val (.int u0), .val (.long u1), .second, .val (.int u3), .val (.int u4), .val (.int u5), .val (.int n'), .val (.int xa), .val (.int xb), .val (.int xc), .val (.int g4), .val (.int rA), .val (.int rB), .val (.int rC), .val (.int rv), .val (.int (1 : Int32)), .val (.int nr), .val (.int cs), .val (.int hA), .val (.int hB), .val (.int hC), .val (.int em), .val (.int hi), .val (.int ee), .val (.ref o), .val (.int ct), .val (.int qq), .unset] [] := s95
            |>.ifY at_514 (eqT c0) (by decide) (by decide)
          obtain ⟨xp, hxp, sx⟩ := j524 s96
          refine ⟨xp, ?_, sx⟩
          rcases hxp with ⟨e1, e2⟩ | ⟨e1, e2⟩
          · exact Or.inl ⟨e1, Or.inr e2⟩
          · exact Or.inr ⟨e1, fun h => h.elim (fun h => h.1 c0) e2⟩
        · have s97 : Sit p l e _ s m _ below meth c _ st n0 13 948 _ 521 #[.val (.int u0), .val (.long u1), .second, .val (.int u3), .val (.int u4), .val (.int u5), .val (.int n'), .val (.int xa), .val (.int xb), .val (.int xc), .val (.int g4), .val (.int rA), .val (.int rB), .val (.int rC), .val (.int rv), .val (.int (1 : Int32)), .val (.int nr), .val (.int cs), .val (.int hA), .val (.int hB), .val (.int hC), .val (.int em), .val (.int hi), .val (.int ee), .val (.ref o), .val (.int ct), .val (.int qq), .unset] [(.int xb), (.int qq)] := s95
            |>.ifN at_514 (eqF c0) rfl
            |>.iload at_517 rfl rfl
            |>.iload at_519 rfl rfl
          by_cases c1 : qq = xb
          · have s98 : Sit p l e _ s m _ below meth c _ st n0 13 948 _ 553 #[.val (.int u0), .val (.long u1), .second, .val (.int u3), .val (.int u4), .val (.int u5), .val (.int n'), .val (.int xa), .val (.int xb), .val (.int xc), .val (.int g4), .val (.int rA), .val (.int rB), .val (.int rC), .val (.int rv), .val (.int (1 : Int32)), .val (.int nr), .val (.int cs), .val (.int hA), .val (.int hB), .val (.int hC), .val (.int em), .val (.int hi), .val (.int ee), .val (.ref o), .val (.int ct), .val (.int qq), .unset] [(.int (1 : Int32))] := s97
              |>.icmpY at_521 (eqT c1) (by decide) (by decide)
              |>.iconst (1 : Int32) at_548 rfl rfl
              |>.goto at_549 (by decide) (by decide)
            exact ⟨1, Or.inl ⟨rfl, Or.inl ⟨c0, c1⟩⟩, s98⟩
          · have s99 : Sit p l e _ s m _ below meth c _ st n0 13 948 _ 524 #[.val (.int u0), .val (.long u1), .second, .val (.int u3), .val (.int u4), .val (.int u5), .val (.int n'), .val (.int xa), .val (.int xb), .val (.int xc), .val (.int g4), .val (.int rA), .val (.int rB), .val (.int rC), .val (.int rv), .val (.int (1 : Int32)), .val (.int nr), .val (.int cs), .val (.int hA), .val (.int hB), .val (.int hC), .val (.int em), .val (.int hi), .val (.int ee), .val (.ref o), .val (.int ct), .val (.int qq), .unset] [] := s97
              |>.icmpN at_521 (eqF c1) rfl
            obtain ⟨xp, hxp, sx⟩ := j524 s99
            refine ⟨xp, ?_, sx⟩
            rcases hxp with ⟨e1, e2⟩ | ⟨e1, e2⟩
            · exact Or.inl ⟨e1, Or.inr e2⟩
            · exact Or.inr ⟨e1, fun h => h.elim (fun h => c1 h.2) e2⟩
      have j500 : Sit p l e room_1 s m #[(.int u0), (.long u1), (.int u3), (.int u4), (.int u5)] below meth c code st n0 13 948 (fun hh => Exa Z hh o "reenact/trace/IntBits" ∧ Fld Z hh o "reenact/trace/IntBits" "words" "[J" (.ref v58) ∧ Fld Z hh o "reenact/trace/IntBits" "greatest" "I" (.int ee) ∧ Fld Z hh o "reenact/trace/IntBits" "size" "I" (.int z58) ∧ Fld Z hh o "reenact/trace/IntBits" "base" "I" (.int b58) ∧ Fld Z hh o "reenact/trace/IntBits" "head" "I" (.int h58) ∧ AV Z hh v58 .long (ws58.map Value.long)) 500 #[.val (.int u0), .val (.long u1), .second, .val (.int u3), .val (.int u4), .val (.int u5), .val (.int n'), .val (.int xa), .val (.int xb), .val (.int xc), .val (.int g4), .val (.int rA), .val (.int rB), .val (.int rC), .val (.int rv), .val (.int (1 : Int32)), .val (.int nr), .val (.int cs), .val (.int hA), .val (.int hB), .val (.int hC), .val (.int em), .val (.int hi), .val (.int ee), .val (.ref o), .val (.int ct), .val (.int qq), .unset] [] → ∃ xp : Int32, ((xp = 1 ∧ ((¬ hA = 0 ∧ qq = xa) ∨ ((¬ hB = 0 ∧ qq = xb) ∨ ((¬ hC = 0 ∧ qq = xc) ∨ (¬ (1 : Int32) = 0 ∧ qq = ee))))) ∨ (xp = 0 ∧ ¬ ((¬ hA = 0 ∧ qq = xa) ∨ ((¬ hB = 0 ∧ qq = xb) ∨ ((¬ hC = 0 ∧ qq = xc) ∨ (¬ (1 : Int32) = 0 ∧ qq = ee)))))) ∧ Sit p l e room_1 s m #[(.int u0), (.long u1), (.int u3), (.int u4), (.int u5)] below meth c code st n0 13 948 (fun hh => Exa Z hh o "reenact/trace/IntBits" ∧ Fld Z hh o "reenact/trace/IntBits" "words" "[J" (.ref v58) ∧ Fld Z hh o "reenact/trace/IntBits" "greatest" "I" (.int ee) ∧ Fld Z hh o "reenact/trace/IntBits" "size" "I" (.int z58) ∧ Fld Z hh o "reenact/trace/IntBits" "base" "I" (.int b58) ∧ Fld Z hh o "reenact/trace/IntBits" "head" "I" (.int h58) ∧ AV Z hh v58 .long (ws58.map Value.long)) 553 #[.val (.int u0), .val (.long u1), .second, .val (.int u3), .val (.int u4), .val (.int u5), .val (.int n'), .val (.int xa), .val (.int xb), .val (.int xc), .val (.int g4), .val (.int rA), .val (.int rB), .val (.int rC), .val (.int rv), .val (.int (1 : Int32)), .val (.int nr), .val (.int cs), .val (.int hA), .val (.int hB), .val (.int hC), .val (.int em), .val (.int hi), .val (.int ee), .val (.ref o), .val (.int ct), .val (.int qq), .unset] [(.int xp)] := by
        intro q0
        have s100 : Sit p l e _ s m _ below meth c _ st n0 13 948 _ 502 #[.val (.int u0), .val (.long u1), .second, .val (.int u3), .val (.int u4), .val (.int u5), .val (.int n'), .val (.int xa), .val (.int xb), .val (.int xc), .val (.int g4), .val (.int rA), .val (.int rB), .val (.int rC), .val (.int rv), .val (.int (1 : Int32)), .val (.int nr), .val (.int cs), .val (.int hA), .val (.int hB), .val (.int hC), .val (.int em), .val (.int hi), .val (.int ee), .val (.ref o), .val (.int ct), .val (.int qq), .unset] [(.int hA)] := q0
          |>.iload at_500 rfl rfl
        by_cases c0 : hA = 0
        · have s101 : Sit p l e _ s m _ below meth c _ st n0 13 948 _ 512 #[.val (.int u0), .val (.long u1), .second, .val (.int u3), .val (.int u4), .val (.int u5), .val (.int n'), .val (.int xa), .val (.int xb), .val (.int xc), .val (.int g4), .val (.int rA), .val (.int rB), .val (.int rC), .val (.int rv), .val (.int (1 : Int32)), .val (.int nr), .val (.int cs), .val (.int hA), .val (.int hB), .val (.int hC), .val (.int em), .val (.int hi), .val (.int ee), .val (.ref o), .val (.int ct), .val (.int qq), .unset] [] := s100
            |>.ifY at_502 (eqT c0) (by decide) (by decide)
          obtain ⟨xp, hxp, sx⟩ := j512 s101
          refine ⟨xp, ?_, sx⟩
          rcases hxp with ⟨e1, e2⟩ | ⟨e1, e2⟩
          · exact Or.inl ⟨e1, Or.inr e2⟩
          · exact Or.inr ⟨e1, fun h => h.elim (fun h => h.1 c0) e2⟩
        · have s102 : Sit p l e _ s m _ below meth c _ st n0 13 948 _ 509 #[.val (.int u0), .val (.long u1), .second, .val (.int u3), .val (.int u4), .val (.int u5), .val (.int n'), .val (.int xa), .val (.int xb), .val (.int xc), .val (.int g4), .val (.int rA), .val (.int rB), .val (.int rC), .val (.int rv), .val (.int (1 : Int32)), .val (.int nr), .val (.int cs), .val (.int hA), .val (.int hB), .val (.int hC), .val (.int em), .val (.int hi), .val (.int ee), .val (.ref o), .val (.int ct), .val (.int qq), .unset] [(.int xa), (.int qq)] := s100
            |>.ifN at_502 (eqF c0) rfl
            |>.iload at_505 rfl rfl
            |>.iload at_507 rfl rfl
          by_cases c1 : qq = xa
          · have s103 : Sit p l e _ s m _ below meth c _ st n0 13 948 _ 553 #[.val (.int u0), .val (.long u1), .second, .val (.int u3), .val (.int u4), .val (.int u5), .val (.int n'), .val (.int xa), .val (.int xb), .val (.int xc), .val (.int g4), .val (.int rA), .val (.int rB), .val (.int rC), .val (.int rv), .val (.int (1 : Int32)), .val (.int nr), .val (.int cs), .val (.int hA), .val (.int hB), .val (.int hC), .val (.int em), .val (.int hi), .val (.int ee), .val (.ref o), .val (.int ct), .val (.int qq), .unset] [(.int (1 : Int32))] := s102
              |>.icmpY at_509 (eqT c1) (by decide) (by decide)
              |>.iconst (1 : Int32) at_548 rfl rfl
              |>.goto at_549 (by decide) (by decide)
            exact ⟨1, Or.inl ⟨rfl, Or.inl ⟨c0, c1⟩⟩, s103⟩
          · have s104 : Sit p l e _ s m _ below meth c _ st n0 13 948 _ 512 #[.val (.int u0), .val (.long u1), .second, .val (.int u3), .val (.int u4), .val (.int u5), .val (.int n'), .val (.int xa), .val (.int xb), .val (.int xc), .val (.int g4), .val (.int rA), .val (.int rB), .val (.int rC), .val (.int rv), .val (.int (1 : Int32)), .val (.int nr), .val (.int cs), .val (.int hA), .val (.int hB), .val (.int hC), .val (.int em), .val (.int hi), .val (.int ee), .val (.ref o), .val (.int ct), .val (.int qq), .unset] [] := s102
              |>.icmpN at_509 (eqF c1) rfl
            obtain ⟨xp, hxp, sx⟩ := j512 s104
            refine ⟨xp, ?_, sx⟩
            rcases hxp with ⟨e1, e2⟩ | ⟨e1, e2⟩
            · exact Or.inl ⟨e1, Or.inr e2⟩
            · exact Or.inr ⟨e1, fun h => h.elim (fun h => c1 h.2) e2⟩
      obtain ⟨xp, hxp, sx⟩ := j500 s84
      have s105 : Sit p l e _ s m _ below meth c _ st n0 13 948 _ 559 #[.val (.int u0), .val (.long u1), .second, .val (.int u3), .val (.int u4), .val (.int u5), .val (.int n'), .val (.int xa), .val (.int xb), .val (.int xc), .val (.int g4), .val (.int rA), .val (.int rB), .val (.int rC), .val (.int rv), .val (.int (1 : Int32)), .val (.int nr), .val (.int cs), .val (.int hA), .val (.int hB), .val (.int hC), .val (.int em), .val (.int hi), .val (.int ee), .val (.ref o), .val (.int ct), .val (.int qq), .val (.int xp)] [(.int qq), (.ref o)] := sx
        |>.istore #[.val (.int u0), .val (.long u1), .second, .val (.int u3), .val (.int u4), .val (.int u5), .val (.int n'), .val (.int xa), .val (.int xb), .val (.int xc), .val (.int g4), .val (.int rA), .val (.int rB), .val (.int rC), .val (.int rv), .val (.int (1 : Int32)), .val (.int nr), .val (.int cs), .val (.int hA), .val (.int hB), .val (.int hC), .val (.int em), .val (.int hi), .val (.int ee), .val (.ref o), .val (.int ct), .val (.int qq), .val (.int xp)] at_553 rfl rfl
        |>.aload at_555 rfl rfl
        |>.iload at_557 rfl rfl
      obtain ⟨r107, s106⟩ := Sit.callV (C := "reenact/trace/IntBits") (y := (⟨"reenact/trace/IntBits", "contains", "(I)Z"⟩ : MethodName)) (W := 0) (Q := fun rv_ hh => (rv_ = some (.int (if qq.toInt ∈ (ee.toInt :: S) then 1 else 0))) ∧ (fun hh => Exa Z hh o "reenact/trace/IntBits" ∧ Fld Z hh o "reenact/trace/IntBits" "words" "[J" (.ref v58) ∧ Fld Z hh o "reenact/trace/IntBits" "greatest" "I" (.int ee) ∧ Fld Z hh o "reenact/trace/IntBits" "size" "I" (.int z58) ∧ Fld Z hh o "reenact/trace/IntBits" "base" "I" (.int b58) ∧ Fld Z hh o "reenact/trace/IntBits" "head" "I" (.int h58) ∧ AV Z hh v58 .long (ws58.map Value.long)) hh) [(.int qq)] [] s105 hZ hown (wi hw 27 rfl) (wi hw 28 rfl) (wi hw 30 rfl) (wi hw 29 rfl) (wi hw 31 rfl) (wi hw 4 rfl) (by decide) (fun hh q => q.1) (fun h1 hP hn => (rmC l Z a0 hw [] o qq v58 b58 h58 ee z58 ws58 (ee.toInt :: S) h1 n0 hn VV zz hP).mono fun rv_ hh q => ⟨q.1, q.2 ▸ hP⟩) hml rfl (lenOf pd_3 rfl) at_559 (Nat.le_of_eq rfl) (by decide) (by decide) (by decide) (by decide) (pc' := 562) rfl
      obtain ⟨_, er107, _⟩ := s106.facts
      subst er107
      have s108 : Sit p l e _ s m _ below meth c _ st n0 13 948 (fun hh => Exa Z hh o "reenact/trace/IntBits" ∧ Fld Z hh o "reenact/trace/IntBits" "words" "[J" (.ref v58) ∧ Fld Z hh o "reenact/trace/IntBits" "greatest" "I" (.int ee) ∧ Fld Z hh o "reenact/trace/IntBits" "size" "I" (.int z58) ∧ Fld Z hh o "reenact/trace/IntBits" "base" "I" (.int b58) ∧ Fld Z hh o "reenact/trace/IntBits" "head" "I" (.int h58) ∧ AV Z hh v58 .long (ws58.map Value.long)) 562 #[.val (.int u0), .val (.long u1), .second, .val (.int u3), .val (.int u4), .val (.int u5), .val (.int n'), .val (.int xa), .val (.int xb), .val (.int xc), .val (.int g4), .val (.int rA), .val (.int rB), .val (.int rC), .val (.int rv), .val (.int (1 : Int32)), .val (.int nr), .val (.int cs), .val (.int hA), .val (.int hB), .val (.int hC), .val (.int em), .val (.int hi), .val (.int ee), .val (.ref o), .val (.int ct), .val (.int qq), .val (.int xp)] [(.int (if qq.toInt ∈ (ee.toInt :: S) then 1 else 0))] := s106.mono fun _ q => q.2
      have s109 : Sit p l e _ s m _ below meth c _ st n0 13 948 _ 564 #[.val (.int u0), .val (.long u1), .second, .val (.int u3), .val (.int u4), .val (.int u5), .val (.int n'), .val (.int xa), .val (.int xb), .val (.int xc), .val (.int g4), .val (.int rA), .val (.int rB), .val (.int rC), .val (.int rv), .val (.int (1 : Int32)), .val (.int nr), .val (.int cs), .val (.int hA), .val (.int hB), .val (.int hC), .val (.int em), .val (.int hi), .val (.int ee), .val (.ref o), .val (.int ct), .val (.int qq), .val (.int xp)] [(.int xp), (.int (if qq.toInt ∈ (ee.toInt :: S) then 1 else 0))] := s108
        |>.iload at_562 rfl rfl
      have eqv : (if qq.toInt ∈ (ee.toInt :: S) then (1 : Int32) else 0) = xp := by
        rcases hxp with ⟨e1, e2⟩ | ⟨e1, e2⟩
        · rw [if_pos ((mem qq).mpr e2), e1]
        · rw [if_neg (fun h => e2 ((mem qq).mp h)), e1]
      have s110 : Sit p l e _ s m _ below meth c _ st n0 13 948 _ 572 #[.val (.int u0), .val (.long u1), .second, .val (.int u3), .val (.int u4), .val (.int u5), .val (.int n'), .val (.int xa), .val (.int xb), .val (.int xc), .val (.int g4), .val (.int rA), .val (.int rB), .val (.int rC), .val (.int rv), .val (.int (1 : Int32)), .val (.int nr), .val (.int cs), .val (.int hA), .val (.int hB), .val (.int hC), .val (.int em), .val (.int hi), .val (.int ee), .val (.ref o), .val (.int ct), .val (.int qq), .val (.int xp)] [(.int (1 : Int32))] := s109
        |>.icmpN at_564 ((neF (Classical.not_not.mp (show ¬ (¬ (if qq.toInt ∈ (ee.toInt :: S) then 1 else 0) = xp) from fun h => h eqv)))) rfl
        |>.iconst (1 : Int32) at_567 rfl rfl
        |>.goto at_568 (by decide) (by decide)
      exact (s110.bound (cells' := 24) (slots' := 1024) (by decide) (by decide)).retZ at_572 hret hlk (fun hh q => rfl)
  have hn4 := and3 u3
  rw [← e_n] at hn4
  clear e_n
  rcases hn4 with rfl | rfl | rfl | rfl
  · have s111 : Sit p l e _ s m _ below meth c _ st n0 0 0 (fun hh => True) 51 #[.val (.int u0), .val (.long u1), .second, .val (.int u3), .val (.int u4), .val (.int u5), .val (.int (0 : Int32)), .val (.int xa), .val (.int xb), .val (.int xc), .unset, .unset, .unset, .unset, .unset, .unset, .unset, .unset, .unset, .unset, .unset, .unset, .unset, .unset, .unset, .unset, .unset, .unset] [(.int g4)] := s11
    have s112 : Sit p l e _ s m _ below meth c _ st n0 0 0 _ 56 #[.val (.int u0), .val (.long u1), .second, .val (.int u3), .val (.int u4), .val (.int u5), .val (.int (0 : Int32)), .val (.int xa), .val (.int xb), .val (.int xc), .val (.int g4), .unset, .unset, .unset, .unset, .unset, .unset, .unset, .unset, .unset, .unset, .unset, .unset, .unset, .unset, .unset, .unset, .unset] [(.int (1 : Int32)), (.int (0 : Int32))] := s111
      |>.istore #[.val (.int u0), .val (.long u1), .second, .val (.int u3), .val (.int u4), .val (.int u5), .val (.int (0 : Int32)), .val (.int xa), .val (.int xb), .val (.int xc), .val (.int g4), .unset, .unset, .unset, .unset, .unset, .unset, .unset, .unset, .unset, .unset, .unset, .unset, .unset, .unset, .unset, .unset, .unset] at_51 rfl rfl
      |>.iload at_53 rfl rfl
      |>.iconst (1 : Int32) at_55 rfl rfl
    have s113 : Sit p l e _ s m _ below meth c _ st n0 0 0 _ 77 #[.val (.int u0), .val (.long u1), .second, .val (.int u3), .val (.int u4), .val (.int u5), .val (.int (0 : Int32)), .val (.int xa), .val (.int xb), .val (.int xc), .val (.int g4), .val (.int (0 : Int32)), .unset, .unset, .unset, .unset, .unset, .unset, .unset, .unset, .unset, .unset, .unset, .unset, .unset, .unset, .unset, .unset] [(.int (2 : Int32)), (.int (0 : Int32))] := s112
      |>.icmpY at_56 (cmpT (cd := .lt) (show (0 : Int) < (1 : Int) from by decide)) (by decide) (by decide)
      |>.iconst (0 : Int32) at_71 rfl rfl
      |>.istore #[.val (.int u0), .val (.long u1), .second, .val (.int u3), .val (.int u4), .val (.int u5), .val (.int (0 : Int32)), .val (.int xa), .val (.int xb), .val (.int xc), .val (.int g4), .val (.int (0 : Int32)), .unset, .unset, .unset, .unset, .unset, .unset, .unset, .unset, .unset, .unset, .unset, .unset, .unset, .unset, .unset, .unset] at_72 rfl rfl
      |>.iload at_74 rfl rfl
      |>.iconst (2 : Int32) at_76 rfl rfl
    have s114 : Sit p l e _ s m _ below meth c _ st n0 0 0 _ 98 #[.val (.int u0), .val (.long u1), .second, .val (.int u3), .val (.int u4), .val (.int u5), .val (.int (0 : Int32)), .val (.int xa), .val (.int xb), .val (.int xc), .val (.int g4), .val (.int (0 : Int32)), .val (.int (0 : Int32)), .unset, .unset, .unset, .unset, .unset, .unset, .unset, .unset, .unset, .unset, .unset, .unset, .unset, .unset, .unset] [(.int (3 : Int32)), (.int (0 : Int32))] := s113
      |>.icmpY at_77 (cmpT (cd := .lt) (show (0 : Int) < (2 : Int) from by decide)) (by decide) (by decide)
      |>.iconst (0 : Int32) at_92 rfl rfl
      |>.istore #[.val (.int u0), .val (.long u1), .second, .val (.int u3), .val (.int u4), .val (.int u5), .val (.int (0 : Int32)), .val (.int xa), .val (.int xb), .val (.int xc), .val (.int g4), .val (.int (0 : Int32)), .val (.int (0 : Int32)), .unset, .unset, .unset, .unset, .unset, .unset, .unset, .unset, .unset, .unset, .unset, .unset, .unset, .unset, .unset] at_93 rfl rfl
      |>.iload at_95 rfl rfl
      |>.iconst (3 : Int32) at_97 rfl rfl
    have s115 : Sit p l e _ s m _ below meth c _ st n0 0 0 _ 121 #[.val (.int u0), .val (.long u1), .second, .val (.int u3), .val (.int u4), .val (.int u5), .val (.int (0 : Int32)), .val (.int xa), .val (.int xb), .val (.int xc), .val (.int g4), .val (.int (0 : Int32)), .val (.int (0 : Int32)), .val (.int (0 : Int32)), .unset, .unset, .unset, .unset, .unset, .unset, .unset, .unset, .unset, .unset, .unset, .unset, .unset, .unset] [(.int ((ushr32 u3 (5 : Int32)) &&& (1 : Int32)))] := s114
      |>.icmpY at_98 (cmpT (cd := .lt) (show (0 : Int) < (3 : Int) from by decide)) (by decide) (by decide)
      |>.iconst (0 : Int32) at_113 rfl rfl
      |>.istore #[.val (.int u0), .val (.long u1), .second, .val (.int u3), .val (.int u4), .val (.int u5), .val (.int (0 : Int32)), .val (.int xa), .val (.int xb), .val (.int xc), .val (.int g4), .val (.int (0 : Int32)), .val (.int (0 : Int32)), .val (.int (0 : Int32)), .unset, .unset, .unset, .unset, .unset, .unset, .unset, .unset, .unset, .unset, .unset, .unset, .unset, .unset] at_114 rfl rfl
      |>.iloadN at_116 rfl rfl
      |>.iconst (5 : Int32) at_117 rfl rfl
      |>.iushr at_118 rfl
      |>.iconst (1 : Int32) at_119 rfl rfl
      |>.iand at_120 rfl
    obtain ⟨rv, e_rv, s119⟩ : ∃ rv : Int32, (rv = 0 ∨ rv = 1) ∧ Sit p l e room_1 s m #[(.int u0), (.long u1), (.int u3), (.int u4), (.int u5)] below meth c code st n0 0 0 (fun hh => True) 129 #[.val (.int u0), .val (.long u1), .second, .val (.int u3), .val (.int u4), .val (.int u5), .val (.int (0 : Int32)), .val (.int xa), .val (.int xb), .val (.int xc), .val (.int g4), .val (.int (0 : Int32)), .val (.int (0 : Int32)), .val (.int (0 : Int32)), .unset, .unset, .unset, .unset, .unset, .unset, .unset, .unset, .unset, .unset, .unset, .unset, .unset, .unset] [(.int rv)] := by
      by_cases cnd116 : ((ushr32 u3 (5 : Int32)) &&& (1 : Int32)) = 0
      · have s117 : Sit p l e _ s m _ below meth c _ st n0 0 0 _ 129 #[.val (.int u0), .val (.long u1), .second, .val (.int u3), .val (.int u4), .val (.int u5), .val (.int (0 : Int32)), .val (.int xa), .val (.int xb), .val (.int xc), .val (.int g4), .val (.int (0 : Int32)), .val (.int (0 : Int32)), .val (.int (0 : Int32)), .unset, .unset, .unset, .unset, .unset, .unset, .unset, .unset, .unset, .unset, .unset, .unset, .unset, .unset] [(.int (0 : Int32))] := s115
          |>.ifY at_121 (eqT cnd116) (by decide) (by decide)
          |>.iconst (0 : Int32) at_128 rfl rfl
        exact ⟨(0 : Int32), Or.inl rfl, s117⟩
      · have s118 : Sit p l e _ s m _ below meth c _ st n0 0 0 _ 129 #[.val (.int u0), .val (.long u1), .second, .val (.int u3), .val (.int u4), .val (.int u5), .val (.int (0 : Int32)), .val (.int xa), .val (.int xb), .val (.int xc), .val (.int g4), .val (.int (0 : Int32)), .val (.int (0 : Int32)), .val (.int (0 : Int32)), .unset, .unset, .unset, .unset, .unset, .unset, .unset, .unset, .unset, .unset, .unset, .unset, .unset, .unset] [(.int (1 : Int32))] := s115
          |>.ifN at_121 (eqF cnd116) rfl
          |>.iconst (1 : Int32) at_124 rfl rfl
          |>.goto at_125 (by decide) (by decide)
        exact ⟨(1 : Int32), Or.inr rfl, s118⟩
    have s120 : Sit p l e _ s m _ below meth c _ st n0 0 0 _ 137 #[.val (.int u0), .val (.long u1), .second, .val (.int u3), .val (.int u4), .val (.int u5), .val (.int (0 : Int32)), .val (.int xa), .val (.int xb), .val (.int xc), .val (.int g4), .val (.int (0 : Int32)), .val (.int (0 : Int32)), .val (.int (0 : Int32)), .val (.int rv), .unset, .unset, .unset, .unset, .unset, .unset, .unset, .unset, .unset, .unset, .unset, .unset, .unset] [(.int ((ushr32 u3 (6 : Int32)) &&& (1 : Int32)))] := s119
      |>.istore #[.val (.int u0), .val (.long u1), .second, .val (.int u3), .val (.int u4), .val (.int u5), .val (.int (0 : Int32)), .val (.int xa), .val (.int xb), .val (.int xc), .val (.int g4), .val (.int (0 : Int32)), .val (.int (0 : Int32)), .val (.int (0 : Int32)), .val (.int rv), .unset, .unset, .unset, .unset, .unset, .unset, .unset, .unset, .unset, .unset, .unset, .unset, .unset] at_129 rfl rfl
      |>.iloadN at_131 rfl rfl
      |>.bipush (6 : Int32) at_132 rfl rfl
      |>.iushr at_134 rfl
      |>.iconst (1 : Int32) at_135 rfl rfl
      |>.iand at_136 rfl
    obtain ⟨ex, e_ex, s124⟩ : ∃ ex : Int32, (ex = 0 ∨ ex = 1) ∧ Sit p l e room_1 s m #[(.int u0), (.long u1), (.int u3), (.int u4), (.int u5)] below meth c code st n0 0 0 (fun hh => True) 145 #[.val (.int u0), .val (.long u1), .second, .val (.int u3), .val (.int u4), .val (.int u5), .val (.int (0 : Int32)), .val (.int xa), .val (.int xb), .val (.int xc), .val (.int g4), .val (.int (0 : Int32)), .val (.int (0 : Int32)), .val (.int (0 : Int32)), .val (.int rv), .unset, .unset, .unset, .unset, .unset, .unset, .unset, .unset, .unset, .unset, .unset, .unset, .unset] [(.int ex)] := by
      by_cases cnd121 : ((ushr32 u3 (6 : Int32)) &&& (1 : Int32)) = 0
      · have s122 : Sit p l e _ s m _ below meth c _ st n0 0 0 _ 145 #[.val (.int u0), .val (.long u1), .second, .val (.int u3), .val (.int u4), .val (.int u5), .val (.int (0 : Int32)), .val (.int xa), .val (.int xb), .val (.int xc), .val (.int g4), .val (.int (0 : Int32)), .val (.int (0 : Int32)), .val (.int (0 : Int32)), .val (.int rv), .unset, .unset, .unset, .unset, .unset, .unset, .unset, .unset, .unset, .unset, .unset, .unset, .unset] [(.int (0 : Int32))] := s120
          |>.ifY at_137 (eqT cnd121) (by decide) (by decide)
          |>.iconst (0 : Int32) at_144 rfl rfl
        exact ⟨(0 : Int32), Or.inl rfl, s122⟩
      · have s123 : Sit p l e _ s m _ below meth c _ st n0 0 0 _ 145 #[.val (.int u0), .val (.long u1), .second, .val (.int u3), .val (.int u4), .val (.int u5), .val (.int (0 : Int32)), .val (.int xa), .val (.int xb), .val (.int xc), .val (.int g4), .val (.int (0 : Int32)), .val (.int (0 : Int32)), .val (.int (0 : Int32)), .val (.int rv), .unset, .unset, .unset, .unset, .unset, .unset, .unset, .unset, .unset, .unset, .unset, .unset, .unset] [(.int (1 : Int32))] := s120
          |>.ifN at_137 (eqF cnd121) rfl
          |>.iconst (1 : Int32) at_140 rfl rfl
          |>.goto at_141 (by decide) (by decide)
        exact ⟨(1 : Int32), Or.inr rfl, s123⟩
    have s125 : Sit p l e _ s m _ below meth c _ st n0 0 0 _ 153 #[.val (.int u0), .val (.long u1), .second, .val (.int u3), .val (.int u4), .val (.int u5), .val (.int (0 : Int32)), .val (.int xa), .val (.int xb), .val (.int xc), .val (.int g4), .val (.int (0 : Int32)), .val (.int (0 : Int32)), .val (.int (0 : Int32)), .val (.int rv), .val (.int ex), .unset, .unset, .unset, .unset, .unset, .unset, .unset, .unset, .unset, .unset, .unset, .unset] [(.int ((ushr32 u3 (7 : Int32)) &&& (1 : Int32)))] := s124
      |>.istore #[.val (.int u0), .val (.long u1), .second, .val (.int u3), .val (.int u4), .val (.int u5), .val (.int (0 : Int32)), .val (.int xa), .val (.int xb), .val (.int xc), .val (.int g4), .val (.int (0 : Int32)), .val (.int (0 : Int32)), .val (.int (0 : Int32)), .val (.int rv), .val (.int ex), .unset, .unset, .unset, .unset, .unset, .unset, .unset, .unset, .unset, .unset, .unset, .unset] at_145 rfl rfl
      |>.iloadN at_147 rfl rfl
      |>.bipush (7 : Int32) at_148 rfl rfl
      |>.iushr at_150 rfl
      |>.iconst (1 : Int32) at_151 rfl rfl
      |>.iand at_152 rfl
    obtain ⟨nr, e_nr, s129⟩ : ∃ nr : Int32, (nr = 0 ∨ nr = 1) ∧ Sit p l e room_1 s m #[(.int u0), (.long u1), (.int u3), (.int u4), (.int u5)] below meth c code st n0 0 0 (fun hh => True) 161 #[.val (.int u0), .val (.long u1), .second, .val (.int u3), .val (.int u4), .val (.int u5), .val (.int (0 : Int32)), .val (.int xa), .val (.int xb), .val (.int xc), .val (.int g4), .val (.int (0 : Int32)), .val (.int (0 : Int32)), .val (.int (0 : Int32)), .val (.int rv), .val (.int ex), .unset, .unset, .unset, .unset, .unset, .unset, .unset, .unset, .unset, .unset, .unset, .unset] [(.int nr)] := by
      by_cases cnd126 : ((ushr32 u3 (7 : Int32)) &&& (1 : Int32)) = 0
      · have s127 : Sit p l e _ s m _ below meth c _ st n0 0 0 _ 161 #[.val (.int u0), .val (.long u1), .second, .val (.int u3), .val (.int u4), .val (.int u5), .val (.int (0 : Int32)), .val (.int xa), .val (.int xb), .val (.int xc), .val (.int g4), .val (.int (0 : Int32)), .val (.int (0 : Int32)), .val (.int (0 : Int32)), .val (.int rv), .val (.int ex), .unset, .unset, .unset, .unset, .unset, .unset, .unset, .unset, .unset, .unset, .unset, .unset] [(.int (0 : Int32))] := s125
          |>.ifY at_153 (eqT cnd126) (by decide) (by decide)
          |>.iconst (0 : Int32) at_160 rfl rfl
        exact ⟨(0 : Int32), Or.inl rfl, s127⟩
      · have s128 : Sit p l e _ s m _ below meth c _ st n0 0 0 _ 161 #[.val (.int u0), .val (.long u1), .second, .val (.int u3), .val (.int u4), .val (.int u5), .val (.int (0 : Int32)), .val (.int xa), .val (.int xb), .val (.int xc), .val (.int g4), .val (.int (0 : Int32)), .val (.int (0 : Int32)), .val (.int (0 : Int32)), .val (.int rv), .val (.int ex), .unset, .unset, .unset, .unset, .unset, .unset, .unset, .unset, .unset, .unset, .unset, .unset] [(.int (1 : Int32))] := s125
          |>.ifN at_153 (eqF cnd126) rfl
          |>.iconst (1 : Int32) at_156 rfl rfl
          |>.goto at_157 (by decide) (by decide)
        exact ⟨(1 : Int32), Or.inr rfl, s128⟩
    have s130 : Sit p l e _ s m _ below meth c _ st n0 0 0 _ 169 #[.val (.int u0), .val (.long u1), .second, .val (.int u3), .val (.int u4), .val (.int u5), .val (.int (0 : Int32)), .val (.int xa), .val (.int xb), .val (.int xc), .val (.int g4), .val (.int (0 : Int32)), .val (.int (0 : Int32)), .val (.int (0 : Int32)), .val (.int rv), .val (.int ex), .val (.int nr), .unset, .unset, .unset, .unset, .unset, .unset, .unset, .unset, .unset, .unset, .unset] [(.int ((ushr32 u3 (8 : Int32)) &&& (3 : Int32)))] := s129
      |>.istore #[.val (.int u0), .val (.long u1), .second, .val (.int u3), .val (.int u4), .val (.int u5), .val (.int (0 : Int32)), .val (.int xa), .val (.int xb), .val (.int xc), .val (.int g4), .val (.int (0 : Int32)), .val (.int (0 : Int32)), .val (.int (0 : Int32)), .val (.int rv), .val (.int ex), .val (.int nr), .unset, .unset, .unset, .unset, .unset, .unset, .unset, .unset, .unset, .unset, .unset] at_161 rfl rfl
      |>.iloadN at_163 rfl rfl
      |>.bipush (8 : Int32) at_164 rfl rfl
      |>.iushr at_166 rfl
      |>.iconst (3 : Int32) at_167 rfl rfl
      |>.iand at_168 rfl
    obtain ⟨cs, e_cs, s131⟩ : ∃ cs : Int32, cs = ((ushr32 u3 (8 : Int32)) &&& (3 : Int32)) ∧ Sit p l e _ s m _ below meth c _ st n0 0 0 _ 169 #[.val (.int u0), .val (.long u1), .second, .val (.int u3), .val (.int u4), .val (.int u5), .val (.int (0 : Int32)), .val (.int xa), .val (.int xb), .val (.int xc), .val (.int g4), .val (.int (0 : Int32)), .val (.int (0 : Int32)), .val (.int (0 : Int32)), .val (.int rv), .val (.int ex), .val (.int nr), .unset, .unset, .unset, .unset, .unset, .unset, .unset, .unset, .unset, .unset, .unset] [(.int cs)] := ⟨_, rfl, s130⟩
    have s132 : Sit p l e _ s m _ below meth c _ st n0 0 0 _ 174 #[.val (.int u0), .val (.long u1), .second, .val (.int u3), .val (.int u4), .val (.int u5), .val (.int (0 : Int32)), .val (.int xa), .val (.int xb), .val (.int xc), .val (.int g4), .val (.int (0 : Int32)), .val (.int (0 : Int32)), .val (.int (0 : Int32)), .val (.int rv), .val (.int ex), .val (.int nr), .val (.int cs), .unset, .unset, .unset, .unset, .unset, .unset, .unset, .unset, .unset, .unset] [(.int (1 : Int32)), (.int (0 : Int32))] := s131
      |>.istore #[.val (.int u0), .val (.long u1), .second, .val (.int u3), .val (.int u4), .val (.int u5), .val (.int (0 : Int32)), .val (.int xa), .val (.int xb), .val (.int xc), .val (.int g4), .val (.int (0 : Int32)), .val (.int (0 : Int32)), .val (.int (0 : Int32)), .val (.int rv), .val (.int ex), .val (.int nr), .val (.int cs), .unset, .unset, .unset, .unset, .unset, .unset, .unset, .unset, .unset, .unset] at_169 rfl rfl
      |>.iload at_171 rfl rfl
      |>.iconst (1 : Int32) at_173 rfl rfl
    have s133 : Sit p l e _ s m _ below meth c _ st n0 0 0 _ 192 #[.val (.int u0), .val (.long u1), .second, .val (.int u3), .val (.int u4), .val (.int u5), .val (.int (0 : Int32)), .val (.int xa), .val (.int xb), .val (.int xc), .val (.int g4), .val (.int (0 : Int32)), .val (.int (0 : Int32)), .val (.int (0 : Int32)), .val (.int rv), .val (.int ex), .val (.int nr), .val (.int cs), .val (.int (0 : Int32)), .unset, .unset, .unset, .unset, .unset, .unset, .unset, .unset, .unset] [(.int (2 : Int32)), (.int (0 : Int32))] := s132
      |>.icmpY at_174 (cmpT (cd := .lt) (show (0 : Int) < (1 : Int) from by decide)) (by decide) (by decide)
      |>.iconst (0 : Int32) at_186 rfl rfl
      |>.istore #[.val (.int u0), .val (.long u1), .second, .val (.int u3), .val (.int u4), .val (.int u5), .val (.int (0 : Int32)), .val (.int xa), .val (.int xb), .val (.int xc), .val (.int g4), .val (.int (0 : Int32)), .val (.int (0 : Int32)), .val (.int (0 : Int32)), .val (.int rv), .val (.int ex), .val (.int nr), .val (.int cs), .val (.int (0 : Int32)), .unset, .unset, .unset, .unset, .unset, .unset, .unset, .unset, .unset] at_187 rfl rfl
      |>.iload at_189 rfl rfl
      |>.iconst (2 : Int32) at_191 rfl rfl
    have s134 : Sit p l e _ s m _ below meth c _ st n0 0 0 _ 210 #[.val (.int u0), .val (.long u1), .second, .val (.int u3), .val (.int u4), .val (.int u5), .val (.int (0 : Int32)), .val (.int xa), .val (.int xb), .val (.int xc), .val (.int g4), .val (.int (0 : Int32)), .val (.int (0 : Int32)), .val (.int (0 : Int32)), .val (.int rv), .val (.int ex), .val (.int nr), .val (.int cs), .val (.int (0 : Int32)), .val (.int (0 : Int32)), .unset, .unset, .unset, .unset, .unset, .unset, .unset, .unset] [(.int (3 : Int32)), (.int (0 : Int32))] := s133
      |>.icmpY at_192 (cmpT (cd := .lt) (show (0 : Int) < (2 : Int) from by decide)) (by decide) (by decide)
      |>.iconst (0 : Int32) at_204 rfl rfl
      |>.istore #[.val (.int u0), .val (.long u1), .second, .val (.int u3), .val (.int u4), .val (.int u5), .val (.int (0 : Int32)), .val (.int xa), .val (.int xb), .val (.int xc), .val (.int g4), .val (.int (0 : Int32)), .val (.int (0 : Int32)), .val (.int (0 : Int32)), .val (.int rv), .val (.int ex), .val (.int nr), .val (.int cs), .val (.int (0 : Int32)), .val (.int (0 : Int32)), .unset, .unset, .unset, .unset, .unset, .unset, .unset, .unset] at_205 rfl rfl
      |>.iload at_207 rfl rfl
      |>.iconst (3 : Int32) at_209 rfl rfl
    have s135 : Sit p l e _ s m _ below meth c _ st n0 0 0 _ 225 #[.val (.int u0), .val (.long u1), .second, .val (.int u3), .val (.int u4), .val (.int u5), .val (.int (0 : Int32)), .val (.int xa), .val (.int xb), .val (.int xc), .val (.int g4), .val (.int (0 : Int32)), .val (.int (0 : Int32)), .val (.int (0 : Int32)), .val (.int rv), .val (.int ex), .val (.int nr), .val (.int cs), .val (.int (0 : Int32)), .val (.int (0 : Int32)), .val (.int (0 : Int32)), .unset, .unset, .unset, .unset, .unset, .unset, .unset] [] := s134
      |>.icmpY at_210 (cmpT (cd := .lt) (show (0 : Int) < (3 : Int) from by decide)) (by decide) (by decide)
      |>.iconst (0 : Int32) at_222 rfl rfl
      |>.istore #[.val (.int u0), .val (.long u1), .second, .val (.int u3), .val (.int u4), .val (.int u5), .val (.int (0 : Int32)), .val (.int xa), .val (.int xb), .val (.int xc), .val (.int g4), .val (.int (0 : Int32)), .val (.int (0 : Int32)), .val (.int (0 : Int32)), .val (.int rv), .val (.int ex), .val (.int nr), .val (.int cs), .val (.int (0 : Int32)), .val (.int (0 : Int32)), .val (.int (0 : Int32)), .unset, .unset, .unset, .unset, .unset, .unset, .unset] at_223 rfl rfl
    have s136 : Sit p l e _ s m _ below meth c _ st n0 0 0 _ 227 #[.val (.int u0), .val (.long u1), .second, .val (.int u3), .val (.int u4), .val (.int u5), .val (.int (0 : Int32)), .val (.int xa), .val (.int xb), .val (.int xc), .val (.int g4), .val (.int (0 : Int32)), .val (.int (0 : Int32)), .val (.int (0 : Int32)), .val (.int rv), .val (.int ex), .val (.int nr), .val (.int cs), .val (.int (0 : Int32)), .val (.int (0 : Int32)), .val (.int (0 : Int32)), .unset, .unset, .unset, .unset, .unset, .unset, .unset] [(.int (0 : Int32))] := s135
      |>.iload at_225 rfl rfl
    have s137 : Sit p l e _ s m _ below meth c _ st n0 0 0 _ 232 #[.val (.int u0), .val (.long u1), .second, .val (.int u3), .val (.int u4), .val (.int u5), .val (.int (0 : Int32)), .val (.int xa), .val (.int xb), .val (.int xc), .val (.int g4), .val (.int (0 : Int32)), .val (.int (0 : Int32)), .val (.int (0 : Int32)), .val (.int rv), .val (.int ex), .val (.int nr), .val (.int cs), .val (.int (0 : Int32)), .val (.int (0 : Int32)), .val (.int (0 : Int32)), .unset, .unset, .unset, .unset, .unset, .unset, .unset] [(.int (0 : Int32))] := s136
      |>.ifN at_227 ((neF (Classical.not_not.mp (show ¬ (¬ (0 : Int32) = 0) from by decide)))) rfl
      |>.iload at_230 rfl rfl
    have s138 : Sit p l e _ s m _ below meth c _ st n0 0 0 _ 237 #[.val (.int u0), .val (.long u1), .second, .val (.int u3), .val (.int u4), .val (.int u5), .val (.int (0 : Int32)), .val (.int xa), .val (.int xb), .val (.int xc), .val (.int g4), .val (.int (0 : Int32)), .val (.int (0 : Int32)), .val (.int (0 : Int32)), .val (.int rv), .val (.int ex), .val (.int nr), .val (.int cs), .val (.int (0 : Int32)), .val (.int (0 : Int32)), .val (.int (0 : Int32)), .unset, .unset, .unset, .unset, .unset, .unset, .unset] [(.int (0 : Int32))] := s137
      |>.ifN at_232 ((neF (Classical.not_not.mp (show ¬ (¬ (0 : Int32) = 0) from by decide)))) rfl
      |>.iload at_235 rfl rfl
    have s139 : Sit p l e _ s m _ below meth c _ st n0 0 0 _ 250 #[.val (.int u0), .val (.long u1), .second, .val (.int u3), .val (.int u4), .val (.int u5), .val (.int (0 : Int32)), .val (.int xa), .val (.int xb), .val (.int xc), .val (.int g4), .val (.int (0 : Int32)), .val (.int (0 : Int32)), .val (.int (0 : Int32)), .val (.int rv), .val (.int ex), .val (.int nr), .val (.int cs), .val (.int (0 : Int32)), .val (.int (0 : Int32)), .val (.int (0 : Int32)), .val (.int (1 : Int32)), .unset, .unset, .unset, .unset, .unset, .unset] [(.int (1 : Int32)), (.int (0 : Int32))] := s138
      |>.ifN at_237 ((neF (Classical.not_not.mp (show ¬ (¬ (0 : Int32) = 0) from by decide)))) rfl
      |>.iconst (1 : Int32) at_240 rfl rfl
      |>.goto at_241 (by decide) (by decide)
      |>.istore #[.val (.int u0), .val (.long u1), .second, .val (.int u3), .val (.int u4), .val (.int u5), .val (.int (0 : Int32)), .val (.int xa), .val (.int xb), .val (.int xc), .val (.int g4), .val (.int (0 : Int32)), .val (.int (0 : Int32)), .val (.int (0 : Int32)), .val (.int rv), .val (.int ex), .val (.int nr), .val (.int cs), .val (.int (0 : Int32)), .val (.int (0 : Int32)), .val (.int (0 : Int32)), .val (.int (1 : Int32)), .unset, .unset, .unset, .unset, .unset, .unset] at_245 rfl rfl
      |>.iload at_247 rfl rfl
      |>.iconst (1 : Int32) at_249 rfl rfl
    have s140 : Sit p l e _ s m _ below meth c _ st n0 0 0 _ 261 #[.val (.int u0), .val (.long u1), .second, .val (.int u3), .val (.int u4), .val (.int u5), .val (.int (0 : Int32)), .val (.int xa), .val (.int xb), .val (.int xc), .val (.int g4), .val (.int (0 : Int32)), .val (.int (0 : Int32)), .val (.int (0 : Int32)), .val (.int rv), .val (.int ex), .val (.int nr), .val (.int cs), .val (.int (0 : Int32)), .val (.int (0 : Int32)), .val (.int (0 : Int32)), .val (.int (1 : Int32)), .unset, .unset, .unset, .unset, .unset, .unset] [(.int (2 : Int32)), (.int (0 : Int32))] := s139
      |>.icmpY at_250 (neT (show ¬ (0 : Int32) = (1 : Int32) from by decide)) (by decide) (by decide)
      |>.iload at_258 rfl rfl
      |>.iconst (2 : Int32) at_260 rfl rfl
    have s141 : Sit p l e _ s m _ below meth c _ st n0 0 0 _ 272 #[.val (.int u0), .val (.long u1), .second, .val (.int u3), .val (.int u4), .val (.int u5), .val (.int (0 : Int32)), .val (.int xa), .val (.int xb), .val (.int xc), .val (.int g4), .val (.int (0 : Int32)), .val (.int (0 : Int32)), .val (.int (0 : Int32)), .val (.int rv), .val (.int ex), .val (.int nr), .val (.int cs), .val (.int (0 : Int32)), .val (.int (0 : Int32)), .val (.int (0 : Int32)), .val (.int (1 : Int32)), .unset, .unset, .unset, .unset, .unset, .unset] [(.int (3 : Int32)), (.int (0 : Int32))] := s140
      |>.icmpY at_261 (neT (show ¬ (0 : Int32) = (2 : Int32) from by decide)) (by decide) (by decide)
      |>.iload at_269 rfl rfl
      |>.iconst (3 : Int32) at_271 rfl rfl
    have s142 : Sit p l e _ s m _ below meth c _ st n0 0 0 _ 285 #[.val (.int u0), .val (.long u1), .second, .val (.int u3), .val (.int u4), .val (.int u5), .val (.int (0 : Int32)), .val (.int xa), .val (.int xb), .val (.int xc), .val (.int g4), .val (.int (0 : Int32)), .val (.int (0 : Int32)), .val (.int (0 : Int32)), .val (.int rv), .val (.int ex), .val (.int nr), .val (.int cs), .val (.int (0 : Int32)), .val (.int (0 : Int32)), .val (.int (0 : Int32)), .val (.int (1 : Int32)), .val (.int (-1 : Int32)), .unset, .unset, .unset, .unset, .unset] [(.int (1 : Int32))] := s141
      |>.icmpY at_272 (neT (show ¬ (0 : Int32) = (3 : Int32) from by decide)) (by decide) (by decide)
      |>.iconst (-1 : Int32) at_280 rfl rfl
      |>.istore #[.val (.int u0), .val (.long u1), .second, .val (.int u3), .val (.int u4), .val (.int u5), .val (.int (0 : Int32)), .val (.int xa), .val (.int xb), .val (.int xc), .val (.int g4), .val (.int (0 : Int32)), .val (.int (0 : Int32)), .val (.int (0 : Int32)), .val (.int rv), .val (.int ex), .val (.int nr), .val (.int cs), .val (.int (0 : Int32)), .val (.int (0 : Int32)), .val (.int (0 : Int32)), .val (.int (1 : Int32)), .val (.int (-1 : Int32)), .unset, .unset, .unset, .unset, .unset] at_281 rfl rfl
      |>.iload at_283 rfl rfl
    have s143 : Sit p l e _ s m _ below meth c _ st n0 0 0 _ 301 #[.val (.int u0), .val (.long u1), .second, .val (.int u3), .val (.int u4), .val (.int u5), .val (.int (0 : Int32)), .val (.int xa), .val (.int xb), .val (.int xc), .val (.int g4), .val (.int (0 : Int32)), .val (.int (0 : Int32)), .val (.int (0 : Int32)), .val (.int rv), .val (.int ex), .val (.int nr), .val (.int cs), .val (.int (0 : Int32)), .val (.int (0 : Int32)), .val (.int (0 : Int32)), .val (.int (1 : Int32)), .val (.int (-1 : Int32)), .unset, .unset, .unset, .unset, .unset] [(.int (u5 &&& (1073741823 : Int32)))] := s142
      |>.ifN at_285 (eqF (show ¬ ((1 : Int32) = 0) from by decide)) rfl
      |>.iload at_288 rfl rfl
      |>.ldc hZ hown (wi hw 0 rfl) at_290 rfl
      |>.iand at_292 rfl
      |>.goto at_293 (by decide) (by decide)
    obtain ⟨ee, e_ee, s144⟩ : ∃ ee : Int32, ee = (u5 &&& (1073741823 : Int32)) ∧ Sit p l e _ s m _ below meth c _ st n0 0 0 _ 301 #[.val (.int u0), .val (.long u1), .second, .val (.int u3), .val (.int u4), .val (.int u5), .val (.int (0 : Int32)), .val (.int xa), .val (.int xb), .val (.int xc), .val (.int g4), .val (.int (0 : Int32)), .val (.int (0 : Int32)), .val (.int (0 : Int32)), .val (.int rv), .val (.int ex), .val (.int nr), .val (.int cs), .val (.int (0 : Int32)), .val (.int (0 : Int32)), .val (.int (0 : Int32)), .val (.int (1 : Int32)), .val (.int (-1 : Int32)), .unset, .unset, .unset, .unset, .unset] [(.int ee)] := ⟨_, rfl, s143⟩
    have re : 0 ≤ ee.toInt := by rw [e_ee]; exact (m30 _).1
    have s145 : Sit p l e _ s m _ below meth c _ st n0 0 0 _ 303 #[.val (.int u0), .val (.long u1), .second, .val (.int u3), .val (.int u4), .val (.int u5), .val (.int (0 : Int32)), .val (.int xa), .val (.int xb), .val (.int xc), .val (.int g4), .val (.int (0 : Int32)), .val (.int (0 : Int32)), .val (.int (0 : Int32)), .val (.int rv), .val (.int ex), .val (.int nr), .val (.int cs), .val (.int (0 : Int32)), .val (.int (0 : Int32)), .val (.int (0 : Int32)), .val (.int (1 : Int32)), .val (.int (-1 : Int32)), .val (.int ee), .unset, .unset, .unset, .unset] [] := s144
      |>.istore #[.val (.int u0), .val (.long u1), .second, .val (.int u3), .val (.int u4), .val (.int u5), .val (.int (0 : Int32)), .val (.int xa), .val (.int xb), .val (.int xc), .val (.int g4), .val (.int (0 : Int32)), .val (.int (0 : Int32)), .val (.int (0 : Int32)), .val (.int rv), .val (.int ex), .val (.int nr), .val (.int cs), .val (.int (0 : Int32)), .val (.int (0 : Int32)), .val (.int (0 : Int32)), .val (.int (1 : Int32)), .val (.int (-1 : Int32)), .val (.int ee), .unset, .unset, .unset, .unset] at_301 rfl rfl
    obtain ⟨o, g_o, s146⟩ := Sit.newo (P' := fun o => fun hh => Exa Z hh o "reenact/trace/IntBits" ∧ Fld Z hh o "reenact/trace/IntBits" "words" "[J" .null ∧ Fld Z hh o "reenact/trace/IntBits" "greatest" "I" (.int (0 : Int32)) ∧ Fld Z hh o "reenact/trace/IntBits" "size" "I" (.int (0 : Int32)) ∧ Fld Z hh o "reenact/trace/IntBits" "base" "I" (.int (0 : Int32)) ∧ Fld Z hh o "reenact/trace/IntBits" "head" "I" (.int (0 : Int32))) s145 hZ hown (wi hw 2 rfl) (wi hw 3 rfl) (wi hw 4 rfl) (by decide) (by decide) (fun hh hh' x q e X D => ⟨D.1, D.2 (Or.inl (wi hw 13 rfl)) (ty := (.array .long)) (by decide), D.2 (Or.inl (wi hw 15 rfl)) (ty := .int) (by decide), D.2 (Or.inl (wi hw 22 rfl)) (ty := .int) (by decide), D.2 (Or.inl (wi hw 24 rfl)) (ty := .int) (by decide), D.2 (Or.inl (wi hw 26 rfl)) (ty := .int) (by decide)⟩) at_303 (pc' := 306) rfl
    have s147 : Sit p l e _ s m _ below meth c _ st n0 1 5 _ 306 #[.val (.int u0), .val (.long u1), .second, .val (.int u3), .val (.int u4), .val (.int u5), .val (.int (0 : Int32)), .val (.int xa), .val (.int xb), .val (.int xc), .val (.int g4), .val (.int (0 : Int32)), .val (.int (0 : Int32)), .val (.int (0 : Int32)), .val (.int rv), .val (.int ex), .val (.int nr), .val (.int cs), .val (.int (0 : Int32)), .val (.int (0 : Int32)), .val (.int (0 : Int32)), .val (.int (1 : Int32)), .val (.int (-1 : Int32)), .val (.int ee), .unset, .unset, .unset, .unset] [(.ref o)] := s146
    have s148 : Sit p l e _ s m _ below meth c _ st n0 1 5 _ 307 #[.val (.int u0), .val (.long u1), .second, .val (.int u3), .val (.int u4), .val (.int u5), .val (.int (0 : Int32)), .val (.int xa), .val (.int xb), .val (.int xc), .val (.int g4), .val (.int (0 : Int32)), .val (.int (0 : Int32)), .val (.int (0 : Int32)), .val (.int rv), .val (.int ex), .val (.int nr), .val (.int cs), .val (.int (0 : Int32)), .val (.int (0 : Int32)), .val (.int (0 : Int32)), .val (.int (1 : Int32)), .val (.int (-1 : Int32)), .val (.int ee), .unset, .unset, .unset, .unset] [(.ref o), (.ref o)] := s147
      |>.dup at_306 rfl rfl
    obtain ⟨r150, s149⟩ := Sit.callI (y := (⟨"reenact/trace/IntBits", "<init>", "()V"⟩ : MethodName)) (W := 1) (Q := fun rv_ hh => ∃ v : Addr, (rv_ = none ∧ (n0 ≤ v ∧ @Ne Nat o v)) ∧ (fun hh => Exa Z hh o "reenact/trace/IntBits" ∧ Fld Z hh o "reenact/trace/IntBits" "words" "[J" (.ref v) ∧ Fld Z hh o "reenact/trace/IntBits" "greatest" "I" (.int (-1 : Int32)) ∧ Fld Z hh o "reenact/trace/IntBits" "size" "I" (.int (0 : Int32)) ∧ Fld Z hh o "reenact/trace/IntBits" "base" "I" (.int (0 : Int32)) ∧ Fld Z hh o "reenact/trace/IntBits" "head" "I" (.int (0 : Int32)) ∧ AV Z hh v .long ([0, 0, 0, 0].map Value.long)) hh) [] [(.ref o)] s148 rfl hZ hown (wi hw 5 rfl) (wi hw 6 rfl) (wi hw 7 rfl) (wi hw 4 rfl) (by decide) (fun h1 hP hn => (rmI l Z a0 hw [] o h1 n0 hn g_o hP).mono fun rv_ hh q => by
        obtain ⟨e1, v', e2, e3⟩ := q
        exact ⟨v', ⟨e1, e2⟩, e3⟩) hml rfl (lenOf pd_4 rfl) at_307 (Nat.le_of_eq rfl) (by decide) (by decide) (by decide) (by decide) (pc' := 310) rfl
    obtain ⟨v, s152⟩ := s149.ex
    obtain ⟨_, ⟨er150, spr150⟩, _⟩ := s152.facts
    subst er150
    have s151 : Sit p l e _ s m _ below meth c _ st n0 2 9 (fun hh => Exa Z hh o "reenact/trace/IntBits" ∧ Fld Z hh o "reenact/trace/IntBits" "words" "[J" (.ref v) ∧ Fld Z hh o "reenact/trace/IntBits" "greatest" "I" (.int (-1 : Int32)) ∧ Fld Z hh o "reenact/trace/IntBits" "size" "I" (.int (0 : Int32)) ∧ Fld Z hh o "reenact/trace/IntBits" "base" "I" (.int (0 : Int32)) ∧ Fld Z hh o "reenact/trace/IntBits" "head" "I" (.int (0 : Int32)) ∧ AV Z hh v .long ([0, 0, 0, 0].map Value.long)) 310 #[.val (.int u0), .val (.long u1), .second, .val (.int u3), .val (.int u4), .val (.int u5), .val (.int (0 : Int32)), .val (.int xa), .val (.int xb), .val (.int xc), .val (.int g4), .val (.int (0 : Int32)), .val (.int (0 : Int32)), .val (.int (0 : Int32)), .val (.int rv), .val (.int ex), .val (.int nr), .val (.int cs), .val (.int (0 : Int32)), .val (.int (0 : Int32)), .val (.int (0 : Int32)), .val (.int (1 : Int32)), .val (.int (-1 : Int32)), .val (.int ee), .unset, .unset, .unset, .unset] [(.ref o)] := s152.mono fun _ q => q.2
    obtain ⟨gv0, ne0⟩ := spr150
    have V0 : Inv [] (0 : Int32).toInt (0 : Int32).toInt (-1 : Int32).toInt [0, 0, 0, 0] := inv0
    have hz0 : (0 : Int32).toInt = (([] : List Int).length : Int) := rfl
    have hl0 : ([0, 0, 0, 0] : List Int64).length ≤ 4 := by decide
    have s153 : Sit p l e _ s m _ below meth c _ st n0 2 9 _ 315 #[.val (.int u0), .val (.long u1), .second, .val (.int u3), .val (.int u4), .val (.int u5), .val (.int (0 : Int32)), .val (.int xa), .val (.int xb), .val (.int xc), .val (.int g4), .val (.int (0 : Int32)), .val (.int (0 : Int32)), .val (.int (0 : Int32)), .val (.int rv), .val (.int ex), .val (.int nr), .val (.int cs), .val (.int (0 : Int32)), .val (.int (0 : Int32)), .val (.int (0 : Int32)), .val (.int (1 : Int32)), .val (.int (-1 : Int32)), .val (.int ee), .val (.ref o), .unset, .unset, .unset] [(.int (1 : Int32)), (.int (0 : Int32))] := s151
      |>.astore #[.val (.int u0), .val (.long u1), .second, .val (.int u3), .val (.int u4), .val (.int u5), .val (.int (0 : Int32)), .val (.int xa), .val (.int xb), .val (.int xc), .val (.int g4), .val (.int (0 : Int32)), .val (.int (0 : Int32)), .val (.int (0 : Int32)), .val (.int rv), .val (.int ex), .val (.int nr), .val (.int cs), .val (.int (0 : Int32)), .val (.int (0 : Int32)), .val (.int (0 : Int32)), .val (.int (1 : Int32)), .val (.int (-1 : Int32)), .val (.int ee), .val (.ref o), .unset, .unset, .unset] at_310 rfl rfl
      |>.iload at_312 rfl rfl
      |>.iconst (1 : Int32) at_314 rfl rfl
    have s154 : Sit p l e _ s m _ below meth c _ st n0 2 9 _ 328 #[.val (.int u0), .val (.long u1), .second, .val (.int u3), .val (.int u4), .val (.int u5), .val (.int (0 : Int32)), .val (.int xa), .val (.int xb), .val (.int xc), .val (.int g4), .val (.int (0 : Int32)), .val (.int (0 : Int32)), .val (.int (0 : Int32)), .val (.int rv), .val (.int ex), .val (.int nr), .val (.int cs), .val (.int (0 : Int32)), .val (.int (0 : Int32)), .val (.int (0 : Int32)), .val (.int (1 : Int32)), .val (.int (-1 : Int32)), .val (.int ee), .val (.ref o), .unset, .unset, .unset] [(.int (2 : Int32)), (.int (0 : Int32))] := s153
      |>.icmpY at_315 (cmpT (cd := .lt) (show (0 : Int) < (1 : Int) from by decide)) (by decide) (by decide)
      |>.iload at_325 rfl rfl
      |>.iconst (2 : Int32) at_327 rfl rfl
    have s155 : Sit p l e _ s m _ below meth c _ st n0 2 9 _ 341 #[.val (.int u0), .val (.long u1), .second, .val (.int u3), .val (.int u4), .val (.int u5), .val (.int (0 : Int32)), .val (.int xa), .val (.int xb), .val (.int xc), .val (.int g4), .val (.int (0 : Int32)), .val (.int (0 : Int32)), .val (.int (0 : Int32)), .val (.int rv), .val (.int ex), .val (.int nr), .val (.int cs), .val (.int (0 : Int32)), .val (.int (0 : Int32)), .val (.int (0 : Int32)), .val (.int (1 : Int32)), .val (.int (-1 : Int32)), .val (.int ee), .val (.ref o), .unset, .unset, .unset] [(.int (3 : Int32)), (.int (0 : Int32))] := s154
      |>.icmpY at_328 (cmpT (cd := .lt) (show (0 : Int) < (2 : Int) from by decide)) (by decide) (by decide)
      |>.iload at_338 rfl rfl
      |>.iconst (3 : Int32) at_340 rfl rfl
    have s156 : Sit p l e _ s m _ below meth c _ st n0 2 9 _ 353 #[.val (.int u0), .val (.long u1), .second, .val (.int u3), .val (.int u4), .val (.int u5), .val (.int (0 : Int32)), .val (.int xa), .val (.int xb), .val (.int xc), .val (.int g4), .val (.int (0 : Int32)), .val (.int (0 : Int32)), .val (.int (0 : Int32)), .val (.int rv), .val (.int ex), .val (.int nr), .val (.int cs), .val (.int (0 : Int32)), .val (.int (0 : Int32)), .val (.int (0 : Int32)), .val (.int (1 : Int32)), .val (.int (-1 : Int32)), .val (.int ee), .val (.ref o), .unset, .unset, .unset] [(.int rv)] := s155
      |>.icmpY at_341 (cmpT (cd := .lt) (show (0 : Int) < (3 : Int) from by decide)) (by decide) (by decide)
      |>.iload at_351 rfl rfl
    by_cases crv : rv = 0
    · have s157 : Sit p l e _ s m _ below meth c _ st n0 2 9 _ 397 #[.val (.int u0), .val (.long u1), .second, .val (.int u3), .val (.int u4), .val (.int u5), .val (.int (0 : Int32)), .val (.int xa), .val (.int xb), .val (.int xc), .val (.int g4), .val (.int (0 : Int32)), .val (.int (0 : Int32)), .val (.int (0 : Int32)), .val (.int rv), .val (.int ex), .val (.int nr), .val (.int cs), .val (.int (0 : Int32)), .val (.int (0 : Int32)), .val (.int (0 : Int32)), .val (.int (1 : Int32)), .val (.int (-1 : Int32)), .val (.int ee), .val (.ref o), .unset, .unset, .unset] [(.int (0 : Int32))] := s156
        |>.ifY at_353 (eqT crv) (by decide) (by decide)
        |>.iload at_395 rfl rfl
      have s158 : Sit p l e _ s m _ below meth c _ st n0 2 9 _ 409 #[.val (.int u0), .val (.long u1), .second, .val (.int u3), .val (.int u4), .val (.int u5), .val (.int (0 : Int32)), .val (.int xa), .val (.int xb), .val (.int xc), .val (.int g4), .val (.int (0 : Int32)), .val (.int (0 : Int32)), .val (.int (0 : Int32)), .val (.int rv), .val (.int ex), .val (.int nr), .val (.int cs), .val (.int (0 : Int32)), .val (.int (0 : Int32)), .val (.int (0 : Int32)), .val (.int (1 : Int32)), .val (.int (-1 : Int32)), .val (.int ee), .val (.ref o), .unset, .unset, .unset] [(.int (0 : Int32))] := s157
        |>.ifY at_397 (eqT (show (0 : Int32) = 0 from by decide)) (by decide) (by decide)
        |>.iload at_407 rfl rfl
      have s159 : Sit p l e _ s m _ below meth c _ st n0 2 9 _ 421 #[.val (.int u0), .val (.long u1), .second, .val (.int u3), .val (.int u4), .val (.int u5), .val (.int (0 : Int32)), .val (.int xa), .val (.int xb), .val (.int xc), .val (.int g4), .val (.int (0 : Int32)), .val (.int (0 : Int32)), .val (.int (0 : Int32)), .val (.int rv), .val (.int ex), .val (.int nr), .val (.int cs), .val (.int (0 : Int32)), .val (.int (0 : Int32)), .val (.int (0 : Int32)), .val (.int (1 : Int32)), .val (.int (-1 : Int32)), .val (.int ee), .val (.ref o), .unset, .unset, .unset] [(.int (0 : Int32))] := s158
        |>.ifY at_409 (eqT (show (0 : Int32) = 0 from by decide)) (by decide) (by decide)
        |>.iload at_419 rfl rfl
      have s160 : Sit p l e _ s m _ below meth c _ st n0 2 9 _ 431 #[.val (.int u0), .val (.long u1), .second, .val (.int u3), .val (.int u4), .val (.int u5), .val (.int (0 : Int32)), .val (.int xa), .val (.int xb), .val (.int xc), .val (.int g4), .val (.int (0 : Int32)), .val (.int (0 : Int32)), .val (.int (0 : Int32)), .val (.int rv), .val (.int ex), .val (.int nr), .val (.int cs), .val (.int (0 : Int32)), .val (.int (0 : Int32)), .val (.int (0 : Int32)), .val (.int (1 : Int32)), .val (.int (-1 : Int32)), .val (.int ee), .val (.ref o), .unset, .unset, .unset] [] := s159
        |>.ifY at_421 (eqT (show (0 : Int32) = 0 from by decide)) (by decide) (by decide)
      have hgt : (-1 : Int32).toInt < ee.toInt := by
        have e := (V0).2.2.2.2.2.2.1 rfl; omega
      have mem0 : ∀ y : Int32, y.toInt ∈ ([] : List Int) ↔ ((¬ (0 : Int32) = 0 ∧ y = xa) ∨ (¬ (0 : Int32) = 0 ∧ y = xb) ∨ (¬ (0 : Int32) = 0 ∧ y = xc)) := fun y => by
        have d1 : ¬ (1 : Int32) = 0 := by decide
        simp only [List.mem_cons, List.not_mem_nil, or_false, false_or, Int32.toInt_inj, d1, not_true_eq_false, not_false_eq_true, true_and, false_and]
      exact tail (0 : Int32) (0 : Int32) (0 : Int32) (0 : Int32) rv ex nr cs (0 : Int32) (0 : Int32) (0 : Int32) (1 : Int32) (-1 : Int32) ee o v (0 : Int32) (0 : Int32) (-1 : Int32) (0 : Int32) [0, 0, 0, 0] ([] : List Int) g_o gv0 ne0 V0 hz0 (by simp only [List.length_cons, List.length_nil]; omega) (by omega) mem0 (fun y hy => by simp at hy) e_ex hgt re (Or.inl rfl) (s160.bound (cells' := 12) (slots' := 560) (by decide) (by decide))
    · have s161 : Sit p l e _ s m _ below meth c _ st n0 2 9 _ 358 #[.val (.int u0), .val (.long u1), .second, .val (.int u3), .val (.int u4), .val (.int u5), .val (.int (0 : Int32)), .val (.int xa), .val (.int xb), .val (.int xc), .val (.int g4), .val (.int (0 : Int32)), .val (.int (0 : Int32)), .val (.int (0 : Int32)), .val (.int rv), .val (.int ex), .val (.int nr), .val (.int cs), .val (.int (0 : Int32)), .val (.int (0 : Int32)), .val (.int (0 : Int32)), .val (.int (1 : Int32)), .val (.int (-1 : Int32)), .val (.int ee), .val (.ref o), .unset, .unset, .unset] [(.int (0 : Int32))] := s156
        |>.ifN at_353 (eqF crv) rfl
        |>.iload at_356 rfl rfl
      have s162 : Sit p l e _ s m _ below meth c _ st n0 2 9 _ 370 #[.val (.int u0), .val (.long u1), .second, .val (.int u3), .val (.int u4), .val (.int u5), .val (.int (0 : Int32)), .val (.int xa), .val (.int xb), .val (.int xc), .val (.int g4), .val (.int (0 : Int32)), .val (.int (0 : Int32)), .val (.int (0 : Int32)), .val (.int rv), .val (.int ex), .val (.int nr), .val (.int cs), .val (.int (0 : Int32)), .val (.int (0 : Int32)), .val (.int (0 : Int32)), .val (.int (1 : Int32)), .val (.int (-1 : Int32)), .val (.int ee), .val (.ref o), .unset, .unset, .unset] [(.int (0 : Int32))] := s161
        |>.ifY at_358 (eqT (show (0 : Int32) = 0 from by decide)) (by decide) (by decide)
        |>.iload at_368 rfl rfl
      have s163 : Sit p l e _ s m _ below meth c _ st n0 2 9 _ 382 #[.val (.int u0), .val (.long u1), .second, .val (.int u3), .val (.int u4), .val (.int u5), .val (.int (0 : Int32)), .val (.int xa), .val (.int xb), .val (.int xc), .val (.int g4), .val (.int (0 : Int32)), .val (.int (0 : Int32)), .val (.int (0 : Int32)), .val (.int rv), .val (.int ex), .val (.int nr), .val (.int cs), .val (.int (0 : Int32)), .val (.int (0 : Int32)), .val (.int (0 : Int32)), .val (.int (1 : Int32)), .val (.int (-1 : Int32)), .val (.int ee), .val (.ref o), .unset, .unset, .unset] [(.int (0 : Int32))] := s162
        |>.ifY at_370 (eqT (show (0 : Int32) = 0 from by decide)) (by decide) (by decide)
        |>.iload at_380 rfl rfl
      have s164 : Sit p l e _ s m _ below meth c _ st n0 2 9 _ 431 #[.val (.int u0), .val (.long u1), .second, .val (.int u3), .val (.int u4), .val (.int u5), .val (.int (0 : Int32)), .val (.int xa), .val (.int xb), .val (.int xc), .val (.int g4), .val (.int (0 : Int32)), .val (.int (0 : Int32)), .val (.int (0 : Int32)), .val (.int rv), .val (.int ex), .val (.int nr), .val (.int cs), .val (.int (0 : Int32)), .val (.int (0 : Int32)), .val (.int (0 : Int32)), .val (.int (1 : Int32)), .val (.int (-1 : Int32)), .val (.int ee), .val (.ref o), .unset, .unset, .unset] [] := s163
        |>.ifY at_382 (eqT (show (0 : Int32) = 0 from by decide)) (by decide) (by decide)
      have hgt : (-1 : Int32).toInt < ee.toInt := by
        have e := (V0).2.2.2.2.2.2.1 rfl; omega
      have mem0 : ∀ y : Int32, y.toInt ∈ ([] : List Int) ↔ ((¬ (0 : Int32) = 0 ∧ y = xa) ∨ (¬ (0 : Int32) = 0 ∧ y = xb) ∨ (¬ (0 : Int32) = 0 ∧ y = xc)) := fun y => by
        have d1 : ¬ (1 : Int32) = 0 := by decide
        simp only [List.mem_cons, List.not_mem_nil, or_false, false_or, Int32.toInt_inj, d1, not_true_eq_false, not_false_eq_true, true_and, false_and]
      exact tail (0 : Int32) (0 : Int32) (0 : Int32) (0 : Int32) rv ex nr cs (0 : Int32) (0 : Int32) (0 : Int32) (1 : Int32) (-1 : Int32) ee o v (0 : Int32) (0 : Int32) (-1 : Int32) (0 : Int32) [0, 0, 0, 0] ([] : List Int) g_o gv0 ne0 V0 hz0 (by simp only [List.length_cons, List.length_nil]; omega) (by omega) mem0 (fun y hy => by simp at hy) e_ex hgt re (Or.inl rfl) (s164.bound (cells' := 12) (slots' := 560) (by decide) (by decide))
  · have s165 : Sit p l e _ s m _ below meth c _ st n0 0 0 (fun hh => True) 51 #[.val (.int u0), .val (.long u1), .second, .val (.int u3), .val (.int u4), .val (.int u5), .val (.int (1 : Int32)), .val (.int xa), .val (.int xb), .val (.int xc), .unset, .unset, .unset, .unset, .unset, .unset, .unset, .unset, .unset, .unset, .unset, .unset, .unset, .unset, .unset, .unset, .unset, .unset] [(.int g4)] := s11
    have s166 : Sit p l e _ s m _ below meth c _ st n0 0 0 _ 56 #[.val (.int u0), .val (.long u1), .second, .val (.int u3), .val (.int u4), .val (.int u5), .val (.int (1 : Int32)), .val (.int xa), .val (.int xb), .val (.int xc), .val (.int g4), .unset, .unset, .unset, .unset, .unset, .unset, .unset, .unset, .unset, .unset, .unset, .unset, .unset, .unset, .unset, .unset, .unset] [(.int (1 : Int32)), (.int (1 : Int32))] := s165
      |>.istore #[.val (.int u0), .val (.long u1), .second, .val (.int u3), .val (.int u4), .val (.int u5), .val (.int (1 : Int32)), .val (.int xa), .val (.int xb), .val (.int xc), .val (.int g4), .unset, .unset, .unset, .unset, .unset, .unset, .unset, .unset, .unset, .unset, .unset, .unset, .unset, .unset, .unset, .unset, .unset] at_51 rfl rfl
      |>.iload at_53 rfl rfl
      |>.iconst (1 : Int32) at_55 rfl rfl
    have s167 : Sit p l e _ s m _ below meth c _ st n0 0 0 _ 64 #[.val (.int u0), .val (.long u1), .second, .val (.int u3), .val (.int u4), .val (.int u5), .val (.int (1 : Int32)), .val (.int xa), .val (.int xb), .val (.int xc), .val (.int g4), .unset, .unset, .unset, .unset, .unset, .unset, .unset, .unset, .unset, .unset, .unset, .unset, .unset, .unset, .unset, .unset, .unset] [(.int ((ushr32 u3 (2 : Int32)) &&& (1 : Int32)))] := s166
      |>.icmpN at_56 (cmpF (cd := .lt) (show ¬ ((1 : Int) < (1 : Int)) from by decide)) rfl
      |>.iloadN at_59 rfl rfl
      |>.iconst (2 : Int32) at_60 rfl rfl
      |>.iushr at_61 rfl
      |>.iconst (1 : Int32) at_62 rfl rfl
      |>.iand at_63 rfl
    obtain ⟨rA, e_rA, s171⟩ : ∃ rA : Int32, (rA = 0 ∨ rA = 1) ∧ Sit p l e room_1 s m #[(.int u0), (.long u1), (.int u3), (.int u4), (.int u5)] below meth c code st n0 0 0 (fun hh => True) 72 #[.val (.int u0), .val (.long u1), .second, .val (.int u3), .val (.int u4), .val (.int u5), .val (.int (1 : Int32)), .val (.int xa), .val (.int xb), .val (.int xc), .val (.int g4), .unset, .unset, .unset, .unset, .unset, .unset, .unset, .unset, .unset, .unset, .unset, .unset, .unset, .unset, .unset, .unset, .unset] [(.int rA)] := by
      by_cases cnd168 : ((ushr32 u3 (2 : Int32)) &&& (1 : Int32)) = 0
      · have s169 : Sit p l e _ s m _ below meth c _ st n0 0 0 _ 72 #[.val (.int u0), .val (.long u1), .second, .val (.int u3), .val (.int u4), .val (.int u5), .val (.int (1 : Int32)), .val (.int xa), .val (.int xb), .val (.int xc), .val (.int g4), .unset, .unset, .unset, .unset, .unset, .unset, .unset, .unset, .unset, .unset, .unset, .unset, .unset, .unset, .unset, .unset, .unset] [(.int (0 : Int32))] := s167
          |>.ifY at_64 (eqT cnd168) (by decide) (by decide)
          |>.iconst (0 : Int32) at_71 rfl rfl
        exact ⟨(0 : Int32), Or.inl rfl, s169⟩
      · have s170 : Sit p l e _ s m _ below meth c _ st n0 0 0 _ 72 #[.val (.int u0), .val (.long u1), .second, .val (.int u3), .val (.int u4), .val (.int u5), .val (.int (1 : Int32)), .val (.int xa), .val (.int xb), .val (.int xc), .val (.int g4), .unset, .unset, .unset, .unset, .unset, .unset, .unset, .unset, .unset, .unset, .unset, .unset, .unset, .unset, .unset, .unset, .unset] [(.int (1 : Int32))] := s167
          |>.ifN at_64 (eqF cnd168) rfl
          |>.iconst (1 : Int32) at_67 rfl rfl
          |>.goto at_68 (by decide) (by decide)
        exact ⟨(1 : Int32), Or.inr rfl, s170⟩
    have s172 : Sit p l e _ s m _ below meth c _ st n0 0 0 _ 77 #[.val (.int u0), .val (.long u1), .second, .val (.int u3), .val (.int u4), .val (.int u5), .val (.int (1 : Int32)), .val (.int xa), .val (.int xb), .val (.int xc), .val (.int g4), .val (.int rA), .unset, .unset, .unset, .unset, .unset, .unset, .unset, .unset, .unset, .unset, .unset, .unset, .unset, .unset, .unset, .unset] [(.int (2 : Int32)), (.int (1 : Int32))] := s171
      |>.istore #[.val (.int u0), .val (.long u1), .second, .val (.int u3), .val (.int u4), .val (.int u5), .val (.int (1 : Int32)), .val (.int xa), .val (.int xb), .val (.int xc), .val (.int g4), .val (.int rA), .unset, .unset, .unset, .unset, .unset, .unset, .unset, .unset, .unset, .unset, .unset, .unset, .unset, .unset, .unset, .unset] at_72 rfl rfl
      |>.iload at_74 rfl rfl
      |>.iconst (2 : Int32) at_76 rfl rfl
    have s173 : Sit p l e _ s m _ below meth c _ st n0 0 0 _ 98 #[.val (.int u0), .val (.long u1), .second, .val (.int u3), .val (.int u4), .val (.int u5), .val (.int (1 : Int32)), .val (.int xa), .val (.int xb), .val (.int xc), .val (.int g4), .val (.int rA), .val (.int (0 : Int32)), .unset, .unset, .unset, .unset, .unset, .unset, .unset, .unset, .unset, .unset, .unset, .unset, .unset, .unset, .unset] [(.int (3 : Int32)), (.int (1 : Int32))] := s172
      |>.icmpY at_77 (cmpT (cd := .lt) (show (1 : Int) < (2 : Int) from by decide)) (by decide) (by decide)
      |>.iconst (0 : Int32) at_92 rfl rfl
      |>.istore #[.val (.int u0), .val (.long u1), .second, .val (.int u3), .val (.int u4), .val (.int u5), .val (.int (1 : Int32)), .val (.int xa), .val (.int xb), .val (.int xc), .val (.int g4), .val (.int rA), .val (.int (0 : Int32)), .unset, .unset, .unset, .unset, .unset, .unset, .unset, .unset, .unset, .unset, .unset, .unset, .unset, .unset, .unset] at_93 rfl rfl
      |>.iload at_95 rfl rfl
      |>.iconst (3 : Int32) at_97 rfl rfl
    have s174 : Sit p l e _ s m _ below meth c _ st n0 0 0 _ 121 #[.val (.int u0), .val (.long u1), .second, .val (.int u3), .val (.int u4), .val (.int u5), .val (.int (1 : Int32)), .val (.int xa), .val (.int xb), .val (.int xc), .val (.int g4), .val (.int rA), .val (.int (0 : Int32)), .val (.int (0 : Int32)), .unset, .unset, .unset, .unset, .unset, .unset, .unset, .unset, .unset, .unset, .unset, .unset, .unset, .unset] [(.int ((ushr32 u3 (5 : Int32)) &&& (1 : Int32)))] := s173
      |>.icmpY at_98 (cmpT (cd := .lt) (show (1 : Int) < (3 : Int) from by decide)) (by decide) (by decide)
      |>.iconst (0 : Int32) at_113 rfl rfl
      |>.istore #[.val (.int u0), .val (.long u1), .second, .val (.int u3), .val (.int u4), .val (.int u5), .val (.int (1 : Int32)), .val (.int xa), .val (.int xb), .val (.int xc), .val (.int g4), .val (.int rA), .val (.int (0 : Int32)), .val (.int (0 : Int32)), .unset, .unset, .unset, .unset, .unset, .unset, .unset, .unset, .unset, .unset, .unset, .unset, .unset, .unset] at_114 rfl rfl
      |>.iloadN at_116 rfl rfl
      |>.iconst (5 : Int32) at_117 rfl rfl
      |>.iushr at_118 rfl
      |>.iconst (1 : Int32) at_119 rfl rfl
      |>.iand at_120 rfl
    obtain ⟨rv, e_rv, s178⟩ : ∃ rv : Int32, (rv = 0 ∨ rv = 1) ∧ Sit p l e room_1 s m #[(.int u0), (.long u1), (.int u3), (.int u4), (.int u5)] below meth c code st n0 0 0 (fun hh => True) 129 #[.val (.int u0), .val (.long u1), .second, .val (.int u3), .val (.int u4), .val (.int u5), .val (.int (1 : Int32)), .val (.int xa), .val (.int xb), .val (.int xc), .val (.int g4), .val (.int rA), .val (.int (0 : Int32)), .val (.int (0 : Int32)), .unset, .unset, .unset, .unset, .unset, .unset, .unset, .unset, .unset, .unset, .unset, .unset, .unset, .unset] [(.int rv)] := by
      by_cases cnd175 : ((ushr32 u3 (5 : Int32)) &&& (1 : Int32)) = 0
      · have s176 : Sit p l e _ s m _ below meth c _ st n0 0 0 _ 129 #[.val (.int u0), .val (.long u1), .second, .val (.int u3), .val (.int u4), .val (.int u5), .val (.int (1 : Int32)), .val (.int xa), .val (.int xb), .val (.int xc), .val (.int g4), .val (.int rA), .val (.int (0 : Int32)), .val (.int (0 : Int32)), .unset, .unset, .unset, .unset, .unset, .unset, .unset, .unset, .unset, .unset, .unset, .unset, .unset, .unset] [(.int (0 : Int32))] := s174
          |>.ifY at_121 (eqT cnd175) (by decide) (by decide)
          |>.iconst (0 : Int32) at_128 rfl rfl
        exact ⟨(0 : Int32), Or.inl rfl, s176⟩
      · have s177 : Sit p l e _ s m _ below meth c _ st n0 0 0 _ 129 #[.val (.int u0), .val (.long u1), .second, .val (.int u3), .val (.int u4), .val (.int u5), .val (.int (1 : Int32)), .val (.int xa), .val (.int xb), .val (.int xc), .val (.int g4), .val (.int rA), .val (.int (0 : Int32)), .val (.int (0 : Int32)), .unset, .unset, .unset, .unset, .unset, .unset, .unset, .unset, .unset, .unset, .unset, .unset, .unset, .unset] [(.int (1 : Int32))] := s174
          |>.ifN at_121 (eqF cnd175) rfl
          |>.iconst (1 : Int32) at_124 rfl rfl
          |>.goto at_125 (by decide) (by decide)
        exact ⟨(1 : Int32), Or.inr rfl, s177⟩
    have s179 : Sit p l e _ s m _ below meth c _ st n0 0 0 _ 137 #[.val (.int u0), .val (.long u1), .second, .val (.int u3), .val (.int u4), .val (.int u5), .val (.int (1 : Int32)), .val (.int xa), .val (.int xb), .val (.int xc), .val (.int g4), .val (.int rA), .val (.int (0 : Int32)), .val (.int (0 : Int32)), .val (.int rv), .unset, .unset, .unset, .unset, .unset, .unset, .unset, .unset, .unset, .unset, .unset, .unset, .unset] [(.int ((ushr32 u3 (6 : Int32)) &&& (1 : Int32)))] := s178
      |>.istore #[.val (.int u0), .val (.long u1), .second, .val (.int u3), .val (.int u4), .val (.int u5), .val (.int (1 : Int32)), .val (.int xa), .val (.int xb), .val (.int xc), .val (.int g4), .val (.int rA), .val (.int (0 : Int32)), .val (.int (0 : Int32)), .val (.int rv), .unset, .unset, .unset, .unset, .unset, .unset, .unset, .unset, .unset, .unset, .unset, .unset, .unset] at_129 rfl rfl
      |>.iloadN at_131 rfl rfl
      |>.bipush (6 : Int32) at_132 rfl rfl
      |>.iushr at_134 rfl
      |>.iconst (1 : Int32) at_135 rfl rfl
      |>.iand at_136 rfl
    obtain ⟨ex, e_ex, s183⟩ : ∃ ex : Int32, (ex = 0 ∨ ex = 1) ∧ Sit p l e room_1 s m #[(.int u0), (.long u1), (.int u3), (.int u4), (.int u5)] below meth c code st n0 0 0 (fun hh => True) 145 #[.val (.int u0), .val (.long u1), .second, .val (.int u3), .val (.int u4), .val (.int u5), .val (.int (1 : Int32)), .val (.int xa), .val (.int xb), .val (.int xc), .val (.int g4), .val (.int rA), .val (.int (0 : Int32)), .val (.int (0 : Int32)), .val (.int rv), .unset, .unset, .unset, .unset, .unset, .unset, .unset, .unset, .unset, .unset, .unset, .unset, .unset] [(.int ex)] := by
      by_cases cnd180 : ((ushr32 u3 (6 : Int32)) &&& (1 : Int32)) = 0
      · have s181 : Sit p l e _ s m _ below meth c _ st n0 0 0 _ 145 #[.val (.int u0), .val (.long u1), .second, .val (.int u3), .val (.int u4), .val (.int u5), .val (.int (1 : Int32)), .val (.int xa), .val (.int xb), .val (.int xc), .val (.int g4), .val (.int rA), .val (.int (0 : Int32)), .val (.int (0 : Int32)), .val (.int rv), .unset, .unset, .unset, .unset, .unset, .unset, .unset, .unset, .unset, .unset, .unset, .unset, .unset] [(.int (0 : Int32))] := s179
          |>.ifY at_137 (eqT cnd180) (by decide) (by decide)
          |>.iconst (0 : Int32) at_144 rfl rfl
        exact ⟨(0 : Int32), Or.inl rfl, s181⟩
      · have s182 : Sit p l e _ s m _ below meth c _ st n0 0 0 _ 145 #[.val (.int u0), .val (.long u1), .second, .val (.int u3), .val (.int u4), .val (.int u5), .val (.int (1 : Int32)), .val (.int xa), .val (.int xb), .val (.int xc), .val (.int g4), .val (.int rA), .val (.int (0 : Int32)), .val (.int (0 : Int32)), .val (.int rv), .unset, .unset, .unset, .unset, .unset, .unset, .unset, .unset, .unset, .unset, .unset, .unset, .unset] [(.int (1 : Int32))] := s179
          |>.ifN at_137 (eqF cnd180) rfl
          |>.iconst (1 : Int32) at_140 rfl rfl
          |>.goto at_141 (by decide) (by decide)
        exact ⟨(1 : Int32), Or.inr rfl, s182⟩
    have s184 : Sit p l e _ s m _ below meth c _ st n0 0 0 _ 153 #[.val (.int u0), .val (.long u1), .second, .val (.int u3), .val (.int u4), .val (.int u5), .val (.int (1 : Int32)), .val (.int xa), .val (.int xb), .val (.int xc), .val (.int g4), .val (.int rA), .val (.int (0 : Int32)), .val (.int (0 : Int32)), .val (.int rv), .val (.int ex), .unset, .unset, .unset, .unset, .unset, .unset, .unset, .unset, .unset, .unset, .unset, .unset] [(.int ((ushr32 u3 (7 : Int32)) &&& (1 : Int32)))] := s183
      |>.istore #[.val (.int u0), .val (.long u1), .second, .val (.int u3), .val (.int u4), .val (.int u5), .val (.int (1 : Int32)), .val (.int xa), .val (.int xb), .val (.int xc), .val (.int g4), .val (.int rA), .val (.int (0 : Int32)), .val (.int (0 : Int32)), .val (.int rv), .val (.int ex), .unset, .unset, .unset, .unset, .unset, .unset, .unset, .unset, .unset, .unset, .unset, .unset] at_145 rfl rfl
      |>.iloadN at_147 rfl rfl
      |>.bipush (7 : Int32) at_148 rfl rfl
      |>.iushr at_150 rfl
      |>.iconst (1 : Int32) at_151 rfl rfl
      |>.iand at_152 rfl
    obtain ⟨nr, e_nr, s188⟩ : ∃ nr : Int32, (nr = 0 ∨ nr = 1) ∧ Sit p l e room_1 s m #[(.int u0), (.long u1), (.int u3), (.int u4), (.int u5)] below meth c code st n0 0 0 (fun hh => True) 161 #[.val (.int u0), .val (.long u1), .second, .val (.int u3), .val (.int u4), .val (.int u5), .val (.int (1 : Int32)), .val (.int xa), .val (.int xb), .val (.int xc), .val (.int g4), .val (.int rA), .val (.int (0 : Int32)), .val (.int (0 : Int32)), .val (.int rv), .val (.int ex), .unset, .unset, .unset, .unset, .unset, .unset, .unset, .unset, .unset, .unset, .unset, .unset] [(.int nr)] := by
      by_cases cnd185 : ((ushr32 u3 (7 : Int32)) &&& (1 : Int32)) = 0
      · have s186 : Sit p l e _ s m _ below meth c _ st n0 0 0 _ 161 #[.val (.int u0), .val (.long u1), .second, .val (.int u3), .val (.int u4), .val (.int u5), .val (.int (1 : Int32)), .val (.int xa), .val (.int xb), .val (.int xc), .val (.int g4), .val (.int rA), .val (.int (0 : Int32)), .val (.int (0 : Int32)), .val (.int rv), .val (.int ex), .unset, .unset, .unset, .unset, .unset, .unset, .unset, .unset, .unset, .unset, .unset, .unset] [(.int (0 : Int32))] := s184
          |>.ifY at_153 (eqT cnd185) (by decide) (by decide)
          |>.iconst (0 : Int32) at_160 rfl rfl
        exact ⟨(0 : Int32), Or.inl rfl, s186⟩
      · have s187 : Sit p l e _ s m _ below meth c _ st n0 0 0 _ 161 #[.val (.int u0), .val (.long u1), .second, .val (.int u3), .val (.int u4), .val (.int u5), .val (.int (1 : Int32)), .val (.int xa), .val (.int xb), .val (.int xc), .val (.int g4), .val (.int rA), .val (.int (0 : Int32)), .val (.int (0 : Int32)), .val (.int rv), .val (.int ex), .unset, .unset, .unset, .unset, .unset, .unset, .unset, .unset, .unset, .unset, .unset, .unset] [(.int (1 : Int32))] := s184
          |>.ifN at_153 (eqF cnd185) rfl
          |>.iconst (1 : Int32) at_156 rfl rfl
          |>.goto at_157 (by decide) (by decide)
        exact ⟨(1 : Int32), Or.inr rfl, s187⟩
    have s189 : Sit p l e _ s m _ below meth c _ st n0 0 0 _ 169 #[.val (.int u0), .val (.long u1), .second, .val (.int u3), .val (.int u4), .val (.int u5), .val (.int (1 : Int32)), .val (.int xa), .val (.int xb), .val (.int xc), .val (.int g4), .val (.int rA), .val (.int (0 : Int32)), .val (.int (0 : Int32)), .val (.int rv), .val (.int ex), .val (.int nr), .unset, .unset, .unset, .unset, .unset, .unset, .unset, .unset, .unset, .unset, .unset] [(.int ((ushr32 u3 (8 : Int32)) &&& (3 : Int32)))] := s188
      |>.istore #[.val (.int u0), .val (.long u1), .second, .val (.int u3), .val (.int u4), .val (.int u5), .val (.int (1 : Int32)), .val (.int xa), .val (.int xb), .val (.int xc), .val (.int g4), .val (.int rA), .val (.int (0 : Int32)), .val (.int (0 : Int32)), .val (.int rv), .val (.int ex), .val (.int nr), .unset, .unset, .unset, .unset, .unset, .unset, .unset, .unset, .unset, .unset, .unset] at_161 rfl rfl
      |>.iloadN at_163 rfl rfl
      |>.bipush (8 : Int32) at_164 rfl rfl
      |>.iushr at_166 rfl
      |>.iconst (3 : Int32) at_167 rfl rfl
      |>.iand at_168 rfl
    obtain ⟨cs, e_cs, s190⟩ : ∃ cs : Int32, cs = ((ushr32 u3 (8 : Int32)) &&& (3 : Int32)) ∧ Sit p l e _ s m _ below meth c _ st n0 0 0 _ 169 #[.val (.int u0), .val (.long u1), .second, .val (.int u3), .val (.int u4), .val (.int u5), .val (.int (1 : Int32)), .val (.int xa), .val (.int xb), .val (.int xc), .val (.int g4), .val (.int rA), .val (.int (0 : Int32)), .val (.int (0 : Int32)), .val (.int rv), .val (.int ex), .val (.int nr), .unset, .unset, .unset, .unset, .unset, .unset, .unset, .unset, .unset, .unset, .unset] [(.int cs)] := ⟨_, rfl, s189⟩
    have s191 : Sit p l e _ s m _ below meth c _ st n0 0 0 _ 174 #[.val (.int u0), .val (.long u1), .second, .val (.int u3), .val (.int u4), .val (.int u5), .val (.int (1 : Int32)), .val (.int xa), .val (.int xb), .val (.int xc), .val (.int g4), .val (.int rA), .val (.int (0 : Int32)), .val (.int (0 : Int32)), .val (.int rv), .val (.int ex), .val (.int nr), .val (.int cs), .unset, .unset, .unset, .unset, .unset, .unset, .unset, .unset, .unset, .unset] [(.int (1 : Int32)), (.int (1 : Int32))] := s190
      |>.istore #[.val (.int u0), .val (.long u1), .second, .val (.int u3), .val (.int u4), .val (.int u5), .val (.int (1 : Int32)), .val (.int xa), .val (.int xb), .val (.int xc), .val (.int g4), .val (.int rA), .val (.int (0 : Int32)), .val (.int (0 : Int32)), .val (.int rv), .val (.int ex), .val (.int nr), .val (.int cs), .unset, .unset, .unset, .unset, .unset, .unset, .unset, .unset, .unset, .unset] at_169 rfl rfl
      |>.iload at_171 rfl rfl
      |>.iconst (1 : Int32) at_173 rfl rfl
    have s192 : Sit p l e _ s m _ below meth c _ st n0 0 0 _ 179 #[.val (.int u0), .val (.long u1), .second, .val (.int u3), .val (.int u4), .val (.int u5), .val (.int (1 : Int32)), .val (.int xa), .val (.int xb), .val (.int xc), .val (.int g4), .val (.int rA), .val (.int (0 : Int32)), .val (.int (0 : Int32)), .val (.int rv), .val (.int ex), .val (.int nr), .val (.int cs), .unset, .unset, .unset, .unset, .unset, .unset, .unset, .unset, .unset, .unset] [(.int rA)] := s191
      |>.icmpN at_174 (cmpF (cd := .lt) (show ¬ ((1 : Int) < (1 : Int)) from by decide)) rfl
      |>.iload at_177 rfl rfl
    obtain ⟨hA, e_hA, s195⟩ : ∃ hA : Int32, ((hA = 1 ∧ rA = 0) ∨ (hA = 0 ∧ ¬ rA = 0)) ∧ Sit p l e room_1 s m #[(.int u0), (.long u1), (.int u3), (.int u4), (.int u5)] below meth c code st n0 0 0 (fun hh => True) 187 #[.val (.int u0), .val (.long u1), .second, .val (.int u3), .val (.int u4), .val (.int u5), .val (.int (1 : Int32)), .val (.int xa), .val (.int xb), .val (.int xc), .val (.int g4), .val (.int rA), .val (.int (0 : Int32)), .val (.int (0 : Int32)), .val (.int rv), .val (.int ex), .val (.int nr), .val (.int cs), .unset, .unset, .unset, .unset, .unset, .unset, .unset, .unset, .unset, .unset] [(.int hA)] := by
      by_cases cr : ¬ rA = 0
      · have s193 : Sit p l e _ s m _ below meth c _ st n0 0 0 _ 187 #[.val (.int u0), .val (.long u1), .second, .val (.int u3), .val (.int u4), .val (.int u5), .val (.int (1 : Int32)), .val (.int xa), .val (.int xb), .val (.int xc), .val (.int g4), .val (.int rA), .val (.int (0 : Int32)), .val (.int (0 : Int32)), .val (.int rv), .val (.int ex), .val (.int nr), .val (.int cs), .unset, .unset, .unset, .unset, .unset, .unset, .unset, .unset, .unset, .unset] [(.int (0 : Int32))] := s192
          |>.ifY at_179 (neT cr) (by decide) (by decide)
          |>.iconst (0 : Int32) at_186 rfl rfl
        exact ⟨0, Or.inr ⟨rfl, cr⟩, s193⟩
      · have s194 : Sit p l e _ s m _ below meth c _ st n0 0 0 _ 187 #[.val (.int u0), .val (.long u1), .second, .val (.int u3), .val (.int u4), .val (.int u5), .val (.int (1 : Int32)), .val (.int xa), .val (.int xb), .val (.int xc), .val (.int g4), .val (.int rA), .val (.int (0 : Int32)), .val (.int (0 : Int32)), .val (.int rv), .val (.int ex), .val (.int nr), .val (.int cs), .unset, .unset, .unset, .unset, .unset, .unset, .unset, .unset, .unset, .unset] [(.int (1 : Int32))] := s192
          |>.ifN at_179 ((neF (Classical.not_not.mp cr))) rfl
          |>.iconst (1 : Int32) at_182 rfl rfl
          |>.goto at_183 (by decide) (by decide)
        exact ⟨1, Or.inl ⟨rfl, Classical.not_not.mp cr⟩, s194⟩
    have s196 : Sit p l e _ s m _ below meth c _ st n0 0 0 _ 192 #[.val (.int u0), .val (.long u1), .second, .val (.int u3), .val (.int u4), .val (.int u5), .val (.int (1 : Int32)), .val (.int xa), .val (.int xb), .val (.int xc), .val (.int g4), .val (.int rA), .val (.int (0 : Int32)), .val (.int (0 : Int32)), .val (.int rv), .val (.int ex), .val (.int nr), .val (.int cs), .val (.int hA), .unset, .unset, .unset, .unset, .unset, .unset, .unset, .unset, .unset] [(.int (2 : Int32)), (.int (1 : Int32))] := s195
      |>.istore #[.val (.int u0), .val (.long u1), .second, .val (.int u3), .val (.int u4), .val (.int u5), .val (.int (1 : Int32)), .val (.int xa), .val (.int xb), .val (.int xc), .val (.int g4), .val (.int rA), .val (.int (0 : Int32)), .val (.int (0 : Int32)), .val (.int rv), .val (.int ex), .val (.int nr), .val (.int cs), .val (.int hA), .unset, .unset, .unset, .unset, .unset, .unset, .unset, .unset, .unset] at_187 rfl rfl
      |>.iload at_189 rfl rfl
      |>.iconst (2 : Int32) at_191 rfl rfl
    have s197 : Sit p l e _ s m _ below meth c _ st n0 0 0 _ 210 #[.val (.int u0), .val (.long u1), .second, .val (.int u3), .val (.int u4), .val (.int u5), .val (.int (1 : Int32)), .val (.int xa), .val (.int xb), .val (.int xc), .val (.int g4), .val (.int rA), .val (.int (0 : Int32)), .val (.int (0 : Int32)), .val (.int rv), .val (.int ex), .val (.int nr), .val (.int cs), .val (.int hA), .val (.int (0 : Int32)), .unset, .unset, .unset, .unset, .unset, .unset, .unset, .unset] [(.int (3 : Int32)), (.int (1 : Int32))] := s196
      |>.icmpY at_192 (cmpT (cd := .lt) (show (1 : Int) < (2 : Int) from by decide)) (by decide) (by decide)
      |>.iconst (0 : Int32) at_204 rfl rfl
      |>.istore #[.val (.int u0), .val (.long u1), .second, .val (.int u3), .val (.int u4), .val (.int u5), .val (.int (1 : Int32)), .val (.int xa), .val (.int xb), .val (.int xc), .val (.int g4), .val (.int rA), .val (.int (0 : Int32)), .val (.int (0 : Int32)), .val (.int rv), .val (.int ex), .val (.int nr), .val (.int cs), .val (.int hA), .val (.int (0 : Int32)), .unset, .unset, .unset, .unset, .unset, .unset, .unset, .unset] at_205 rfl rfl
      |>.iload at_207 rfl rfl
      |>.iconst (3 : Int32) at_209 rfl rfl
    have s198 : Sit p l e _ s m _ below meth c _ st n0 0 0 _ 225 #[.val (.int u0), .val (.long u1), .second, .val (.int u3), .val (.int u4), .val (.int u5), .val (.int (1 : Int32)), .val (.int xa), .val (.int xb), .val (.int xc), .val (.int g4), .val (.int rA), .val (.int (0 : Int32)), .val (.int (0 : Int32)), .val (.int rv), .val (.int ex), .val (.int nr), .val (.int cs), .val (.int hA), .val (.int (0 : Int32)), .val (.int (0 : Int32)), .unset, .unset, .unset, .unset, .unset, .unset, .unset] [] := s197
      |>.icmpY at_210 (cmpT (cd := .lt) (show (1 : Int) < (3 : Int) from by decide)) (by decide) (by decide)
      |>.iconst (0 : Int32) at_222 rfl rfl
      |>.istore #[.val (.int u0), .val (.long u1), .second, .val (.int u3), .val (.int u4), .val (.int u5), .val (.int (1 : Int32)), .val (.int xa), .val (.int xb), .val (.int xc), .val (.int g4), .val (.int rA), .val (.int (0 : Int32)), .val (.int (0 : Int32)), .val (.int rv), .val (.int ex), .val (.int nr), .val (.int cs), .val (.int hA), .val (.int (0 : Int32)), .val (.int (0 : Int32)), .unset, .unset, .unset, .unset, .unset, .unset, .unset] at_223 rfl rfl
    obtain ⟨em, e_em, s199⟩ : ∃ em : Int32, ((em = 1 ∧ hA = 0) ∨ (em = 0 ∧ ¬ (hA = 0))) ∧ Sit p l e room_1 s m #[(.int u0), (.long u1), (.int u3), (.int u4), (.int u5)] below meth c code st n0 0 0 (fun hh => True) 245 #[.val (.int u0), .val (.long u1), .second, .val (.int u3), .val (.int u4), .val (.int u5), .val (.int (1 : Int32)), .val (.int xa), .val (.int xb), .val (.int xc), .val (.int g4), .val (.int rA), .val (.int (0 : Int32)), .val (.int (0 : Int32)), .val (.int rv), .val (.int ex), .val (.int nr), .val (.int cs), .val (.int hA), .val (.int (0 : Int32)), .val (.int (0 : Int32)), .unset, .unset, .unset, .unset, .unset, .unset, .unset] [(.int em)] := by
      have s200 : Sit p l e _ s m _ below meth c _ st n0 0 0 _ 227 #[.val (.int u0), .val (.long u1), .second, .val (.int u3), .val (.int u4), .val (.int u5), .val (.int (1 : Int32)), .val (.int xa), .val (.int xb), .val (.int xc), .val (.int g4), .val (.int rA), .val (.int (0 : Int32)), .val (.int (0 : Int32)), .val (.int rv), .val (.int ex), .val (.int nr), .val (.int cs), .val (.int hA), .val (.int (0 : Int32)), .val (.int (0 : Int32)), .unset, .unset, .unset, .unset, .unset, .unset, .unset] [(.int hA)] := s198
        |>.iload at_225 rfl rfl
      by_cases cy0 : ¬ hA = 0
      · have s201 : Sit p l e _ s m _ below meth c _ st n0 0 0 _ 245 #[.val (.int u0), .val (.long u1), .second, .val (.int u3), .val (.int u4), .val (.int u5), .val (.int (1 : Int32)), .val (.int xa), .val (.int xb), .val (.int xc), .val (.int g4), .val (.int rA), .val (.int (0 : Int32)), .val (.int (0 : Int32)), .val (.int rv), .val (.int ex), .val (.int nr), .val (.int cs), .val (.int hA), .val (.int (0 : Int32)), .val (.int (0 : Int32)), .unset, .unset, .unset, .unset, .unset, .unset, .unset] [(.int (0 : Int32))] := s200
          |>.ifY at_227 (neT cy0) (by decide) (by decide)
          |>.iconst (0 : Int32) at_244 rfl rfl
        exact ⟨0, Or.inr ⟨rfl, fun h => cy0 h⟩, s201⟩
      · have cz0 := Classical.not_not.mp cy0
        have s202 : Sit p l e _ s m _ below meth c _ st n0 0 0 _ 232 #[.val (.int u0), .val (.long u1), .second, .val (.int u3), .val (.int u4), .val (.int u5), .val (.int (1 : Int32)), .val (.int xa), .val (.int xb), .val (.int xc), .val (.int g4), .val (.int rA), .val (.int (0 : Int32)), .val (.int (0 : Int32)), .val (.int rv), .val (.int ex), .val (.int nr), .val (.int cs), .val (.int hA), .val (.int (0 : Int32)), .val (.int (0 : Int32)), .unset, .unset, .unset, .unset, .unset, .unset, .unset] [(.int (0 : Int32))] := s200
          |>.ifN at_227 ((neF (Classical.not_not.mp cy0))) rfl
          |>.iload at_230 rfl rfl
        have s203 : Sit p l e _ s m _ below meth c _ st n0 0 0 _ 237 #[.val (.int u0), .val (.long u1), .second, .val (.int u3), .val (.int u4), .val (.int u5), .val (.int (1 : Int32)), .val (.int xa), .val (.int xb), .val (.int xc), .val (.int g4), .val (.int rA), .val (.int (0 : Int32)), .val (.int (0 : Int32)), .val (.int rv), .val (.int ex), .val (.int nr), .val (.int cs), .val (.int hA), .val (.int (0 : Int32)), .val (.int (0 : Int32)), .unset, .unset, .unset, .unset, .unset, .unset, .unset] [(.int (0 : Int32))] := s202
          |>.ifN at_232 ((neF (Classical.not_not.mp (show ¬ (¬ (0 : Int32) = 0) from by decide)))) rfl
          |>.iload at_235 rfl rfl
        have s204 : Sit p l e _ s m _ below meth c _ st n0 0 0 _ 245 #[.val (.int u0), .val (.long u1), .second, .val (.int u3), .val (.int u4), .val (.int u5), .val (.int (1 : Int32)), .val (.int xa), .val (.int xb), .val (.int xc), .val (.int g4), .val (.int rA), .val (.int (0 : Int32)), .val (.int (0 : Int32)), .val (.int rv), .val (.int ex), .val (.int nr), .val (.int cs), .val (.int hA), .val (.int (0 : Int32)), .val (.int (0 : Int32)), .unset, .unset, .unset, .unset, .unset, .unset, .unset] [(.int (1 : Int32))] := s203
          |>.ifN at_237 ((neF (Classical.not_not.mp (show ¬ (¬ (0 : Int32) = 0) from by decide)))) rfl
          |>.iconst (1 : Int32) at_240 rfl rfl
          |>.goto at_241 (by decide) (by decide)
        exact ⟨1, Or.inl ⟨rfl, cz0⟩, s204⟩
    have s205 : Sit p l e _ s m _ below meth c _ st n0 0 0 _ 250 #[.val (.int u0), .val (.long u1), .second, .val (.int u3), .val (.int u4), .val (.int u5), .val (.int (1 : Int32)), .val (.int xa), .val (.int xb), .val (.int xc), .val (.int g4), .val (.int rA), .val (.int (0 : Int32)), .val (.int (0 : Int32)), .val (.int rv), .val (.int ex), .val (.int nr), .val (.int cs), .val (.int hA), .val (.int (0 : Int32)), .val (.int (0 : Int32)), .val (.int em), .unset, .unset, .unset, .unset, .unset, .unset] [(.int (1 : Int32)), (.int (1 : Int32))] := s199
      |>.istore #[.val (.int u0), .val (.long u1), .second, .val (.int u3), .val (.int u4), .val (.int u5), .val (.int (1 : Int32)), .val (.int xa), .val (.int xb), .val (.int xc), .val (.int g4), .val (.int rA), .val (.int (0 : Int32)), .val (.int (0 : Int32)), .val (.int rv), .val (.int ex), .val (.int nr), .val (.int cs), .val (.int hA), .val (.int (0 : Int32)), .val (.int (0 : Int32)), .val (.int em), .unset, .unset, .unset, .unset, .unset, .unset] at_245 rfl rfl
      |>.iload at_247 rfl rfl
      |>.iconst (1 : Int32) at_249 rfl rfl
    have s206 : Sit p l e _ s m _ below meth c _ st n0 0 0 _ 285 #[.val (.int u0), .val (.long u1), .second, .val (.int u3), .val (.int u4), .val (.int u5), .val (.int (1 : Int32)), .val (.int xa), .val (.int xb), .val (.int xc), .val (.int g4), .val (.int rA), .val (.int (0 : Int32)), .val (.int (0 : Int32)), .val (.int rv), .val (.int ex), .val (.int nr), .val (.int cs), .val (.int hA), .val (.int (0 : Int32)), .val (.int (0 : Int32)), .val (.int em), .val (.int xa), .unset, .unset, .unset, .unset, .unset] [(.int em)] := s205
      |>.icmpN at_250 ((neF (Classical.not_not.mp (show ¬ (¬ (1 : Int32) = (1 : Int32)) from fun h => h rfl)))) rfl
      |>.iload at_253 rfl rfl
      |>.goto at_255 (by decide) (by decide)
      |>.istore #[.val (.int u0), .val (.long u1), .second, .val (.int u3), .val (.int u4), .val (.int u5), .val (.int (1 : Int32)), .val (.int xa), .val (.int xb), .val (.int xc), .val (.int g4), .val (.int rA), .val (.int (0 : Int32)), .val (.int (0 : Int32)), .val (.int rv), .val (.int ex), .val (.int nr), .val (.int cs), .val (.int hA), .val (.int (0 : Int32)), .val (.int (0 : Int32)), .val (.int em), .val (.int xa), .unset, .unset, .unset, .unset, .unset] at_281 rfl rfl
      |>.iload at_283 rfl rfl
    obtain ⟨ee, ⟨ee1, ee2⟩, s207⟩ : ∃ ee : Int32, ((¬ em = 0 → ee = (u5 &&& (1073741823 : Int32))) ∧ (em = 0 → ee = (xa + g4))) ∧ Sit p l e room_1 s m #[(.int u0), (.long u1), (.int u3), (.int u4), (.int u5)] below meth c code st n0 0 0 (fun hh => True) 301 #[.val (.int u0), .val (.long u1), .second, .val (.int u3), .val (.int u4), .val (.int u5), .val (.int (1 : Int32)), .val (.int xa), .val (.int xb), .val (.int xc), .val (.int g4), .val (.int rA), .val (.int (0 : Int32)), .val (.int (0 : Int32)), .val (.int rv), .val (.int ex), .val (.int nr), .val (.int cs), .val (.int hA), .val (.int (0 : Int32)), .val (.int (0 : Int32)), .val (.int em), .val (.int xa), .unset, .unset, .unset, .unset, .unset] [(.int ee)] := by
      by_cases ce : em = 0
      · have s208 : Sit p l e _ s m _ below meth c _ st n0 0 0 _ 301 #[.val (.int u0), .val (.long u1), .second, .val (.int u3), .val (.int u4), .val (.int u5), .val (.int (1 : Int32)), .val (.int xa), .val (.int xb), .val (.int xc), .val (.int g4), .val (.int rA), .val (.int (0 : Int32)), .val (.int (0 : Int32)), .val (.int rv), .val (.int ex), .val (.int nr), .val (.int cs), .val (.int hA), .val (.int (0 : Int32)), .val (.int (0 : Int32)), .val (.int em), .val (.int xa), .unset, .unset, .unset, .unset, .unset] [(.int (xa + g4))] := s206
          |>.ifY at_285 (eqT ce) (by decide) (by decide)
          |>.iload at_296 rfl rfl
          |>.iload at_298 rfl rfl
          |>.iadd at_300 rfl
        exact ⟨_, ⟨fun h => absurd ce h, fun _ => rfl⟩, s208⟩
      · have s209 : Sit p l e _ s m _ below meth c _ st n0 0 0 _ 301 #[.val (.int u0), .val (.long u1), .second, .val (.int u3), .val (.int u4), .val (.int u5), .val (.int (1 : Int32)), .val (.int xa), .val (.int xb), .val (.int xc), .val (.int g4), .val (.int rA), .val (.int (0 : Int32)), .val (.int (0 : Int32)), .val (.int rv), .val (.int ex), .val (.int nr), .val (.int cs), .val (.int hA), .val (.int (0 : Int32)), .val (.int (0 : Int32)), .val (.int em), .val (.int xa), .unset, .unset, .unset, .unset, .unset] [(.int (u5 &&& (1073741823 : Int32)))] := s206
          |>.ifN at_285 (eqF ce) rfl
          |>.iload at_288 rfl rfl
          |>.ldc hZ hown (wi hw 0 rfl) at_290 rfl
          |>.iand at_292 rfl
          |>.goto at_293 (by decide) (by decide)
        exact ⟨_, ⟨fun _ => rfl, fun h => absurd h ce⟩, s209⟩
    have re : 0 ≤ ee.toInt := by
      by_cases h : em = 0
      · rw [ee2 h, add_ti (by omega) (by omega)]; omega
      · rw [ee1 h]; exact (m30 _).1
    have rf : em = 0 → ee.toInt = xa.toInt + g4.toInt := fun h => by rw [ee2 h, add_ti (by omega) (by omega)]
    have s210 : Sit p l e _ s m _ below meth c _ st n0 0 0 _ 303 #[.val (.int u0), .val (.long u1), .second, .val (.int u3), .val (.int u4), .val (.int u5), .val (.int (1 : Int32)), .val (.int xa), .val (.int xb), .val (.int xc), .val (.int g4), .val (.int rA), .val (.int (0 : Int32)), .val (.int (0 : Int32)), .val (.int rv), .val (.int ex), .val (.int nr), .val (.int cs), .val (.int hA), .val (.int (0 : Int32)), .val (.int (0 : Int32)), .val (.int em), .val (.int xa), .val (.int ee), .unset, .unset, .unset, .unset] [] := s207
      |>.istore #[.val (.int u0), .val (.long u1), .second, .val (.int u3), .val (.int u4), .val (.int u5), .val (.int (1 : Int32)), .val (.int xa), .val (.int xb), .val (.int xc), .val (.int g4), .val (.int rA), .val (.int (0 : Int32)), .val (.int (0 : Int32)), .val (.int rv), .val (.int ex), .val (.int nr), .val (.int cs), .val (.int hA), .val (.int (0 : Int32)), .val (.int (0 : Int32)), .val (.int em), .val (.int xa), .val (.int ee), .unset, .unset, .unset, .unset] at_301 rfl rfl
    obtain ⟨o, g_o, s211⟩ := Sit.newo (P' := fun o => fun hh => Exa Z hh o "reenact/trace/IntBits" ∧ Fld Z hh o "reenact/trace/IntBits" "words" "[J" .null ∧ Fld Z hh o "reenact/trace/IntBits" "greatest" "I" (.int (0 : Int32)) ∧ Fld Z hh o "reenact/trace/IntBits" "size" "I" (.int (0 : Int32)) ∧ Fld Z hh o "reenact/trace/IntBits" "base" "I" (.int (0 : Int32)) ∧ Fld Z hh o "reenact/trace/IntBits" "head" "I" (.int (0 : Int32))) s210 hZ hown (wi hw 2 rfl) (wi hw 3 rfl) (wi hw 4 rfl) (by decide) (by decide) (fun hh hh' x q e X D => ⟨D.1, D.2 (Or.inl (wi hw 13 rfl)) (ty := (.array .long)) (by decide), D.2 (Or.inl (wi hw 15 rfl)) (ty := .int) (by decide), D.2 (Or.inl (wi hw 22 rfl)) (ty := .int) (by decide), D.2 (Or.inl (wi hw 24 rfl)) (ty := .int) (by decide), D.2 (Or.inl (wi hw 26 rfl)) (ty := .int) (by decide)⟩) at_303 (pc' := 306) rfl
    have s212 : Sit p l e _ s m _ below meth c _ st n0 1 5 _ 306 #[.val (.int u0), .val (.long u1), .second, .val (.int u3), .val (.int u4), .val (.int u5), .val (.int (1 : Int32)), .val (.int xa), .val (.int xb), .val (.int xc), .val (.int g4), .val (.int rA), .val (.int (0 : Int32)), .val (.int (0 : Int32)), .val (.int rv), .val (.int ex), .val (.int nr), .val (.int cs), .val (.int hA), .val (.int (0 : Int32)), .val (.int (0 : Int32)), .val (.int em), .val (.int xa), .val (.int ee), .unset, .unset, .unset, .unset] [(.ref o)] := s211
    have s213 : Sit p l e _ s m _ below meth c _ st n0 1 5 _ 307 #[.val (.int u0), .val (.long u1), .second, .val (.int u3), .val (.int u4), .val (.int u5), .val (.int (1 : Int32)), .val (.int xa), .val (.int xb), .val (.int xc), .val (.int g4), .val (.int rA), .val (.int (0 : Int32)), .val (.int (0 : Int32)), .val (.int rv), .val (.int ex), .val (.int nr), .val (.int cs), .val (.int hA), .val (.int (0 : Int32)), .val (.int (0 : Int32)), .val (.int em), .val (.int xa), .val (.int ee), .unset, .unset, .unset, .unset] [(.ref o), (.ref o)] := s212
      |>.dup at_306 rfl rfl
    obtain ⟨r215, s214⟩ := Sit.callI (y := (⟨"reenact/trace/IntBits", "<init>", "()V"⟩ : MethodName)) (W := 1) (Q := fun rv_ hh => ∃ v : Addr, (rv_ = none ∧ (n0 ≤ v ∧ @Ne Nat o v)) ∧ (fun hh => Exa Z hh o "reenact/trace/IntBits" ∧ Fld Z hh o "reenact/trace/IntBits" "words" "[J" (.ref v) ∧ Fld Z hh o "reenact/trace/IntBits" "greatest" "I" (.int (-1 : Int32)) ∧ Fld Z hh o "reenact/trace/IntBits" "size" "I" (.int (0 : Int32)) ∧ Fld Z hh o "reenact/trace/IntBits" "base" "I" (.int (0 : Int32)) ∧ Fld Z hh o "reenact/trace/IntBits" "head" "I" (.int (0 : Int32)) ∧ AV Z hh v .long ([0, 0, 0, 0].map Value.long)) hh) [] [(.ref o)] s213 rfl hZ hown (wi hw 5 rfl) (wi hw 6 rfl) (wi hw 7 rfl) (wi hw 4 rfl) (by decide) (fun h1 hP hn => (rmI l Z a0 hw [] o h1 n0 hn g_o hP).mono fun rv_ hh q => by
        obtain ⟨e1, v', e2, e3⟩ := q
        exact ⟨v', ⟨e1, e2⟩, e3⟩) hml rfl (lenOf pd_4 rfl) at_307 (Nat.le_of_eq rfl) (by decide) (by decide) (by decide) (by decide) (pc' := 310) rfl
    obtain ⟨v, s217⟩ := s214.ex
    obtain ⟨_, ⟨er215, spr215⟩, _⟩ := s217.facts
    subst er215
    have s216 : Sit p l e _ s m _ below meth c _ st n0 2 9 (fun hh => Exa Z hh o "reenact/trace/IntBits" ∧ Fld Z hh o "reenact/trace/IntBits" "words" "[J" (.ref v) ∧ Fld Z hh o "reenact/trace/IntBits" "greatest" "I" (.int (-1 : Int32)) ∧ Fld Z hh o "reenact/trace/IntBits" "size" "I" (.int (0 : Int32)) ∧ Fld Z hh o "reenact/trace/IntBits" "base" "I" (.int (0 : Int32)) ∧ Fld Z hh o "reenact/trace/IntBits" "head" "I" (.int (0 : Int32)) ∧ AV Z hh v .long ([0, 0, 0, 0].map Value.long)) 310 #[.val (.int u0), .val (.long u1), .second, .val (.int u3), .val (.int u4), .val (.int u5), .val (.int (1 : Int32)), .val (.int xa), .val (.int xb), .val (.int xc), .val (.int g4), .val (.int rA), .val (.int (0 : Int32)), .val (.int (0 : Int32)), .val (.int rv), .val (.int ex), .val (.int nr), .val (.int cs), .val (.int hA), .val (.int (0 : Int32)), .val (.int (0 : Int32)), .val (.int em), .val (.int xa), .val (.int ee), .unset, .unset, .unset, .unset] [(.ref o)] := s217.mono fun _ q => q.2
    obtain ⟨gv0, ne0⟩ := spr215
    have V0 : Inv [] (0 : Int32).toInt (0 : Int32).toInt (-1 : Int32).toInt [0, 0, 0, 0] := inv0
    have hz0 : (0 : Int32).toInt = (([] : List Int).length : Int) := rfl
    have hl0 : ([0, 0, 0, 0] : List Int64).length ≤ 4 := by decide
    have s218 : Sit p l e _ s m _ below meth c _ st n0 2 9 _ 315 #[.val (.int u0), .val (.long u1), .second, .val (.int u3), .val (.int u4), .val (.int u5), .val (.int (1 : Int32)), .val (.int xa), .val (.int xb), .val (.int xc), .val (.int g4), .val (.int rA), .val (.int (0 : Int32)), .val (.int (0 : Int32)), .val (.int rv), .val (.int ex), .val (.int nr), .val (.int cs), .val (.int hA), .val (.int (0 : Int32)), .val (.int (0 : Int32)), .val (.int em), .val (.int xa), .val (.int ee), .val (.ref o), .unset, .unset, .unset] [(.int (1 : Int32)), (.int (1 : Int32))] := s216
      |>.astore #[.val (.int u0), .val (.long u1), .second, .val (.int u3), .val (.int u4), .val (.int u5), .val (.int (1 : Int32)), .val (.int xa), .val (.int xb), .val (.int xc), .val (.int g4), .val (.int rA), .val (.int (0 : Int32)), .val (.int (0 : Int32)), .val (.int rv), .val (.int ex), .val (.int nr), .val (.int cs), .val (.int hA), .val (.int (0 : Int32)), .val (.int (0 : Int32)), .val (.int em), .val (.int xa), .val (.int ee), .val (.ref o), .unset, .unset, .unset] at_310 rfl rfl
      |>.iload at_312 rfl rfl
      |>.iconst (1 : Int32) at_314 rfl rfl
    have s219 : Sit p l e _ s m _ below meth c _ st n0 2 9 _ 322 #[.val (.int u0), .val (.long u1), .second, .val (.int u3), .val (.int u4), .val (.int u5), .val (.int (1 : Int32)), .val (.int xa), .val (.int xb), .val (.int xc), .val (.int g4), .val (.int rA), .val (.int (0 : Int32)), .val (.int (0 : Int32)), .val (.int rv), .val (.int ex), .val (.int nr), .val (.int cs), .val (.int hA), .val (.int (0 : Int32)), .val (.int (0 : Int32)), .val (.int em), .val (.int xa), .val (.int ee), .val (.ref o), .unset, .unset, .unset] [(.int xa), (.ref o)] := s218
      |>.icmpN at_315 (cmpF (cd := .lt) (show ¬ ((1 : Int) < (1 : Int)) from by decide)) rfl
      |>.aload at_318 rfl rfl
      |>.iload at_320 rfl rfl
    obtain ⟨r222, s221⟩ := Sit.callV (C := "reenact/trace/IntBits") (y := (⟨"reenact/trace/IntBits", "add", "(I)V"⟩ : MethodName)) (W := 0) (Q := fun rv_ hh => ∃ v220 : Addr, ∃ b220 : Int32, ∃ h220 : Int32, ∃ z220 : Int32, ∃ ws220 : List Int64, (rv_ = none ∧ (n0 ≤ v220 ∧ @Ne Nat o v220 ∧ z220.toInt = ((xa.toInt :: []).length : Int) ∧ Inv (xa.toInt :: []) b220.toInt h220.toInt xa.toInt ws220 ∧ ws220.length ≤ 4)) ∧ (fun hh => Exa Z hh o "reenact/trace/IntBits" ∧ Fld Z hh o "reenact/trace/IntBits" "words" "[J" (.ref v220) ∧ Fld Z hh o "reenact/trace/IntBits" "greatest" "I" (.int xa) ∧ Fld Z hh o "reenact/trace/IntBits" "size" "I" (.int z220) ∧ Fld Z hh o "reenact/trace/IntBits" "base" "I" (.int b220) ∧ Fld Z hh o "reenact/trace/IntBits" "head" "I" (.int h220) ∧ AV Z hh v220 .long (ws220.map Value.long)) hh) [(.int xa)] [] s219 hZ hown (wi hw 16 rfl) (wi hw 17 rfl) (wi hw 19 rfl) (wi hw 18 rfl) (wi hw 20 rfl) (wi hw 4 rfl) (by decide) (fun hh q => q.1) (fun h1 hP hn => (rmA l Z a0 hw [] o xa v (0 : Int32) (0 : Int32) (-1 : Int32) (0 : Int32) [0, 0, 0, 0] ([] : List Int) xa.toInt 4 h1 n0 hn g_o gv0 ne0 V0 hz0 (by simp) (show (-1 : Int32).toInt < _ by have e : (-1 : Int32).toInt = -1 := rfl; omega) (by omega) (fun y hy => by simp at hy) (by omega) (by omega) (by decide) hP).mono fun rv_ hh q => by
        obtain ⟨e1, v', b', h', z', ws', e2, e3⟩ := q
        exact ⟨v', b', h', z', ws', ⟨e1, e2⟩, e3⟩) hml rfl (lenOf pd_2 rfl) at_322 (Nat.le_of_eq rfl) (by decide) (by decide) (by decide) (by decide) (pc' := 325) rfl
    obtain ⟨v220, s224⟩ := s221.ex
    obtain ⟨b220, s225⟩ := s224.ex
    obtain ⟨h220, s226⟩ := s225.ex
    obtain ⟨z220, s227⟩ := s226.ex
    obtain ⟨ws220, s228⟩ := s227.ex
    obtain ⟨_, ⟨er222, spr222⟩, _⟩ := s228.facts
    subst er222
    have s223 : Sit p l e _ s m _ below meth c _ st n0 3 13 (fun hh => Exa Z hh o "reenact/trace/IntBits" ∧ Fld Z hh o "reenact/trace/IntBits" "words" "[J" (.ref v220) ∧ Fld Z hh o "reenact/trace/IntBits" "greatest" "I" (.int xa) ∧ Fld Z hh o "reenact/trace/IntBits" "size" "I" (.int z220) ∧ Fld Z hh o "reenact/trace/IntBits" "base" "I" (.int b220) ∧ Fld Z hh o "reenact/trace/IntBits" "head" "I" (.int h220) ∧ AV Z hh v220 .long (ws220.map Value.long)) 325 #[.val (.int u0), .val (.long u1), .second, .val (.int u3), .val (.int u4), .val (.int u5), .val (.int (1 : Int32)), .val (.int xa), .val (.int xb), .val (.int xc), .val (.int g4), .val (.int rA), .val (.int (0 : Int32)), .val (.int (0 : Int32)), .val (.int rv), .val (.int ex), .val (.int nr), .val (.int cs), .val (.int hA), .val (.int (0 : Int32)), .val (.int (0 : Int32)), .val (.int em), .val (.int xa), .val (.int ee), .val (.ref o), .unset, .unset, .unset] [] := s228.mono fun _ q => q.2
    obtain ⟨gv220, ne220, hz220, V220, hl220⟩ := spr222
    have V220 : Inv [xa.toInt] b220.toInt h220.toInt xa.toInt ws220 := V220
    have hz220 : z220.toInt = ([xa.toInt].length : Int) := hz220
    have s229 : Sit p l e _ s m _ below meth c _ st n0 3 13 _ 328 #[.val (.int u0), .val (.long u1), .second, .val (.int u3), .val (.int u4), .val (.int u5), .val (.int (1 : Int32)), .val (.int xa), .val (.int xb), .val (.int xc), .val (.int g4), .val (.int rA), .val (.int (0 : Int32)), .val (.int (0 : Int32)), .val (.int rv), .val (.int ex), .val (.int nr), .val (.int cs), .val (.int hA), .val (.int (0 : Int32)), .val (.int (0 : Int32)), .val (.int em), .val (.int xa), .val (.int ee), .val (.ref o), .unset, .unset, .unset] [(.int (2 : Int32)), (.int (1 : Int32))] := s223
      |>.iload at_325 rfl rfl
      |>.iconst (2 : Int32) at_327 rfl rfl
    have s230 : Sit p l e _ s m _ below meth c _ st n0 3 13 _ 341 #[.val (.int u0), .val (.long u1), .second, .val (.int u3), .val (.int u4), .val (.int u5), .val (.int (1 : Int32)), .val (.int xa), .val (.int xb), .val (.int xc), .val (.int g4), .val (.int rA), .val (.int (0 : Int32)), .val (.int (0 : Int32)), .val (.int rv), .val (.int ex), .val (.int nr), .val (.int cs), .val (.int hA), .val (.int (0 : Int32)), .val (.int (0 : Int32)), .val (.int em), .val (.int xa), .val (.int ee), .val (.ref o), .unset, .unset, .unset] [(.int (3 : Int32)), (.int (1 : Int32))] := s229
      |>.icmpY at_328 (cmpT (cd := .lt) (show (1 : Int) < (2 : Int) from by decide)) (by decide) (by decide)
      |>.iload at_338 rfl rfl
      |>.iconst (3 : Int32) at_340 rfl rfl
    have s231 : Sit p l e _ s m _ below meth c _ st n0 3 13 _ 353 #[.val (.int u0), .val (.long u1), .second, .val (.int u3), .val (.int u4), .val (.int u5), .val (.int (1 : Int32)), .val (.int xa), .val (.int xb), .val (.int xc), .val (.int g4), .val (.int rA), .val (.int (0 : Int32)), .val (.int (0 : Int32)), .val (.int rv), .val (.int ex), .val (.int nr), .val (.int cs), .val (.int hA), .val (.int (0 : Int32)), .val (.int (0 : Int32)), .val (.int em), .val (.int xa), .val (.int ee), .val (.ref o), .unset, .unset, .unset] [(.int rv)] := s230
      |>.icmpY at_341 (cmpT (cd := .lt) (show (1 : Int) < (3 : Int) from by decide)) (by decide) (by decide)
      |>.iload at_351 rfl rfl
    by_cases crv : rv = 0
    · have s232 : Sit p l e _ s m _ below meth c _ st n0 3 13 _ 397 #[.val (.int u0), .val (.long u1), .second, .val (.int u3), .val (.int u4), .val (.int u5), .val (.int (1 : Int32)), .val (.int xa), .val (.int xb), .val (.int xc), .val (.int g4), .val (.int rA), .val (.int (0 : Int32)), .val (.int (0 : Int32)), .val (.int rv), .val (.int ex), .val (.int nr), .val (.int cs), .val (.int hA), .val (.int (0 : Int32)), .val (.int (0 : Int32)), .val (.int em), .val (.int xa), .val (.int ee), .val (.ref o), .unset, .unset, .unset] [(.int rA)] := s231
        |>.ifY at_353 (eqT crv) (by decide) (by decide)
        |>.iload at_395 rfl rfl
      by_cases k_xa : rA = 0
      · have s233 : Sit p l e _ s m _ below meth c _ st n0 3 13 _ 409 #[.val (.int u0), .val (.long u1), .second, .val (.int u3), .val (.int u4), .val (.int u5), .val (.int (1 : Int32)), .val (.int xa), .val (.int xb), .val (.int xc), .val (.int g4), .val (.int rA), .val (.int (0 : Int32)), .val (.int (0 : Int32)), .val (.int rv), .val (.int ex), .val (.int nr), .val (.int cs), .val (.int hA), .val (.int (0 : Int32)), .val (.int (0 : Int32)), .val (.int em), .val (.int xa), .val (.int ee), .val (.ref o), .unset, .unset, .unset] [(.int (0 : Int32))] := s232
          |>.ifY at_397 (eqT k_xa) (by decide) (by decide)
          |>.iload at_407 rfl rfl
        have s234 : Sit p l e _ s m _ below meth c _ st n0 3 13 _ 421 #[.val (.int u0), .val (.long u1), .second, .val (.int u3), .val (.int u4), .val (.int u5), .val (.int (1 : Int32)), .val (.int xa), .val (.int xb), .val (.int xc), .val (.int g4), .val (.int rA), .val (.int (0 : Int32)), .val (.int (0 : Int32)), .val (.int rv), .val (.int ex), .val (.int nr), .val (.int cs), .val (.int hA), .val (.int (0 : Int32)), .val (.int (0 : Int32)), .val (.int em), .val (.int xa), .val (.int ee), .val (.ref o), .unset, .unset, .unset] [(.int (0 : Int32))] := s233
          |>.ifY at_409 (eqT (show (0 : Int32) = 0 from by decide)) (by decide) (by decide)
          |>.iload at_419 rfl rfl
        have s235 : Sit p l e _ s m _ below meth c _ st n0 3 13 _ 431 #[.val (.int u0), .val (.long u1), .second, .val (.int u3), .val (.int u4), .val (.int u5), .val (.int (1 : Int32)), .val (.int xa), .val (.int xb), .val (.int xc), .val (.int g4), .val (.int rA), .val (.int (0 : Int32)), .val (.int (0 : Int32)), .val (.int rv), .val (.int ex), .val (.int nr), .val (.int cs), .val (.int hA), .val (.int (0 : Int32)), .val (.int (0 : Int32)), .val (.int em), .val (.int xa), .val (.int ee), .val (.ref o), .unset, .unset, .unset] [] := s234
          |>.ifY at_421 (eqT (show (0 : Int32) = 0 from by decide)) (by decide) (by decide)
        have kx : hA = 1 := e_hA.elim (fun h => h.1) (fun h => absurd k_xa h.2)
        have ekk : em = 0 := e_em.elim (fun h => absurd (kx.symm.trans h.2) (by decide)) (fun h => h.1)
        have khA : hA = 1 := e_hA.elim (fun h => h.1) (fun h => absurd k_xa h.2)
        have hgt : xa.toInt < ee.toInt := by
          have := rf ekk; omega
        have mem0 : ∀ y : Int32, y.toInt ∈ [xa.toInt] ↔ ((¬ hA = 0 ∧ y = xa) ∨ (¬ (0 : Int32) = 0 ∧ y = xb) ∨ (¬ (0 : Int32) = 0 ∧ y = xc)) := fun y => by
          have d1 : ¬ (1 : Int32) = 0 := by decide
          rw [khA]
          simp only [List.mem_cons, List.not_mem_nil, or_false, false_or, Int32.toInt_inj, d1, not_true_eq_false, not_false_eq_true, true_and, false_and]
        exact tail (1 : Int32) rA (0 : Int32) (0 : Int32) rv ex nr cs hA (0 : Int32) (0 : Int32) em xa ee o v220 b220 h220 xa z220 ws220 [xa.toInt] g_o gv220 ne220 V220 hz220 (by simp only [List.length_cons, List.length_nil]; omega) (by omega) mem0 (fun y hy => by simp at hy; omega) e_ex hgt re (Or.inr (by have := rf ekk; omega)) (s235.bound (cells' := 12) (slots' := 560) (by decide) (by decide))
      · have s236 : Sit p l e _ s m _ below meth c _ st n0 3 13 _ 404 #[.val (.int u0), .val (.long u1), .second, .val (.int u3), .val (.int u4), .val (.int u5), .val (.int (1 : Int32)), .val (.int xa), .val (.int xb), .val (.int xc), .val (.int g4), .val (.int rA), .val (.int (0 : Int32)), .val (.int (0 : Int32)), .val (.int rv), .val (.int ex), .val (.int nr), .val (.int cs), .val (.int hA), .val (.int (0 : Int32)), .val (.int (0 : Int32)), .val (.int em), .val (.int xa), .val (.int ee), .val (.ref o), .unset, .unset, .unset] [(.int xa), (.ref o)] := s232
          |>.ifN at_397 (eqF k_xa) rfl
          |>.aload at_400 rfl rfl
          |>.iload at_402 rfl rfl
        have er237 : [xa.toInt].erase xa.toInt = [] := by rw [er_hd]
        obtain ⟨r239, s238⟩ := Sit.callV (C := "reenact/trace/IntBits") (y := (⟨"reenact/trace/IntBits", "remove", "(I)V"⟩ : MethodName)) (W := 0) (Q := fun rv_ hh => ∃ v237 : Addr, ∃ b237 : Int32, ∃ h237 : Int32, ∃ g237 : Int32, ∃ z237 : Int32, ∃ ws237 : List Int64, (rv_ = none ∧ (n0 ≤ v237 ∧ @Ne Nat o v237 ∧ z237.toInt = (([] : List Int).length : Int) ∧ Inv [] b237.toInt h237.toInt g237.toInt ws237 ∧ (ws237.length ≤ ws220.length ∨ ws237.length ≤ 4) ∧ (([] : List Int) ≠ [] → g237 = xa))) ∧ (fun hh => Exa Z hh o "reenact/trace/IntBits" ∧ Fld Z hh o "reenact/trace/IntBits" "words" "[J" (.ref v237) ∧ Fld Z hh o "reenact/trace/IntBits" "greatest" "I" (.int g237) ∧ Fld Z hh o "reenact/trace/IntBits" "size" "I" (.int z237) ∧ Fld Z hh o "reenact/trace/IntBits" "base" "I" (.int b237) ∧ Fld Z hh o "reenact/trace/IntBits" "head" "I" (.int h237) ∧ AV Z hh v237 .long (ws237.map Value.long)) hh) [(.int xa)] [] s236 hZ hown (wi hw 32 rfl) (wi hw 33 rfl) (wi hw 35 rfl) (wi hw 34 rfl) (wi hw 36 rfl) (wi hw 4 rfl) (by decide) (fun hh q => q.1) (fun h1 hP hn => (rmR l Z a0 hw [] o xa v220 b220 h220 xa z220 ws220 [xa.toInt] 4 h1 n0 hn g_o gv220 ne220 V220 hz220 (by simp) (by simp) (by rw [er237]; exact Or.inr ⟨by decide, fun y hy => by simp at hy⟩) (by omega) (by decide) hP).mono fun rv_ hh q => by
            rw [er237] at q
            obtain ⟨e1, v', b', h', g', z', ws', e2, e3⟩ := q
            exact ⟨v', b', h', g', z', ws', ⟨e1, e2⟩, e3⟩) hml rfl (lenOf pd_2 rfl) at_404 (Nat.le_of_eq rfl) (by decide) (by decide) (by decide) (by decide) (pc' := 407) rfl
        obtain ⟨v237, s241⟩ := s238.ex
        obtain ⟨b237, s242⟩ := s241.ex
        obtain ⟨h237, s243⟩ := s242.ex
        obtain ⟨g237, s244⟩ := s243.ex
        obtain ⟨z237, s245⟩ := s244.ex
        obtain ⟨ws237, s246⟩ := s245.ex
        obtain ⟨_, ⟨er239, spr239⟩, _⟩ := s246.facts
        subst er239
        have s240 : Sit p l e _ s m _ below meth c _ st n0 4 17 (fun hh => Exa Z hh o "reenact/trace/IntBits" ∧ Fld Z hh o "reenact/trace/IntBits" "words" "[J" (.ref v237) ∧ Fld Z hh o "reenact/trace/IntBits" "greatest" "I" (.int g237) ∧ Fld Z hh o "reenact/trace/IntBits" "size" "I" (.int z237) ∧ Fld Z hh o "reenact/trace/IntBits" "base" "I" (.int b237) ∧ Fld Z hh o "reenact/trace/IntBits" "head" "I" (.int h237) ∧ AV Z hh v237 .long (ws237.map Value.long)) 407 #[.val (.int u0), .val (.long u1), .second, .val (.int u3), .val (.int u4), .val (.int u5), .val (.int (1 : Int32)), .val (.int xa), .val (.int xb), .val (.int xc), .val (.int g4), .val (.int rA), .val (.int (0 : Int32)), .val (.int (0 : Int32)), .val (.int rv), .val (.int ex), .val (.int nr), .val (.int cs), .val (.int hA), .val (.int (0 : Int32)), .val (.int (0 : Int32)), .val (.int em), .val (.int xa), .val (.int ee), .val (.ref o), .unset, .unset, .unset] [] := s246.mono fun _ q => q.2
        obtain ⟨gv237, ne237, hz237, V237, hl237, hg237⟩ := spr239
        have s247 : Sit p l e _ s m _ below meth c _ st n0 4 17 _ 409 #[.val (.int u0), .val (.long u1), .second, .val (.int u3), .val (.int u4), .val (.int u5), .val (.int (1 : Int32)), .val (.int xa), .val (.int xb), .val (.int xc), .val (.int g4), .val (.int rA), .val (.int (0 : Int32)), .val (.int (0 : Int32)), .val (.int rv), .val (.int ex), .val (.int nr), .val (.int cs), .val (.int hA), .val (.int (0 : Int32)), .val (.int (0 : Int32)), .val (.int em), .val (.int xa), .val (.int ee), .val (.ref o), .unset, .unset, .unset] [(.int (0 : Int32))] := s240
          |>.iload at_407 rfl rfl
        have s248 : Sit p l e _ s m _ below meth c _ st n0 4 17 _ 421 #[.val (.int u0), .val (.long u1), .second, .val (.int u3), .val (.int u4), .val (.int u5), .val (.int (1 : Int32)), .val (.int xa), .val (.int xb), .val (.int xc), .val (.int g4), .val (.int rA), .val (.int (0 : Int32)), .val (.int (0 : Int32)), .val (.int rv), .val (.int ex), .val (.int nr), .val (.int cs), .val (.int hA), .val (.int (0 : Int32)), .val (.int (0 : Int32)), .val (.int em), .val (.int xa), .val (.int ee), .val (.ref o), .unset, .unset, .unset] [(.int (0 : Int32))] := s247
          |>.ifY at_409 (eqT (show (0 : Int32) = 0 from by decide)) (by decide) (by decide)
          |>.iload at_419 rfl rfl
        have s249 : Sit p l e _ s m _ below meth c _ st n0 4 17 _ 431 #[.val (.int u0), .val (.long u1), .second, .val (.int u3), .val (.int u4), .val (.int u5), .val (.int (1 : Int32)), .val (.int xa), .val (.int xb), .val (.int xc), .val (.int g4), .val (.int rA), .val (.int (0 : Int32)), .val (.int (0 : Int32)), .val (.int rv), .val (.int ex), .val (.int nr), .val (.int cs), .val (.int hA), .val (.int (0 : Int32)), .val (.int (0 : Int32)), .val (.int em), .val (.int xa), .val (.int ee), .val (.ref o), .unset, .unset, .unset] [] := s248
          |>.ifY at_421 (eqT (show (0 : Int32) = 0 from by decide)) (by decide) (by decide)
        have khA : hA = 0 := e_hA.elim (fun h => absurd h.2 k_xa) (fun h => h.1)
        have hgt : g237.toInt < ee.toInt := by
          have e := (V237).2.2.2.2.2.2.1 rfl; omega
        have mem0 : ∀ y : Int32, y.toInt ∈ ([] : List Int) ↔ ((¬ hA = 0 ∧ y = xa) ∨ (¬ (0 : Int32) = 0 ∧ y = xb) ∨ (¬ (0 : Int32) = 0 ∧ y = xc)) := fun y => by
          have d1 : ¬ (1 : Int32) = 0 := by decide
          rw [khA]
          simp only [List.mem_cons, List.not_mem_nil, or_false, false_or, Int32.toInt_inj, d1, not_true_eq_false, not_false_eq_true, true_and, false_and]
        exact tail (1 : Int32) rA (0 : Int32) (0 : Int32) rv ex nr cs hA (0 : Int32) (0 : Int32) em xa ee o v237 b237 h237 g237 z237 ws237 ([] : List Int) g_o gv237 ne237 V237 hz237 (by simp only [List.length_cons, List.length_nil]; omega) (by omega) mem0 (fun y hy => by simp at hy) e_ex hgt re (Or.inl rfl) (s249.bound (cells' := 12) (slots' := 560) (by decide) (by decide))
    · have s250 : Sit p l e _ s m _ below meth c _ st n0 3 13 _ 358 #[.val (.int u0), .val (.long u1), .second, .val (.int u3), .val (.int u4), .val (.int u5), .val (.int (1 : Int32)), .val (.int xa), .val (.int xb), .val (.int xc), .val (.int g4), .val (.int rA), .val (.int (0 : Int32)), .val (.int (0 : Int32)), .val (.int rv), .val (.int ex), .val (.int nr), .val (.int cs), .val (.int hA), .val (.int (0 : Int32)), .val (.int (0 : Int32)), .val (.int em), .val (.int xa), .val (.int ee), .val (.ref o), .unset, .unset, .unset] [(.int (0 : Int32))] := s231
        |>.ifN at_353 (eqF crv) rfl
        |>.iload at_356 rfl rfl
      have s251 : Sit p l e _ s m _ below meth c _ st n0 3 13 _ 370 #[.val (.int u0), .val (.long u1), .second, .val (.int u3), .val (.int u4), .val (.int u5), .val (.int (1 : Int32)), .val (.int xa), .val (.int xb), .val (.int xc), .val (.int g4), .val (.int rA), .val (.int (0 : Int32)), .val (.int (0 : Int32)), .val (.int rv), .val (.int ex), .val (.int nr), .val (.int cs), .val (.int hA), .val (.int (0 : Int32)), .val (.int (0 : Int32)), .val (.int em), .val (.int xa), .val (.int ee), .val (.ref o), .unset, .unset, .unset] [(.int (0 : Int32))] := s250
        |>.ifY at_358 (eqT (show (0 : Int32) = 0 from by decide)) (by decide) (by decide)
        |>.iload at_368 rfl rfl
      have s252 : Sit p l e _ s m _ below meth c _ st n0 3 13 _ 382 #[.val (.int u0), .val (.long u1), .second, .val (.int u3), .val (.int u4), .val (.int u5), .val (.int (1 : Int32)), .val (.int xa), .val (.int xb), .val (.int xc), .val (.int g4), .val (.int rA), .val (.int (0 : Int32)), .val (.int (0 : Int32)), .val (.int rv), .val (.int ex), .val (.int nr), .val (.int cs), .val (.int hA), .val (.int (0 : Int32)), .val (.int (0 : Int32)), .val (.int em), .val (.int xa), .val (.int ee), .val (.ref o), .unset, .unset, .unset] [(.int rA)] := s251
        |>.ifY at_370 (eqT (show (0 : Int32) = 0 from by decide)) (by decide) (by decide)
        |>.iload at_380 rfl rfl
      by_cases k_xa : rA = 0
      · have s253 : Sit p l e _ s m _ below meth c _ st n0 3 13 _ 431 #[.val (.int u0), .val (.long u1), .second, .val (.int u3), .val (.int u4), .val (.int u5), .val (.int (1 : Int32)), .val (.int xa), .val (.int xb), .val (.int xc), .val (.int g4), .val (.int rA), .val (.int (0 : Int32)), .val (.int (0 : Int32)), .val (.int rv), .val (.int ex), .val (.int nr), .val (.int cs), .val (.int hA), .val (.int (0 : Int32)), .val (.int (0 : Int32)), .val (.int em), .val (.int xa), .val (.int ee), .val (.ref o), .unset, .unset, .unset] [] := s252
          |>.ifY at_382 (eqT k_xa) (by decide) (by decide)
        have kx : hA = 1 := e_hA.elim (fun h => h.1) (fun h => absurd k_xa h.2)
        have ekk : em = 0 := e_em.elim (fun h => absurd (kx.symm.trans h.2) (by decide)) (fun h => h.1)
        have khA : hA = 1 := e_hA.elim (fun h => h.1) (fun h => absurd k_xa h.2)
        have hgt : xa.toInt < ee.toInt := by
          have := rf ekk; omega
        have mem0 : ∀ y : Int32, y.toInt ∈ [xa.toInt] ↔ ((¬ hA = 0 ∧ y = xa) ∨ (¬ (0 : Int32) = 0 ∧ y = xb) ∨ (¬ (0 : Int32) = 0 ∧ y = xc)) := fun y => by
          have d1 : ¬ (1 : Int32) = 0 := by decide
          rw [khA]
          simp only [List.mem_cons, List.not_mem_nil, or_false, false_or, Int32.toInt_inj, d1, not_true_eq_false, not_false_eq_true, true_and, false_and]
        exact tail (1 : Int32) rA (0 : Int32) (0 : Int32) rv ex nr cs hA (0 : Int32) (0 : Int32) em xa ee o v220 b220 h220 xa z220 ws220 [xa.toInt] g_o gv220 ne220 V220 hz220 (by simp only [List.length_cons, List.length_nil]; omega) (by omega) mem0 (fun y hy => by simp at hy; omega) e_ex hgt re (Or.inr (by have := rf ekk; omega)) (s253.bound (cells' := 12) (slots' := 560) (by decide) (by decide))
      · have s254 : Sit p l e _ s m _ below meth c _ st n0 3 13 _ 389 #[.val (.int u0), .val (.long u1), .second, .val (.int u3), .val (.int u4), .val (.int u5), .val (.int (1 : Int32)), .val (.int xa), .val (.int xb), .val (.int xc), .val (.int g4), .val (.int rA), .val (.int (0 : Int32)), .val (.int (0 : Int32)), .val (.int rv), .val (.int ex), .val (.int nr), .val (.int cs), .val (.int hA), .val (.int (0 : Int32)), .val (.int (0 : Int32)), .val (.int em), .val (.int xa), .val (.int ee), .val (.ref o), .unset, .unset, .unset] [(.int xa), (.ref o)] := s252
          |>.ifN at_382 (eqF k_xa) rfl
          |>.aload at_385 rfl rfl
          |>.iload at_387 rfl rfl
        have er255 : [xa.toInt].erase xa.toInt = [] := by rw [er_hd]
        obtain ⟨r257, s256⟩ := Sit.callV (C := "reenact/trace/IntBits") (y := (⟨"reenact/trace/IntBits", "remove", "(I)V"⟩ : MethodName)) (W := 0) (Q := fun rv_ hh => ∃ v255 : Addr, ∃ b255 : Int32, ∃ h255 : Int32, ∃ g255 : Int32, ∃ z255 : Int32, ∃ ws255 : List Int64, (rv_ = none ∧ (n0 ≤ v255 ∧ @Ne Nat o v255 ∧ z255.toInt = (([] : List Int).length : Int) ∧ Inv [] b255.toInt h255.toInt g255.toInt ws255 ∧ (ws255.length ≤ ws220.length ∨ ws255.length ≤ 4) ∧ (([] : List Int) ≠ [] → g255 = xa))) ∧ (fun hh => Exa Z hh o "reenact/trace/IntBits" ∧ Fld Z hh o "reenact/trace/IntBits" "words" "[J" (.ref v255) ∧ Fld Z hh o "reenact/trace/IntBits" "greatest" "I" (.int g255) ∧ Fld Z hh o "reenact/trace/IntBits" "size" "I" (.int z255) ∧ Fld Z hh o "reenact/trace/IntBits" "base" "I" (.int b255) ∧ Fld Z hh o "reenact/trace/IntBits" "head" "I" (.int h255) ∧ AV Z hh v255 .long (ws255.map Value.long)) hh) [(.int xa)] [] s254 hZ hown (wi hw 32 rfl) (wi hw 33 rfl) (wi hw 35 rfl) (wi hw 34 rfl) (wi hw 36 rfl) (wi hw 4 rfl) (by decide) (fun hh q => q.1) (fun h1 hP hn => (rmR l Z a0 hw [] o xa v220 b220 h220 xa z220 ws220 [xa.toInt] 4 h1 n0 hn g_o gv220 ne220 V220 hz220 (by simp) (by simp) (by rw [er255]; exact Or.inr ⟨by decide, fun y hy => by simp at hy⟩) (by omega) (by decide) hP).mono fun rv_ hh q => by
            rw [er255] at q
            obtain ⟨e1, v', b', h', g', z', ws', e2, e3⟩ := q
            exact ⟨v', b', h', g', z', ws', ⟨e1, e2⟩, e3⟩) hml rfl (lenOf pd_2 rfl) at_389 (Nat.le_of_eq rfl) (by decide) (by decide) (by decide) (by decide) (pc' := 392) rfl
        obtain ⟨v255, s259⟩ := s256.ex
        obtain ⟨b255, s260⟩ := s259.ex
        obtain ⟨h255, s261⟩ := s260.ex
        obtain ⟨g255, s262⟩ := s261.ex
        obtain ⟨z255, s263⟩ := s262.ex
        obtain ⟨ws255, s264⟩ := s263.ex
        obtain ⟨_, ⟨er257, spr257⟩, _⟩ := s264.facts
        subst er257
        have s258 : Sit p l e _ s m _ below meth c _ st n0 4 17 (fun hh => Exa Z hh o "reenact/trace/IntBits" ∧ Fld Z hh o "reenact/trace/IntBits" "words" "[J" (.ref v255) ∧ Fld Z hh o "reenact/trace/IntBits" "greatest" "I" (.int g255) ∧ Fld Z hh o "reenact/trace/IntBits" "size" "I" (.int z255) ∧ Fld Z hh o "reenact/trace/IntBits" "base" "I" (.int b255) ∧ Fld Z hh o "reenact/trace/IntBits" "head" "I" (.int h255) ∧ AV Z hh v255 .long (ws255.map Value.long)) 392 #[.val (.int u0), .val (.long u1), .second, .val (.int u3), .val (.int u4), .val (.int u5), .val (.int (1 : Int32)), .val (.int xa), .val (.int xb), .val (.int xc), .val (.int g4), .val (.int rA), .val (.int (0 : Int32)), .val (.int (0 : Int32)), .val (.int rv), .val (.int ex), .val (.int nr), .val (.int cs), .val (.int hA), .val (.int (0 : Int32)), .val (.int (0 : Int32)), .val (.int em), .val (.int xa), .val (.int ee), .val (.ref o), .unset, .unset, .unset] [] := s264.mono fun _ q => q.2
        obtain ⟨gv255, ne255, hz255, V255, hl255, hg255⟩ := spr257
        have s265 : Sit p l e _ s m _ below meth c _ st n0 4 17 _ 431 #[.val (.int u0), .val (.long u1), .second, .val (.int u3), .val (.int u4), .val (.int u5), .val (.int (1 : Int32)), .val (.int xa), .val (.int xb), .val (.int xc), .val (.int g4), .val (.int rA), .val (.int (0 : Int32)), .val (.int (0 : Int32)), .val (.int rv), .val (.int ex), .val (.int nr), .val (.int cs), .val (.int hA), .val (.int (0 : Int32)), .val (.int (0 : Int32)), .val (.int em), .val (.int xa), .val (.int ee), .val (.ref o), .unset, .unset, .unset] [] := s258
          |>.goto at_392 (by decide) (by decide)
        have khA : hA = 0 := e_hA.elim (fun h => absurd h.2 k_xa) (fun h => h.1)
        have hgt : g255.toInt < ee.toInt := by
          have e := (V255).2.2.2.2.2.2.1 rfl; omega
        have mem0 : ∀ y : Int32, y.toInt ∈ ([] : List Int) ↔ ((¬ hA = 0 ∧ y = xa) ∨ (¬ (0 : Int32) = 0 ∧ y = xb) ∨ (¬ (0 : Int32) = 0 ∧ y = xc)) := fun y => by
          have d1 : ¬ (1 : Int32) = 0 := by decide
          rw [khA]
          simp only [List.mem_cons, List.not_mem_nil, or_false, false_or, Int32.toInt_inj, d1, not_true_eq_false, not_false_eq_true, true_and, false_and]
        exact tail (1 : Int32) rA (0 : Int32) (0 : Int32) rv ex nr cs hA (0 : Int32) (0 : Int32) em xa ee o v255 b255 h255 g255 z255 ws255 ([] : List Int) g_o gv255 ne255 V255 hz255 (by simp only [List.length_cons, List.length_nil]; omega) (by omega) mem0 (fun y hy => by simp at hy) e_ex hgt re (Or.inl rfl) (s265.bound (cells' := 12) (slots' := 560) (by decide) (by decide))
  · have s266 : Sit p l e _ s m _ below meth c _ st n0 0 0 (fun hh => True) 51 #[.val (.int u0), .val (.long u1), .second, .val (.int u3), .val (.int u4), .val (.int u5), .val (.int (2 : Int32)), .val (.int xa), .val (.int xb), .val (.int xc), .unset, .unset, .unset, .unset, .unset, .unset, .unset, .unset, .unset, .unset, .unset, .unset, .unset, .unset, .unset, .unset, .unset, .unset] [(.int g4)] := s11
    have s267 : Sit p l e _ s m _ below meth c _ st n0 0 0 _ 56 #[.val (.int u0), .val (.long u1), .second, .val (.int u3), .val (.int u4), .val (.int u5), .val (.int (2 : Int32)), .val (.int xa), .val (.int xb), .val (.int xc), .val (.int g4), .unset, .unset, .unset, .unset, .unset, .unset, .unset, .unset, .unset, .unset, .unset, .unset, .unset, .unset, .unset, .unset, .unset] [(.int (1 : Int32)), (.int (2 : Int32))] := s266
      |>.istore #[.val (.int u0), .val (.long u1), .second, .val (.int u3), .val (.int u4), .val (.int u5), .val (.int (2 : Int32)), .val (.int xa), .val (.int xb), .val (.int xc), .val (.int g4), .unset, .unset, .unset, .unset, .unset, .unset, .unset, .unset, .unset, .unset, .unset, .unset, .unset, .unset, .unset, .unset, .unset] at_51 rfl rfl
      |>.iload at_53 rfl rfl
      |>.iconst (1 : Int32) at_55 rfl rfl
    have s268 : Sit p l e _ s m _ below meth c _ st n0 0 0 _ 64 #[.val (.int u0), .val (.long u1), .second, .val (.int u3), .val (.int u4), .val (.int u5), .val (.int (2 : Int32)), .val (.int xa), .val (.int xb), .val (.int xc), .val (.int g4), .unset, .unset, .unset, .unset, .unset, .unset, .unset, .unset, .unset, .unset, .unset, .unset, .unset, .unset, .unset, .unset, .unset] [(.int ((ushr32 u3 (2 : Int32)) &&& (1 : Int32)))] := s267
      |>.icmpN at_56 (cmpF (cd := .lt) (show ¬ ((2 : Int) < (1 : Int)) from by decide)) rfl
      |>.iloadN at_59 rfl rfl
      |>.iconst (2 : Int32) at_60 rfl rfl
      |>.iushr at_61 rfl
      |>.iconst (1 : Int32) at_62 rfl rfl
      |>.iand at_63 rfl
    obtain ⟨rA, e_rA, s272⟩ : ∃ rA : Int32, (rA = 0 ∨ rA = 1) ∧ Sit p l e room_1 s m #[(.int u0), (.long u1), (.int u3), (.int u4), (.int u5)] below meth c code st n0 0 0 (fun hh => True) 72 #[.val (.int u0), .val (.long u1), .second, .val (.int u3), .val (.int u4), .val (.int u5), .val (.int (2 : Int32)), .val (.int xa), .val (.int xb), .val (.int xc), .val (.int g4), .unset, .unset, .unset, .unset, .unset, .unset, .unset, .unset, .unset, .unset, .unset, .unset, .unset, .unset, .unset, .unset, .unset] [(.int rA)] := by
      by_cases cnd269 : ((ushr32 u3 (2 : Int32)) &&& (1 : Int32)) = 0
      · have s270 : Sit p l e _ s m _ below meth c _ st n0 0 0 _ 72 #[.val (.int u0), .val (.long u1), .second, .val (.int u3), .val (.int u4), .val (.int u5), .val (.int (2 : Int32)), .val (.int xa), .val (.int xb), .val (.int xc), .val (.int g4), .unset, .unset, .unset, .unset, .unset, .unset, .unset, .unset, .unset, .unset, .unset, .unset, .unset, .unset, .unset, .unset, .unset] [(.int (0 : Int32))] := s268
          |>.ifY at_64 (eqT cnd269) (by decide) (by decide)
          |>.iconst (0 : Int32) at_71 rfl rfl
        exact ⟨(0 : Int32), Or.inl rfl, s270⟩
      · have s271 : Sit p l e _ s m _ below meth c _ st n0 0 0 _ 72 #[.val (.int u0), .val (.long u1), .second, .val (.int u3), .val (.int u4), .val (.int u5), .val (.int (2 : Int32)), .val (.int xa), .val (.int xb), .val (.int xc), .val (.int g4), .unset, .unset, .unset, .unset, .unset, .unset, .unset, .unset, .unset, .unset, .unset, .unset, .unset, .unset, .unset, .unset, .unset] [(.int (1 : Int32))] := s268
          |>.ifN at_64 (eqF cnd269) rfl
          |>.iconst (1 : Int32) at_67 rfl rfl
          |>.goto at_68 (by decide) (by decide)
        exact ⟨(1 : Int32), Or.inr rfl, s271⟩
    have s273 : Sit p l e _ s m _ below meth c _ st n0 0 0 _ 77 #[.val (.int u0), .val (.long u1), .second, .val (.int u3), .val (.int u4), .val (.int u5), .val (.int (2 : Int32)), .val (.int xa), .val (.int xb), .val (.int xc), .val (.int g4), .val (.int rA), .unset, .unset, .unset, .unset, .unset, .unset, .unset, .unset, .unset, .unset, .unset, .unset, .unset, .unset, .unset, .unset] [(.int (2 : Int32)), (.int (2 : Int32))] := s272
      |>.istore #[.val (.int u0), .val (.long u1), .second, .val (.int u3), .val (.int u4), .val (.int u5), .val (.int (2 : Int32)), .val (.int xa), .val (.int xb), .val (.int xc), .val (.int g4), .val (.int rA), .unset, .unset, .unset, .unset, .unset, .unset, .unset, .unset, .unset, .unset, .unset, .unset, .unset, .unset, .unset, .unset] at_72 rfl rfl
      |>.iload at_74 rfl rfl
      |>.iconst (2 : Int32) at_76 rfl rfl
    have s274 : Sit p l e _ s m _ below meth c _ st n0 0 0 _ 85 #[.val (.int u0), .val (.long u1), .second, .val (.int u3), .val (.int u4), .val (.int u5), .val (.int (2 : Int32)), .val (.int xa), .val (.int xb), .val (.int xc), .val (.int g4), .val (.int rA), .unset, .unset, .unset, .unset, .unset, .unset, .unset, .unset, .unset, .unset, .unset, .unset, .unset, .unset, .unset, .unset] [(.int ((ushr32 u3 (3 : Int32)) &&& (1 : Int32)))] := s273
      |>.icmpN at_77 (cmpF (cd := .lt) (show ¬ ((2 : Int) < (2 : Int)) from by decide)) rfl
      |>.iloadN at_80 rfl rfl
      |>.iconst (3 : Int32) at_81 rfl rfl
      |>.iushr at_82 rfl
      |>.iconst (1 : Int32) at_83 rfl rfl
      |>.iand at_84 rfl
    obtain ⟨rB, e_rB, s278⟩ : ∃ rB : Int32, (rB = 0 ∨ rB = 1) ∧ Sit p l e room_1 s m #[(.int u0), (.long u1), (.int u3), (.int u4), (.int u5)] below meth c code st n0 0 0 (fun hh => True) 93 #[.val (.int u0), .val (.long u1), .second, .val (.int u3), .val (.int u4), .val (.int u5), .val (.int (2 : Int32)), .val (.int xa), .val (.int xb), .val (.int xc), .val (.int g4), .val (.int rA), .unset, .unset, .unset, .unset, .unset, .unset, .unset, .unset, .unset, .unset, .unset, .unset, .unset, .unset, .unset, .unset] [(.int rB)] := by
      by_cases cnd275 : ((ushr32 u3 (3 : Int32)) &&& (1 : Int32)) = 0
      · have s276 : Sit p l e _ s m _ below meth c _ st n0 0 0 _ 93 #[.val (.int u0), .val (.long u1), .second, .val (.int u3), .val (.int u4), .val (.int u5), .val (.int (2 : Int32)), .val (.int xa), .val (.int xb), .val (.int xc), .val (.int g4), .val (.int rA), .unset, .unset, .unset, .unset, .unset, .unset, .unset, .unset, .unset, .unset, .unset, .unset, .unset, .unset, .unset, .unset] [(.int (0 : Int32))] := s274
          |>.ifY at_85 (eqT cnd275) (by decide) (by decide)
          |>.iconst (0 : Int32) at_92 rfl rfl
        exact ⟨(0 : Int32), Or.inl rfl, s276⟩
      · have s277 : Sit p l e _ s m _ below meth c _ st n0 0 0 _ 93 #[.val (.int u0), .val (.long u1), .second, .val (.int u3), .val (.int u4), .val (.int u5), .val (.int (2 : Int32)), .val (.int xa), .val (.int xb), .val (.int xc), .val (.int g4), .val (.int rA), .unset, .unset, .unset, .unset, .unset, .unset, .unset, .unset, .unset, .unset, .unset, .unset, .unset, .unset, .unset, .unset] [(.int (1 : Int32))] := s274
          |>.ifN at_85 (eqF cnd275) rfl
          |>.iconst (1 : Int32) at_88 rfl rfl
          |>.goto at_89 (by decide) (by decide)
        exact ⟨(1 : Int32), Or.inr rfl, s277⟩
    have s279 : Sit p l e _ s m _ below meth c _ st n0 0 0 _ 98 #[.val (.int u0), .val (.long u1), .second, .val (.int u3), .val (.int u4), .val (.int u5), .val (.int (2 : Int32)), .val (.int xa), .val (.int xb), .val (.int xc), .val (.int g4), .val (.int rA), .val (.int rB), .unset, .unset, .unset, .unset, .unset, .unset, .unset, .unset, .unset, .unset, .unset, .unset, .unset, .unset, .unset] [(.int (3 : Int32)), (.int (2 : Int32))] := s278
      |>.istore #[.val (.int u0), .val (.long u1), .second, .val (.int u3), .val (.int u4), .val (.int u5), .val (.int (2 : Int32)), .val (.int xa), .val (.int xb), .val (.int xc), .val (.int g4), .val (.int rA), .val (.int rB), .unset, .unset, .unset, .unset, .unset, .unset, .unset, .unset, .unset, .unset, .unset, .unset, .unset, .unset, .unset] at_93 rfl rfl
      |>.iload at_95 rfl rfl
      |>.iconst (3 : Int32) at_97 rfl rfl
    have s280 : Sit p l e _ s m _ below meth c _ st n0 0 0 _ 121 #[.val (.int u0), .val (.long u1), .second, .val (.int u3), .val (.int u4), .val (.int u5), .val (.int (2 : Int32)), .val (.int xa), .val (.int xb), .val (.int xc), .val (.int g4), .val (.int rA), .val (.int rB), .val (.int (0 : Int32)), .unset, .unset, .unset, .unset, .unset, .unset, .unset, .unset, .unset, .unset, .unset, .unset, .unset, .unset] [(.int ((ushr32 u3 (5 : Int32)) &&& (1 : Int32)))] := s279
      |>.icmpY at_98 (cmpT (cd := .lt) (show (2 : Int) < (3 : Int) from by decide)) (by decide) (by decide)
      |>.iconst (0 : Int32) at_113 rfl rfl
      |>.istore #[.val (.int u0), .val (.long u1), .second, .val (.int u3), .val (.int u4), .val (.int u5), .val (.int (2 : Int32)), .val (.int xa), .val (.int xb), .val (.int xc), .val (.int g4), .val (.int rA), .val (.int rB), .val (.int (0 : Int32)), .unset, .unset, .unset, .unset, .unset, .unset, .unset, .unset, .unset, .unset, .unset, .unset, .unset, .unset] at_114 rfl rfl
      |>.iloadN at_116 rfl rfl
      |>.iconst (5 : Int32) at_117 rfl rfl
      |>.iushr at_118 rfl
      |>.iconst (1 : Int32) at_119 rfl rfl
      |>.iand at_120 rfl
    obtain ⟨rv, e_rv, s284⟩ : ∃ rv : Int32, (rv = 0 ∨ rv = 1) ∧ Sit p l e room_1 s m #[(.int u0), (.long u1), (.int u3), (.int u4), (.int u5)] below meth c code st n0 0 0 (fun hh => True) 129 #[.val (.int u0), .val (.long u1), .second, .val (.int u3), .val (.int u4), .val (.int u5), .val (.int (2 : Int32)), .val (.int xa), .val (.int xb), .val (.int xc), .val (.int g4), .val (.int rA), .val (.int rB), .val (.int (0 : Int32)), .unset, .unset, .unset, .unset, .unset, .unset, .unset, .unset, .unset, .unset, .unset, .unset, .unset, .unset] [(.int rv)] := by
      by_cases cnd281 : ((ushr32 u3 (5 : Int32)) &&& (1 : Int32)) = 0
      · have s282 : Sit p l e _ s m _ below meth c _ st n0 0 0 _ 129 #[.val (.int u0), .val (.long u1), .second, .val (.int u3), .val (.int u4), .val (.int u5), .val (.int (2 : Int32)), .val (.int xa), .val (.int xb), .val (.int xc), .val (.int g4), .val (.int rA), .val (.int rB), .val (.int (0 : Int32)), .unset, .unset, .unset, .unset, .unset, .unset, .unset, .unset, .unset, .unset, .unset, .unset, .unset, .unset] [(.int (0 : Int32))] := s280
          |>.ifY at_121 (eqT cnd281) (by decide) (by decide)
          |>.iconst (0 : Int32) at_128 rfl rfl
        exact ⟨(0 : Int32), Or.inl rfl, s282⟩
      · have s283 : Sit p l e _ s m _ below meth c _ st n0 0 0 _ 129 #[.val (.int u0), .val (.long u1), .second, .val (.int u3), .val (.int u4), .val (.int u5), .val (.int (2 : Int32)), .val (.int xa), .val (.int xb), .val (.int xc), .val (.int g4), .val (.int rA), .val (.int rB), .val (.int (0 : Int32)), .unset, .unset, .unset, .unset, .unset, .unset, .unset, .unset, .unset, .unset, .unset, .unset, .unset, .unset] [(.int (1 : Int32))] := s280
          |>.ifN at_121 (eqF cnd281) rfl
          |>.iconst (1 : Int32) at_124 rfl rfl
          |>.goto at_125 (by decide) (by decide)
        exact ⟨(1 : Int32), Or.inr rfl, s283⟩
    have s285 : Sit p l e _ s m _ below meth c _ st n0 0 0 _ 137 #[.val (.int u0), .val (.long u1), .second, .val (.int u3), .val (.int u4), .val (.int u5), .val (.int (2 : Int32)), .val (.int xa), .val (.int xb), .val (.int xc), .val (.int g4), .val (.int rA), .val (.int rB), .val (.int (0 : Int32)), .val (.int rv), .unset, .unset, .unset, .unset, .unset, .unset, .unset, .unset, .unset, .unset, .unset, .unset, .unset] [(.int ((ushr32 u3 (6 : Int32)) &&& (1 : Int32)))] := s284
      |>.istore #[.val (.int u0), .val (.long u1), .second, .val (.int u3), .val (.int u4), .val (.int u5), .val (.int (2 : Int32)), .val (.int xa), .val (.int xb), .val (.int xc), .val (.int g4), .val (.int rA), .val (.int rB), .val (.int (0 : Int32)), .val (.int rv), .unset, .unset, .unset, .unset, .unset, .unset, .unset, .unset, .unset, .unset, .unset, .unset, .unset] at_129 rfl rfl
      |>.iloadN at_131 rfl rfl
      |>.bipush (6 : Int32) at_132 rfl rfl
      |>.iushr at_134 rfl
      |>.iconst (1 : Int32) at_135 rfl rfl
      |>.iand at_136 rfl
    obtain ⟨ex, e_ex, s289⟩ : ∃ ex : Int32, (ex = 0 ∨ ex = 1) ∧ Sit p l e room_1 s m #[(.int u0), (.long u1), (.int u3), (.int u4), (.int u5)] below meth c code st n0 0 0 (fun hh => True) 145 #[.val (.int u0), .val (.long u1), .second, .val (.int u3), .val (.int u4), .val (.int u5), .val (.int (2 : Int32)), .val (.int xa), .val (.int xb), .val (.int xc), .val (.int g4), .val (.int rA), .val (.int rB), .val (.int (0 : Int32)), .val (.int rv), .unset, .unset, .unset, .unset, .unset, .unset, .unset, .unset, .unset, .unset, .unset, .unset, .unset] [(.int ex)] := by
      by_cases cnd286 : ((ushr32 u3 (6 : Int32)) &&& (1 : Int32)) = 0
      · have s287 : Sit p l e _ s m _ below meth c _ st n0 0 0 _ 145 #[.val (.int u0), .val (.long u1), .second, .val (.int u3), .val (.int u4), .val (.int u5), .val (.int (2 : Int32)), .val (.int xa), .val (.int xb), .val (.int xc), .val (.int g4), .val (.int rA), .val (.int rB), .val (.int (0 : Int32)), .val (.int rv), .unset, .unset, .unset, .unset, .unset, .unset, .unset, .unset, .unset, .unset, .unset, .unset, .unset] [(.int (0 : Int32))] := s285
          |>.ifY at_137 (eqT cnd286) (by decide) (by decide)
          |>.iconst (0 : Int32) at_144 rfl rfl
        exact ⟨(0 : Int32), Or.inl rfl, s287⟩
      · have s288 : Sit p l e _ s m _ below meth c _ st n0 0 0 _ 145 #[.val (.int u0), .val (.long u1), .second, .val (.int u3), .val (.int u4), .val (.int u5), .val (.int (2 : Int32)), .val (.int xa), .val (.int xb), .val (.int xc), .val (.int g4), .val (.int rA), .val (.int rB), .val (.int (0 : Int32)), .val (.int rv), .unset, .unset, .unset, .unset, .unset, .unset, .unset, .unset, .unset, .unset, .unset, .unset, .unset] [(.int (1 : Int32))] := s285
          |>.ifN at_137 (eqF cnd286) rfl
          |>.iconst (1 : Int32) at_140 rfl rfl
          |>.goto at_141 (by decide) (by decide)
        exact ⟨(1 : Int32), Or.inr rfl, s288⟩
    have s290 : Sit p l e _ s m _ below meth c _ st n0 0 0 _ 153 #[.val (.int u0), .val (.long u1), .second, .val (.int u3), .val (.int u4), .val (.int u5), .val (.int (2 : Int32)), .val (.int xa), .val (.int xb), .val (.int xc), .val (.int g4), .val (.int rA), .val (.int rB), .val (.int (0 : Int32)), .val (.int rv), .val (.int ex), .unset, .unset, .unset, .unset, .unset, .unset, .unset, .unset, .unset, .unset, .unset, .unset] [(.int ((ushr32 u3 (7 : Int32)) &&& (1 : Int32)))] := s289
      |>.istore #[.val (.int u0), .val (.long u1), .second, .val (.int u3), .val (.int u4), .val (.int u5), .val (.int (2 : Int32)), .val (.int xa), .val (.int xb), .val (.int xc), .val (.int g4), .val (.int rA), .val (.int rB), .val (.int (0 : Int32)), .val (.int rv), .val (.int ex), .unset, .unset, .unset, .unset, .unset, .unset, .unset, .unset, .unset, .unset, .unset, .unset] at_145 rfl rfl
      |>.iloadN at_147 rfl rfl
      |>.bipush (7 : Int32) at_148 rfl rfl
      |>.iushr at_150 rfl
      |>.iconst (1 : Int32) at_151 rfl rfl
      |>.iand at_152 rfl
    obtain ⟨nr, e_nr, s294⟩ : ∃ nr : Int32, (nr = 0 ∨ nr = 1) ∧ Sit p l e room_1 s m #[(.int u0), (.long u1), (.int u3), (.int u4), (.int u5)] below meth c code st n0 0 0 (fun hh => True) 161 #[.val (.int u0), .val (.long u1), .second, .val (.int u3), .val (.int u4), .val (.int u5), .val (.int (2 : Int32)), .val (.int xa), .val (.int xb), .val (.int xc), .val (.int g4), .val (.int rA), .val (.int rB), .val (.int (0 : Int32)), .val (.int rv), .val (.int ex), .unset, .unset, .unset, .unset, .unset, .unset, .unset, .unset, .unset, .unset, .unset, .unset] [(.int nr)] := by
      by_cases cnd291 : ((ushr32 u3 (7 : Int32)) &&& (1 : Int32)) = 0
      · have s292 : Sit p l e _ s m _ below meth c _ st n0 0 0 _ 161 #[.val (.int u0), .val (.long u1), .second, .val (.int u3), .val (.int u4), .val (.int u5), .val (.int (2 : Int32)), .val (.int xa), .val (.int xb), .val (.int xc), .val (.int g4), .val (.int rA), .val (.int rB), .val (.int (0 : Int32)), .val (.int rv), .val (.int ex), .unset, .unset, .unset, .unset, .unset, .unset, .unset, .unset, .unset, .unset, .unset, .unset] [(.int (0 : Int32))] := s290
          |>.ifY at_153 (eqT cnd291) (by decide) (by decide)
          |>.iconst (0 : Int32) at_160 rfl rfl
        exact ⟨(0 : Int32), Or.inl rfl, s292⟩
      · have s293 : Sit p l e _ s m _ below meth c _ st n0 0 0 _ 161 #[.val (.int u0), .val (.long u1), .second, .val (.int u3), .val (.int u4), .val (.int u5), .val (.int (2 : Int32)), .val (.int xa), .val (.int xb), .val (.int xc), .val (.int g4), .val (.int rA), .val (.int rB), .val (.int (0 : Int32)), .val (.int rv), .val (.int ex), .unset, .unset, .unset, .unset, .unset, .unset, .unset, .unset, .unset, .unset, .unset, .unset] [(.int (1 : Int32))] := s290
          |>.ifN at_153 (eqF cnd291) rfl
          |>.iconst (1 : Int32) at_156 rfl rfl
          |>.goto at_157 (by decide) (by decide)
        exact ⟨(1 : Int32), Or.inr rfl, s293⟩
    have s295 : Sit p l e _ s m _ below meth c _ st n0 0 0 _ 169 #[.val (.int u0), .val (.long u1), .second, .val (.int u3), .val (.int u4), .val (.int u5), .val (.int (2 : Int32)), .val (.int xa), .val (.int xb), .val (.int xc), .val (.int g4), .val (.int rA), .val (.int rB), .val (.int (0 : Int32)), .val (.int rv), .val (.int ex), .val (.int nr), .unset, .unset, .unset, .unset, .unset, .unset, .unset, .unset, .unset, .unset, .unset] [(.int ((ushr32 u3 (8 : Int32)) &&& (3 : Int32)))] := s294
      |>.istore #[.val (.int u0), .val (.long u1), .second, .val (.int u3), .val (.int u4), .val (.int u5), .val (.int (2 : Int32)), .val (.int xa), .val (.int xb), .val (.int xc), .val (.int g4), .val (.int rA), .val (.int rB), .val (.int (0 : Int32)), .val (.int rv), .val (.int ex), .val (.int nr), .unset, .unset, .unset, .unset, .unset, .unset, .unset, .unset, .unset, .unset, .unset] at_161 rfl rfl
      |>.iloadN at_163 rfl rfl
      |>.bipush (8 : Int32) at_164 rfl rfl
      |>.iushr at_166 rfl
      |>.iconst (3 : Int32) at_167 rfl rfl
      |>.iand at_168 rfl
    obtain ⟨cs, e_cs, s296⟩ : ∃ cs : Int32, cs = ((ushr32 u3 (8 : Int32)) &&& (3 : Int32)) ∧ Sit p l e _ s m _ below meth c _ st n0 0 0 _ 169 #[.val (.int u0), .val (.long u1), .second, .val (.int u3), .val (.int u4), .val (.int u5), .val (.int (2 : Int32)), .val (.int xa), .val (.int xb), .val (.int xc), .val (.int g4), .val (.int rA), .val (.int rB), .val (.int (0 : Int32)), .val (.int rv), .val (.int ex), .val (.int nr), .unset, .unset, .unset, .unset, .unset, .unset, .unset, .unset, .unset, .unset, .unset] [(.int cs)] := ⟨_, rfl, s295⟩
    have s297 : Sit p l e _ s m _ below meth c _ st n0 0 0 _ 174 #[.val (.int u0), .val (.long u1), .second, .val (.int u3), .val (.int u4), .val (.int u5), .val (.int (2 : Int32)), .val (.int xa), .val (.int xb), .val (.int xc), .val (.int g4), .val (.int rA), .val (.int rB), .val (.int (0 : Int32)), .val (.int rv), .val (.int ex), .val (.int nr), .val (.int cs), .unset, .unset, .unset, .unset, .unset, .unset, .unset, .unset, .unset, .unset] [(.int (1 : Int32)), (.int (2 : Int32))] := s296
      |>.istore #[.val (.int u0), .val (.long u1), .second, .val (.int u3), .val (.int u4), .val (.int u5), .val (.int (2 : Int32)), .val (.int xa), .val (.int xb), .val (.int xc), .val (.int g4), .val (.int rA), .val (.int rB), .val (.int (0 : Int32)), .val (.int rv), .val (.int ex), .val (.int nr), .val (.int cs), .unset, .unset, .unset, .unset, .unset, .unset, .unset, .unset, .unset, .unset] at_169 rfl rfl
      |>.iload at_171 rfl rfl
      |>.iconst (1 : Int32) at_173 rfl rfl
    have s298 : Sit p l e _ s m _ below meth c _ st n0 0 0 _ 179 #[.val (.int u0), .val (.long u1), .second, .val (.int u3), .val (.int u4), .val (.int u5), .val (.int (2 : Int32)), .val (.int xa), .val (.int xb), .val (.int xc), .val (.int g4), .val (.int rA), .val (.int rB), .val (.int (0 : Int32)), .val (.int rv), .val (.int ex), .val (.int nr), .val (.int cs), .unset, .unset, .unset, .unset, .unset, .unset, .unset, .unset, .unset, .unset] [(.int rA)] := s297
      |>.icmpN at_174 (cmpF (cd := .lt) (show ¬ ((2 : Int) < (1 : Int)) from by decide)) rfl
      |>.iload at_177 rfl rfl
    obtain ⟨hA, e_hA, s301⟩ : ∃ hA : Int32, ((hA = 1 ∧ rA = 0) ∨ (hA = 0 ∧ ¬ rA = 0)) ∧ Sit p l e room_1 s m #[(.int u0), (.long u1), (.int u3), (.int u4), (.int u5)] below meth c code st n0 0 0 (fun hh => True) 187 #[.val (.int u0), .val (.long u1), .second, .val (.int u3), .val (.int u4), .val (.int u5), .val (.int (2 : Int32)), .val (.int xa), .val (.int xb), .val (.int xc), .val (.int g4), .val (.int rA), .val (.int rB), .val (.int (0 : Int32)), .val (.int rv), .val (.int ex), .val (.int nr), .val (.int cs), .unset, .unset, .unset, .unset, .unset, .unset, .unset, .unset, .unset, .unset] [(.int hA)] := by
      by_cases cr : ¬ rA = 0
      · have s299 : Sit p l e _ s m _ below meth c _ st n0 0 0 _ 187 #[.val (.int u0), .val (.long u1), .second, .val (.int u3), .val (.int u4), .val (.int u5), .val (.int (2 : Int32)), .val (.int xa), .val (.int xb), .val (.int xc), .val (.int g4), .val (.int rA), .val (.int rB), .val (.int (0 : Int32)), .val (.int rv), .val (.int ex), .val (.int nr), .val (.int cs), .unset, .unset, .unset, .unset, .unset, .unset, .unset, .unset, .unset, .unset] [(.int (0 : Int32))] := s298
          |>.ifY at_179 (neT cr) (by decide) (by decide)
          |>.iconst (0 : Int32) at_186 rfl rfl
        exact ⟨0, Or.inr ⟨rfl, cr⟩, s299⟩
      · have s300 : Sit p l e _ s m _ below meth c _ st n0 0 0 _ 187 #[.val (.int u0), .val (.long u1), .second, .val (.int u3), .val (.int u4), .val (.int u5), .val (.int (2 : Int32)), .val (.int xa), .val (.int xb), .val (.int xc), .val (.int g4), .val (.int rA), .val (.int rB), .val (.int (0 : Int32)), .val (.int rv), .val (.int ex), .val (.int nr), .val (.int cs), .unset, .unset, .unset, .unset, .unset, .unset, .unset, .unset, .unset, .unset] [(.int (1 : Int32))] := s298
          |>.ifN at_179 ((neF (Classical.not_not.mp cr))) rfl
          |>.iconst (1 : Int32) at_182 rfl rfl
          |>.goto at_183 (by decide) (by decide)
        exact ⟨1, Or.inl ⟨rfl, Classical.not_not.mp cr⟩, s300⟩
    have s302 : Sit p l e _ s m _ below meth c _ st n0 0 0 _ 192 #[.val (.int u0), .val (.long u1), .second, .val (.int u3), .val (.int u4), .val (.int u5), .val (.int (2 : Int32)), .val (.int xa), .val (.int xb), .val (.int xc), .val (.int g4), .val (.int rA), .val (.int rB), .val (.int (0 : Int32)), .val (.int rv), .val (.int ex), .val (.int nr), .val (.int cs), .val (.int hA), .unset, .unset, .unset, .unset, .unset, .unset, .unset, .unset, .unset] [(.int (2 : Int32)), (.int (2 : Int32))] := s301
      |>.istore #[.val (.int u0), .val (.long u1), .second, .val (.int u3), .val (.int u4), .val (.int u5), .val (.int (2 : Int32)), .val (.int xa), .val (.int xb), .val (.int xc), .val (.int g4), .val (.int rA), .val (.int rB), .val (.int (0 : Int32)), .val (.int rv), .val (.int ex), .val (.int nr), .val (.int cs), .val (.int hA), .unset, .unset, .unset, .unset, .unset, .unset, .unset, .unset, .unset] at_187 rfl rfl
      |>.iload at_189 rfl rfl
      |>.iconst (2 : Int32) at_191 rfl rfl
    have s303 : Sit p l e _ s m _ below meth c _ st n0 0 0 _ 197 #[.val (.int u0), .val (.long u1), .second, .val (.int u3), .val (.int u4), .val (.int u5), .val (.int (2 : Int32)), .val (.int xa), .val (.int xb), .val (.int xc), .val (.int g4), .val (.int rA), .val (.int rB), .val (.int (0 : Int32)), .val (.int rv), .val (.int ex), .val (.int nr), .val (.int cs), .val (.int hA), .unset, .unset, .unset, .unset, .unset, .unset, .unset, .unset, .unset] [(.int rB)] := s302
      |>.icmpN at_192 (cmpF (cd := .lt) (show ¬ ((2 : Int) < (2 : Int)) from by decide)) rfl
      |>.iload at_195 rfl rfl
    obtain ⟨hB, e_hB, s306⟩ : ∃ hB : Int32, ((hB = 1 ∧ rB = 0) ∨ (hB = 0 ∧ ¬ rB = 0)) ∧ Sit p l e room_1 s m #[(.int u0), (.long u1), (.int u3), (.int u4), (.int u5)] below meth c code st n0 0 0 (fun hh => True) 205 #[.val (.int u0), .val (.long u1), .second, .val (.int u3), .val (.int u4), .val (.int u5), .val (.int (2 : Int32)), .val (.int xa), .val (.int xb), .val (.int xc), .val (.int g4), .val (.int rA), .val (.int rB), .val (.int (0 : Int32)), .val (.int rv), .val (.int ex), .val (.int nr), .val (.int cs), .val (.int hA), .unset, .unset, .unset, .unset, .unset, .unset, .unset, .unset, .unset] [(.int hB)] := by
      by_cases cr : ¬ rB = 0
      · have s304 : Sit p l e _ s m _ below meth c _ st n0 0 0 _ 205 #[.val (.int u0), .val (.long u1), .second, .val (.int u3), .val (.int u4), .val (.int u5), .val (.int (2 : Int32)), .val (.int xa), .val (.int xb), .val (.int xc), .val (.int g4), .val (.int rA), .val (.int rB), .val (.int (0 : Int32)), .val (.int rv), .val (.int ex), .val (.int nr), .val (.int cs), .val (.int hA), .unset, .unset, .unset, .unset, .unset, .unset, .unset, .unset, .unset] [(.int (0 : Int32))] := s303
          |>.ifY at_197 (neT cr) (by decide) (by decide)
          |>.iconst (0 : Int32) at_204 rfl rfl
        exact ⟨0, Or.inr ⟨rfl, cr⟩, s304⟩
      · have s305 : Sit p l e _ s m _ below meth c _ st n0 0 0 _ 205 #[.val (.int u0), .val (.long u1), .second, .val (.int u3), .val (.int u4), .val (.int u5), .val (.int (2 : Int32)), .val (.int xa), .val (.int xb), .val (.int xc), .val (.int g4), .val (.int rA), .val (.int rB), .val (.int (0 : Int32)), .val (.int rv), .val (.int ex), .val (.int nr), .val (.int cs), .val (.int hA), .unset, .unset, .unset, .unset, .unset, .unset, .unset, .unset, .unset] [(.int (1 : Int32))] := s303
          |>.ifN at_197 ((neF (Classical.not_not.mp cr))) rfl
          |>.iconst (1 : Int32) at_200 rfl rfl
          |>.goto at_201 (by decide) (by decide)
        exact ⟨1, Or.inl ⟨rfl, Classical.not_not.mp cr⟩, s305⟩
    have s307 : Sit p l e _ s m _ below meth c _ st n0 0 0 _ 210 #[.val (.int u0), .val (.long u1), .second, .val (.int u3), .val (.int u4), .val (.int u5), .val (.int (2 : Int32)), .val (.int xa), .val (.int xb), .val (.int xc), .val (.int g4), .val (.int rA), .val (.int rB), .val (.int (0 : Int32)), .val (.int rv), .val (.int ex), .val (.int nr), .val (.int cs), .val (.int hA), .val (.int hB), .unset, .unset, .unset, .unset, .unset, .unset, .unset, .unset] [(.int (3 : Int32)), (.int (2 : Int32))] := s306
      |>.istore #[.val (.int u0), .val (.long u1), .second, .val (.int u3), .val (.int u4), .val (.int u5), .val (.int (2 : Int32)), .val (.int xa), .val (.int xb), .val (.int xc), .val (.int g4), .val (.int rA), .val (.int rB), .val (.int (0 : Int32)), .val (.int rv), .val (.int ex), .val (.int nr), .val (.int cs), .val (.int hA), .val (.int hB), .unset, .unset, .unset, .unset, .unset, .unset, .unset, .unset] at_205 rfl rfl
      |>.iload at_207 rfl rfl
      |>.iconst (3 : Int32) at_209 rfl rfl
    have s308 : Sit p l e _ s m _ below meth c _ st n0 0 0 _ 225 #[.val (.int u0), .val (.long u1), .second, .val (.int u3), .val (.int u4), .val (.int u5), .val (.int (2 : Int32)), .val (.int xa), .val (.int xb), .val (.int xc), .val (.int g4), .val (.int rA), .val (.int rB), .val (.int (0 : Int32)), .val (.int rv), .val (.int ex), .val (.int nr), .val (.int cs), .val (.int hA), .val (.int hB), .val (.int (0 : Int32)), .unset, .unset, .unset, .unset, .unset, .unset, .unset] [] := s307
      |>.icmpY at_210 (cmpT (cd := .lt) (show (2 : Int) < (3 : Int) from by decide)) (by decide) (by decide)
      |>.iconst (0 : Int32) at_222 rfl rfl
      |>.istore #[.val (.int u0), .val (.long u1), .second, .val (.int u3), .val (.int u4), .val (.int u5), .val (.int (2 : Int32)), .val (.int xa), .val (.int xb), .val (.int xc), .val (.int g4), .val (.int rA), .val (.int rB), .val (.int (0 : Int32)), .val (.int rv), .val (.int ex), .val (.int nr), .val (.int cs), .val (.int hA), .val (.int hB), .val (.int (0 : Int32)), .unset, .unset, .unset, .unset, .unset, .unset, .unset] at_223 rfl rfl
    obtain ⟨em, e_em, s309⟩ : ∃ em : Int32, ((em = 1 ∧ hA = 0 ∧ hB = 0) ∨ (em = 0 ∧ ¬ (hA = 0 ∧ hB = 0))) ∧ Sit p l e room_1 s m #[(.int u0), (.long u1), (.int u3), (.int u4), (.int u5)] below meth c code st n0 0 0 (fun hh => True) 245 #[.val (.int u0), .val (.long u1), .second, .val (.int u3), .val (.int u4), .val (.int u5), .val (.int (2 : Int32)), .val (.int xa), .val (.int xb), .val (.int xc), .val (.int g4), .val (.int rA), .val (.int rB), .val (.int (0 : Int32)), .val (.int rv), .val (.int ex), .val (.int nr), .val (.int cs), .val (.int hA), .val (.int hB), .val (.int (0 : Int32)), .unset, .unset, .unset, .unset, .unset, .unset, .unset] [(.int em)] := by
      have s310 : Sit p l e _ s m _ below meth c _ st n0 0 0 _ 227 #[.val (.int u0), .val (.long u1), .second, .val (.int u3), .val (.int u4), .val (.int u5), .val (.int (2 : Int32)), .val (.int xa), .val (.int xb), .val (.int xc), .val (.int g4), .val (.int rA), .val (.int rB), .val (.int (0 : Int32)), .val (.int rv), .val (.int ex), .val (.int nr), .val (.int cs), .val (.int hA), .val (.int hB), .val (.int (0 : Int32)), .unset, .unset, .unset, .unset, .unset, .unset, .unset] [(.int hA)] := s308
        |>.iload at_225 rfl rfl
      by_cases cy0 : ¬ hA = 0
      · have s311 : Sit p l e _ s m _ below meth c _ st n0 0 0 _ 245 #[.val (.int u0), .val (.long u1), .second, .val (.int u3), .val (.int u4), .val (.int u5), .val (.int (2 : Int32)), .val (.int xa), .val (.int xb), .val (.int xc), .val (.int g4), .val (.int rA), .val (.int rB), .val (.int (0 : Int32)), .val (.int rv), .val (.int ex), .val (.int nr), .val (.int cs), .val (.int hA), .val (.int hB), .val (.int (0 : Int32)), .unset, .unset, .unset, .unset, .unset, .unset, .unset] [(.int (0 : Int32))] := s310
          |>.ifY at_227 (neT cy0) (by decide) (by decide)
          |>.iconst (0 : Int32) at_244 rfl rfl
        exact ⟨0, Or.inr ⟨rfl, fun h => cy0 h.1⟩, s311⟩
      · have cz0 := Classical.not_not.mp cy0
        have s312 : Sit p l e _ s m _ below meth c _ st n0 0 0 _ 232 #[.val (.int u0), .val (.long u1), .second, .val (.int u3), .val (.int u4), .val (.int u5), .val (.int (2 : Int32)), .val (.int xa), .val (.int xb), .val (.int xc), .val (.int g4), .val (.int rA), .val (.int rB), .val (.int (0 : Int32)), .val (.int rv), .val (.int ex), .val (.int nr), .val (.int cs), .val (.int hA), .val (.int hB), .val (.int (0 : Int32)), .unset, .unset, .unset, .unset, .unset, .unset, .unset] [(.int hB)] := s310
          |>.ifN at_227 ((neF (Classical.not_not.mp cy0))) rfl
          |>.iload at_230 rfl rfl
        by_cases cy1 : ¬ hB = 0
        · have s313 : Sit p l e _ s m _ below meth c _ st n0 0 0 _ 245 #[.val (.int u0), .val (.long u1), .second, .val (.int u3), .val (.int u4), .val (.int u5), .val (.int (2 : Int32)), .val (.int xa), .val (.int xb), .val (.int xc), .val (.int g4), .val (.int rA), .val (.int rB), .val (.int (0 : Int32)), .val (.int rv), .val (.int ex), .val (.int nr), .val (.int cs), .val (.int hA), .val (.int hB), .val (.int (0 : Int32)), .unset, .unset, .unset, .unset, .unset, .unset, .unset] [(.int (0 : Int32))] := s312
            |>.ifY at_232 (neT cy1) (by decide) (by decide)
            |>.iconst (0 : Int32) at_244 rfl rfl
          exact ⟨0, Or.inr ⟨rfl, fun h => cy1 h.2⟩, s313⟩
        · have cz1 := Classical.not_not.mp cy1
          have s314 : Sit p l e _ s m _ below meth c _ st n0 0 0 _ 237 #[.val (.int u0), .val (.long u1), .second, .val (.int u3), .val (.int u4), .val (.int u5), .val (.int (2 : Int32)), .val (.int xa), .val (.int xb), .val (.int xc), .val (.int g4), .val (.int rA), .val (.int rB), .val (.int (0 : Int32)), .val (.int rv), .val (.int ex), .val (.int nr), .val (.int cs), .val (.int hA), .val (.int hB), .val (.int (0 : Int32)), .unset, .unset, .unset, .unset, .unset, .unset, .unset] [(.int (0 : Int32))] := s312
            |>.ifN at_232 ((neF (Classical.not_not.mp cy1))) rfl
            |>.iload at_235 rfl rfl
          have s315 : Sit p l e _ s m _ below meth c _ st n0 0 0 _ 245 #[.val (.int u0), .val (.long u1), .second, .val (.int u3), .val (.int u4), .val (.int u5), .val (.int (2 : Int32)), .val (.int xa), .val (.int xb), .val (.int xc), .val (.int g4), .val (.int rA), .val (.int rB), .val (.int (0 : Int32)), .val (.int rv), .val (.int ex), .val (.int nr), .val (.int cs), .val (.int hA), .val (.int hB), .val (.int (0 : Int32)), .unset, .unset, .unset, .unset, .unset, .unset, .unset] [(.int (1 : Int32))] := s314
            |>.ifN at_237 ((neF (Classical.not_not.mp (show ¬ (¬ (0 : Int32) = 0) from by decide)))) rfl
            |>.iconst (1 : Int32) at_240 rfl rfl
            |>.goto at_241 (by decide) (by decide)
          exact ⟨1, Or.inl ⟨rfl, cz0, cz1⟩, s315⟩
    have s316 : Sit p l e _ s m _ below meth c _ st n0 0 0 _ 250 #[.val (.int u0), .val (.long u1), .second, .val (.int u3), .val (.int u4), .val (.int u5), .val (.int (2 : Int32)), .val (.int xa), .val (.int xb), .val (.int xc), .val (.int g4), .val (.int rA), .val (.int rB), .val (.int (0 : Int32)), .val (.int rv), .val (.int ex), .val (.int nr), .val (.int cs), .val (.int hA), .val (.int hB), .val (.int (0 : Int32)), .val (.int em), .unset, .unset, .unset, .unset, .unset, .unset] [(.int (1 : Int32)), (.int (2 : Int32))] := s309
      |>.istore #[.val (.int u0), .val (.long u1), .second, .val (.int u3), .val (.int u4), .val (.int u5), .val (.int (2 : Int32)), .val (.int xa), .val (.int xb), .val (.int xc), .val (.int g4), .val (.int rA), .val (.int rB), .val (.int (0 : Int32)), .val (.int rv), .val (.int ex), .val (.int nr), .val (.int cs), .val (.int hA), .val (.int hB), .val (.int (0 : Int32)), .val (.int em), .unset, .unset, .unset, .unset, .unset, .unset] at_245 rfl rfl
      |>.iload at_247 rfl rfl
      |>.iconst (1 : Int32) at_249 rfl rfl
    have s317 : Sit p l e _ s m _ below meth c _ st n0 0 0 _ 261 #[.val (.int u0), .val (.long u1), .second, .val (.int u3), .val (.int u4), .val (.int u5), .val (.int (2 : Int32)), .val (.int xa), .val (.int xb), .val (.int xc), .val (.int g4), .val (.int rA), .val (.int rB), .val (.int (0 : Int32)), .val (.int rv), .val (.int ex), .val (.int nr), .val (.int cs), .val (.int hA), .val (.int hB), .val (.int (0 : Int32)), .val (.int em), .unset, .unset, .unset, .unset, .unset, .unset] [(.int (2 : Int32)), (.int (2 : Int32))] := s316
      |>.icmpY at_250 (neT (show ¬ (2 : Int32) = (1 : Int32) from by decide)) (by decide) (by decide)
      |>.iload at_258 rfl rfl
      |>.iconst (2 : Int32) at_260 rfl rfl
    have s318 : Sit p l e _ s m _ below meth c _ st n0 0 0 _ 285 #[.val (.int u0), .val (.long u1), .second, .val (.int u3), .val (.int u4), .val (.int u5), .val (.int (2 : Int32)), .val (.int xa), .val (.int xb), .val (.int xc), .val (.int g4), .val (.int rA), .val (.int rB), .val (.int (0 : Int32)), .val (.int rv), .val (.int ex), .val (.int nr), .val (.int cs), .val (.int hA), .val (.int hB), .val (.int (0 : Int32)), .val (.int em), .val (.int xb), .unset, .unset, .unset, .unset, .unset] [(.int em)] := s317
      |>.icmpN at_261 ((neF (Classical.not_not.mp (show ¬ (¬ (2 : Int32) = (2 : Int32)) from fun h => h rfl)))) rfl
      |>.iload at_264 rfl rfl
      |>.goto at_266 (by decide) (by decide)
      |>.istore #[.val (.int u0), .val (.long u1), .second, .val (.int u3), .val (.int u4), .val (.int u5), .val (.int (2 : Int32)), .val (.int xa), .val (.int xb), .val (.int xc), .val (.int g4), .val (.int rA), .val (.int rB), .val (.int (0 : Int32)), .val (.int rv), .val (.int ex), .val (.int nr), .val (.int cs), .val (.int hA), .val (.int hB), .val (.int (0 : Int32)), .val (.int em), .val (.int xb), .unset, .unset, .unset, .unset, .unset] at_281 rfl rfl
      |>.iload at_283 rfl rfl
    obtain ⟨ee, ⟨ee1, ee2⟩, s319⟩ : ∃ ee : Int32, ((¬ em = 0 → ee = (u5 &&& (1073741823 : Int32))) ∧ (em = 0 → ee = (xb + g4))) ∧ Sit p l e room_1 s m #[(.int u0), (.long u1), (.int u3), (.int u4), (.int u5)] below meth c code st n0 0 0 (fun hh => True) 301 #[.val (.int u0), .val (.long u1), .second, .val (.int u3), .val (.int u4), .val (.int u5), .val (.int (2 : Int32)), .val (.int xa), .val (.int xb), .val (.int xc), .val (.int g4), .val (.int rA), .val (.int rB), .val (.int (0 : Int32)), .val (.int rv), .val (.int ex), .val (.int nr), .val (.int cs), .val (.int hA), .val (.int hB), .val (.int (0 : Int32)), .val (.int em), .val (.int xb), .unset, .unset, .unset, .unset, .unset] [(.int ee)] := by
      by_cases ce : em = 0
      · have s320 : Sit p l e _ s m _ below meth c _ st n0 0 0 _ 301 #[.val (.int u0), .val (.long u1), .second, .val (.int u3), .val (.int u4), .val (.int u5), .val (.int (2 : Int32)), .val (.int xa), .val (.int xb), .val (.int xc), .val (.int g4), .val (.int rA), .val (.int rB), .val (.int (0 : Int32)), .val (.int rv), .val (.int ex), .val (.int nr), .val (.int cs), .val (.int hA), .val (.int hB), .val (.int (0 : Int32)), .val (.int em), .val (.int xb), .unset, .unset, .unset, .unset, .unset] [(.int (xb + g4))] := s318
          |>.ifY at_285 (eqT ce) (by decide) (by decide)
          |>.iload at_296 rfl rfl
          |>.iload at_298 rfl rfl
          |>.iadd at_300 rfl
        exact ⟨_, ⟨fun h => absurd ce h, fun _ => rfl⟩, s320⟩
      · have s321 : Sit p l e _ s m _ below meth c _ st n0 0 0 _ 301 #[.val (.int u0), .val (.long u1), .second, .val (.int u3), .val (.int u4), .val (.int u5), .val (.int (2 : Int32)), .val (.int xa), .val (.int xb), .val (.int xc), .val (.int g4), .val (.int rA), .val (.int rB), .val (.int (0 : Int32)), .val (.int rv), .val (.int ex), .val (.int nr), .val (.int cs), .val (.int hA), .val (.int hB), .val (.int (0 : Int32)), .val (.int em), .val (.int xb), .unset, .unset, .unset, .unset, .unset] [(.int (u5 &&& (1073741823 : Int32)))] := s318
          |>.ifN at_285 (eqF ce) rfl
          |>.iload at_288 rfl rfl
          |>.ldc hZ hown (wi hw 0 rfl) at_290 rfl
          |>.iand at_292 rfl
          |>.goto at_293 (by decide) (by decide)
        exact ⟨_, ⟨fun _ => rfl, fun h => absurd h ce⟩, s321⟩
    have re : 0 ≤ ee.toInt := by
      by_cases h : em = 0
      · rw [ee2 h, add_ti (by omega) (by omega)]; omega
      · rw [ee1 h]; exact (m30 _).1
    have rf : em = 0 → ee.toInt = xb.toInt + g4.toInt := fun h => by rw [ee2 h, add_ti (by omega) (by omega)]
    have s322 : Sit p l e _ s m _ below meth c _ st n0 0 0 _ 303 #[.val (.int u0), .val (.long u1), .second, .val (.int u3), .val (.int u4), .val (.int u5), .val (.int (2 : Int32)), .val (.int xa), .val (.int xb), .val (.int xc), .val (.int g4), .val (.int rA), .val (.int rB), .val (.int (0 : Int32)), .val (.int rv), .val (.int ex), .val (.int nr), .val (.int cs), .val (.int hA), .val (.int hB), .val (.int (0 : Int32)), .val (.int em), .val (.int xb), .val (.int ee), .unset, .unset, .unset, .unset] [] := s319
      |>.istore #[.val (.int u0), .val (.long u1), .second, .val (.int u3), .val (.int u4), .val (.int u5), .val (.int (2 : Int32)), .val (.int xa), .val (.int xb), .val (.int xc), .val (.int g4), .val (.int rA), .val (.int rB), .val (.int (0 : Int32)), .val (.int rv), .val (.int ex), .val (.int nr), .val (.int cs), .val (.int hA), .val (.int hB), .val (.int (0 : Int32)), .val (.int em), .val (.int xb), .val (.int ee), .unset, .unset, .unset, .unset] at_301 rfl rfl
    obtain ⟨o, g_o, s323⟩ := Sit.newo (P' := fun o => fun hh => Exa Z hh o "reenact/trace/IntBits" ∧ Fld Z hh o "reenact/trace/IntBits" "words" "[J" .null ∧ Fld Z hh o "reenact/trace/IntBits" "greatest" "I" (.int (0 : Int32)) ∧ Fld Z hh o "reenact/trace/IntBits" "size" "I" (.int (0 : Int32)) ∧ Fld Z hh o "reenact/trace/IntBits" "base" "I" (.int (0 : Int32)) ∧ Fld Z hh o "reenact/trace/IntBits" "head" "I" (.int (0 : Int32))) s322 hZ hown (wi hw 2 rfl) (wi hw 3 rfl) (wi hw 4 rfl) (by decide) (by decide) (fun hh hh' x q e X D => ⟨D.1, D.2 (Or.inl (wi hw 13 rfl)) (ty := (.array .long)) (by decide), D.2 (Or.inl (wi hw 15 rfl)) (ty := .int) (by decide), D.2 (Or.inl (wi hw 22 rfl)) (ty := .int) (by decide), D.2 (Or.inl (wi hw 24 rfl)) (ty := .int) (by decide), D.2 (Or.inl (wi hw 26 rfl)) (ty := .int) (by decide)⟩) at_303 (pc' := 306) rfl
    have s324 : Sit p l e _ s m _ below meth c _ st n0 1 5 _ 306 #[.val (.int u0), .val (.long u1), .second, .val (.int u3), .val (.int u4), .val (.int u5), .val (.int (2 : Int32)), .val (.int xa), .val (.int xb), .val (.int xc), .val (.int g4), .val (.int rA), .val (.int rB), .val (.int (0 : Int32)), .val (.int rv), .val (.int ex), .val (.int nr), .val (.int cs), .val (.int hA), .val (.int hB), .val (.int (0 : Int32)), .val (.int em), .val (.int xb), .val (.int ee), .unset, .unset, .unset, .unset] [(.ref o)] := s323
    have s325 : Sit p l e _ s m _ below meth c _ st n0 1 5 _ 307 #[.val (.int u0), .val (.long u1), .second, .val (.int u3), .val (.int u4), .val (.int u5), .val (.int (2 : Int32)), .val (.int xa), .val (.int xb), .val (.int xc), .val (.int g4), .val (.int rA), .val (.int rB), .val (.int (0 : Int32)), .val (.int rv), .val (.int ex), .val (.int nr), .val (.int cs), .val (.int hA), .val (.int hB), .val (.int (0 : Int32)), .val (.int em), .val (.int xb), .val (.int ee), .unset, .unset, .unset, .unset] [(.ref o), (.ref o)] := s324
      |>.dup at_306 rfl rfl
    obtain ⟨r327, s326⟩ := Sit.callI (y := (⟨"reenact/trace/IntBits", "<init>", "()V"⟩ : MethodName)) (W := 1) (Q := fun rv_ hh => ∃ v : Addr, (rv_ = none ∧ (n0 ≤ v ∧ @Ne Nat o v)) ∧ (fun hh => Exa Z hh o "reenact/trace/IntBits" ∧ Fld Z hh o "reenact/trace/IntBits" "words" "[J" (.ref v) ∧ Fld Z hh o "reenact/trace/IntBits" "greatest" "I" (.int (-1 : Int32)) ∧ Fld Z hh o "reenact/trace/IntBits" "size" "I" (.int (0 : Int32)) ∧ Fld Z hh o "reenact/trace/IntBits" "base" "I" (.int (0 : Int32)) ∧ Fld Z hh o "reenact/trace/IntBits" "head" "I" (.int (0 : Int32)) ∧ AV Z hh v .long ([0, 0, 0, 0].map Value.long)) hh) [] [(.ref o)] s325 rfl hZ hown (wi hw 5 rfl) (wi hw 6 rfl) (wi hw 7 rfl) (wi hw 4 rfl) (by decide) (fun h1 hP hn => (rmI l Z a0 hw [] o h1 n0 hn g_o hP).mono fun rv_ hh q => by
        obtain ⟨e1, v', e2, e3⟩ := q
        exact ⟨v', ⟨e1, e2⟩, e3⟩) hml rfl (lenOf pd_4 rfl) at_307 (Nat.le_of_eq rfl) (by decide) (by decide) (by decide) (by decide) (pc' := 310) rfl
    obtain ⟨v, s329⟩ := s326.ex
    obtain ⟨_, ⟨er327, spr327⟩, _⟩ := s329.facts
    subst er327
    have s328 : Sit p l e _ s m _ below meth c _ st n0 2 9 (fun hh => Exa Z hh o "reenact/trace/IntBits" ∧ Fld Z hh o "reenact/trace/IntBits" "words" "[J" (.ref v) ∧ Fld Z hh o "reenact/trace/IntBits" "greatest" "I" (.int (-1 : Int32)) ∧ Fld Z hh o "reenact/trace/IntBits" "size" "I" (.int (0 : Int32)) ∧ Fld Z hh o "reenact/trace/IntBits" "base" "I" (.int (0 : Int32)) ∧ Fld Z hh o "reenact/trace/IntBits" "head" "I" (.int (0 : Int32)) ∧ AV Z hh v .long ([0, 0, 0, 0].map Value.long)) 310 #[.val (.int u0), .val (.long u1), .second, .val (.int u3), .val (.int u4), .val (.int u5), .val (.int (2 : Int32)), .val (.int xa), .val (.int xb), .val (.int xc), .val (.int g4), .val (.int rA), .val (.int rB), .val (.int (0 : Int32)), .val (.int rv), .val (.int ex), .val (.int nr), .val (.int cs), .val (.int hA), .val (.int hB), .val (.int (0 : Int32)), .val (.int em), .val (.int xb), .val (.int ee), .unset, .unset, .unset, .unset] [(.ref o)] := s329.mono fun _ q => q.2
    obtain ⟨gv0, ne0⟩ := spr327
    have V0 : Inv [] (0 : Int32).toInt (0 : Int32).toInt (-1 : Int32).toInt [0, 0, 0, 0] := inv0
    have hz0 : (0 : Int32).toInt = (([] : List Int).length : Int) := rfl
    have hl0 : ([0, 0, 0, 0] : List Int64).length ≤ 4 := by decide
    have s330 : Sit p l e _ s m _ below meth c _ st n0 2 9 _ 315 #[.val (.int u0), .val (.long u1), .second, .val (.int u3), .val (.int u4), .val (.int u5), .val (.int (2 : Int32)), .val (.int xa), .val (.int xb), .val (.int xc), .val (.int g4), .val (.int rA), .val (.int rB), .val (.int (0 : Int32)), .val (.int rv), .val (.int ex), .val (.int nr), .val (.int cs), .val (.int hA), .val (.int hB), .val (.int (0 : Int32)), .val (.int em), .val (.int xb), .val (.int ee), .val (.ref o), .unset, .unset, .unset] [(.int (1 : Int32)), (.int (2 : Int32))] := s328
      |>.astore #[.val (.int u0), .val (.long u1), .second, .val (.int u3), .val (.int u4), .val (.int u5), .val (.int (2 : Int32)), .val (.int xa), .val (.int xb), .val (.int xc), .val (.int g4), .val (.int rA), .val (.int rB), .val (.int (0 : Int32)), .val (.int rv), .val (.int ex), .val (.int nr), .val (.int cs), .val (.int hA), .val (.int hB), .val (.int (0 : Int32)), .val (.int em), .val (.int xb), .val (.int ee), .val (.ref o), .unset, .unset, .unset] at_310 rfl rfl
      |>.iload at_312 rfl rfl
      |>.iconst (1 : Int32) at_314 rfl rfl
    have s331 : Sit p l e _ s m _ below meth c _ st n0 2 9 _ 322 #[.val (.int u0), .val (.long u1), .second, .val (.int u3), .val (.int u4), .val (.int u5), .val (.int (2 : Int32)), .val (.int xa), .val (.int xb), .val (.int xc), .val (.int g4), .val (.int rA), .val (.int rB), .val (.int (0 : Int32)), .val (.int rv), .val (.int ex), .val (.int nr), .val (.int cs), .val (.int hA), .val (.int hB), .val (.int (0 : Int32)), .val (.int em), .val (.int xb), .val (.int ee), .val (.ref o), .unset, .unset, .unset] [(.int xa), (.ref o)] := s330
      |>.icmpN at_315 (cmpF (cd := .lt) (show ¬ ((2 : Int) < (1 : Int)) from by decide)) rfl
      |>.aload at_318 rfl rfl
      |>.iload at_320 rfl rfl
    obtain ⟨r334, s333⟩ := Sit.callV (C := "reenact/trace/IntBits") (y := (⟨"reenact/trace/IntBits", "add", "(I)V"⟩ : MethodName)) (W := 0) (Q := fun rv_ hh => ∃ v332 : Addr, ∃ b332 : Int32, ∃ h332 : Int32, ∃ z332 : Int32, ∃ ws332 : List Int64, (rv_ = none ∧ (n0 ≤ v332 ∧ @Ne Nat o v332 ∧ z332.toInt = ((xa.toInt :: []).length : Int) ∧ Inv (xa.toInt :: []) b332.toInt h332.toInt xa.toInt ws332 ∧ ws332.length ≤ 4)) ∧ (fun hh => Exa Z hh o "reenact/trace/IntBits" ∧ Fld Z hh o "reenact/trace/IntBits" "words" "[J" (.ref v332) ∧ Fld Z hh o "reenact/trace/IntBits" "greatest" "I" (.int xa) ∧ Fld Z hh o "reenact/trace/IntBits" "size" "I" (.int z332) ∧ Fld Z hh o "reenact/trace/IntBits" "base" "I" (.int b332) ∧ Fld Z hh o "reenact/trace/IntBits" "head" "I" (.int h332) ∧ AV Z hh v332 .long (ws332.map Value.long)) hh) [(.int xa)] [] s331 hZ hown (wi hw 16 rfl) (wi hw 17 rfl) (wi hw 19 rfl) (wi hw 18 rfl) (wi hw 20 rfl) (wi hw 4 rfl) (by decide) (fun hh q => q.1) (fun h1 hP hn => (rmA l Z a0 hw [] o xa v (0 : Int32) (0 : Int32) (-1 : Int32) (0 : Int32) [0, 0, 0, 0] ([] : List Int) xa.toInt 4 h1 n0 hn g_o gv0 ne0 V0 hz0 (by simp) (show (-1 : Int32).toInt < _ by have e : (-1 : Int32).toInt = -1 := rfl; omega) (by omega) (fun y hy => by simp at hy) (by omega) (by omega) (by decide) hP).mono fun rv_ hh q => by
        obtain ⟨e1, v', b', h', z', ws', e2, e3⟩ := q
        exact ⟨v', b', h', z', ws', ⟨e1, e2⟩, e3⟩) hml rfl (lenOf pd_2 rfl) at_322 (Nat.le_of_eq rfl) (by decide) (by decide) (by decide) (by decide) (pc' := 325) rfl
    obtain ⟨v332, s336⟩ := s333.ex
    obtain ⟨b332, s337⟩ := s336.ex
    obtain ⟨h332, s338⟩ := s337.ex
    obtain ⟨z332, s339⟩ := s338.ex
    obtain ⟨ws332, s340⟩ := s339.ex
    obtain ⟨_, ⟨er334, spr334⟩, _⟩ := s340.facts
    subst er334
    have s335 : Sit p l e _ s m _ below meth c _ st n0 3 13 (fun hh => Exa Z hh o "reenact/trace/IntBits" ∧ Fld Z hh o "reenact/trace/IntBits" "words" "[J" (.ref v332) ∧ Fld Z hh o "reenact/trace/IntBits" "greatest" "I" (.int xa) ∧ Fld Z hh o "reenact/trace/IntBits" "size" "I" (.int z332) ∧ Fld Z hh o "reenact/trace/IntBits" "base" "I" (.int b332) ∧ Fld Z hh o "reenact/trace/IntBits" "head" "I" (.int h332) ∧ AV Z hh v332 .long (ws332.map Value.long)) 325 #[.val (.int u0), .val (.long u1), .second, .val (.int u3), .val (.int u4), .val (.int u5), .val (.int (2 : Int32)), .val (.int xa), .val (.int xb), .val (.int xc), .val (.int g4), .val (.int rA), .val (.int rB), .val (.int (0 : Int32)), .val (.int rv), .val (.int ex), .val (.int nr), .val (.int cs), .val (.int hA), .val (.int hB), .val (.int (0 : Int32)), .val (.int em), .val (.int xb), .val (.int ee), .val (.ref o), .unset, .unset, .unset] [] := s340.mono fun _ q => q.2
    obtain ⟨gv332, ne332, hz332, V332, hl332⟩ := spr334
    have V332 : Inv [xa.toInt] b332.toInt h332.toInt xa.toInt ws332 := V332
    have hz332 : z332.toInt = ([xa.toInt].length : Int) := hz332
    have s341 : Sit p l e _ s m _ below meth c _ st n0 3 13 _ 328 #[.val (.int u0), .val (.long u1), .second, .val (.int u3), .val (.int u4), .val (.int u5), .val (.int (2 : Int32)), .val (.int xa), .val (.int xb), .val (.int xc), .val (.int g4), .val (.int rA), .val (.int rB), .val (.int (0 : Int32)), .val (.int rv), .val (.int ex), .val (.int nr), .val (.int cs), .val (.int hA), .val (.int hB), .val (.int (0 : Int32)), .val (.int em), .val (.int xb), .val (.int ee), .val (.ref o), .unset, .unset, .unset] [(.int (2 : Int32)), (.int (2 : Int32))] := s335
      |>.iload at_325 rfl rfl
      |>.iconst (2 : Int32) at_327 rfl rfl
    have s342 : Sit p l e _ s m _ below meth c _ st n0 3 13 _ 335 #[.val (.int u0), .val (.long u1), .second, .val (.int u3), .val (.int u4), .val (.int u5), .val (.int (2 : Int32)), .val (.int xa), .val (.int xb), .val (.int xc), .val (.int g4), .val (.int rA), .val (.int rB), .val (.int (0 : Int32)), .val (.int rv), .val (.int ex), .val (.int nr), .val (.int cs), .val (.int hA), .val (.int hB), .val (.int (0 : Int32)), .val (.int em), .val (.int xb), .val (.int ee), .val (.ref o), .unset, .unset, .unset] [(.int xb), (.ref o)] := s341
      |>.icmpN at_328 (cmpF (cd := .lt) (show ¬ ((2 : Int) < (2 : Int)) from by decide)) rfl
      |>.aload at_331 rfl rfl
      |>.iload at_333 rfl rfl
    obtain ⟨r345, s344⟩ := Sit.callV (C := "reenact/trace/IntBits") (y := (⟨"reenact/trace/IntBits", "add", "(I)V"⟩ : MethodName)) (W := 0) (Q := fun rv_ hh => ∃ v343 : Addr, ∃ b343 : Int32, ∃ h343 : Int32, ∃ z343 : Int32, ∃ ws343 : List Int64, (rv_ = none ∧ (n0 ≤ v343 ∧ @Ne Nat o v343 ∧ z343.toInt = ((xb.toInt :: [xa.toInt]).length : Int) ∧ Inv (xb.toInt :: [xa.toInt]) b343.toInt h343.toInt xb.toInt ws343 ∧ ws343.length ≤ 132)) ∧ (fun hh => Exa Z hh o "reenact/trace/IntBits" ∧ Fld Z hh o "reenact/trace/IntBits" "words" "[J" (.ref v343) ∧ Fld Z hh o "reenact/trace/IntBits" "greatest" "I" (.int xb) ∧ Fld Z hh o "reenact/trace/IntBits" "size" "I" (.int z343) ∧ Fld Z hh o "reenact/trace/IntBits" "base" "I" (.int b343) ∧ Fld Z hh o "reenact/trace/IntBits" "head" "I" (.int h343) ∧ AV Z hh v343 .long (ws343.map Value.long)) hh) [(.int xb)] [] s342 hZ hown (wi hw 16 rfl) (wi hw 17 rfl) (wi hw 19 rfl) (wi hw 18 rfl) (wi hw 20 rfl) (wi hw 4 rfl) (by decide) (fun hh q => q.1) (fun h1 hP hn => (rmA l Z a0 hw [] o xb v332 b332 h332 xa z332 ws332 [xa.toInt] xa.toInt 132 h1 n0 hn g_o gv332 ne332 V332 hz332 (by simp) (by omega) (by omega) (fun y hy => by simp at hy; omega) (by omega) (by omega) (by decide) hP).mono fun rv_ hh q => by
        obtain ⟨e1, v', b', h', z', ws', e2, e3⟩ := q
        exact ⟨v', b', h', z', ws', ⟨e1, e2⟩, e3⟩) hml rfl (lenOf pd_2 rfl) at_335 (Nat.le_of_eq rfl) (by decide) (by decide) (by decide) (by decide) (pc' := 338) rfl
    obtain ⟨v343, s347⟩ := s344.ex
    obtain ⟨b343, s348⟩ := s347.ex
    obtain ⟨h343, s349⟩ := s348.ex
    obtain ⟨z343, s350⟩ := s349.ex
    obtain ⟨ws343, s351⟩ := s350.ex
    obtain ⟨_, ⟨er345, spr345⟩, _⟩ := s351.facts
    subst er345
    have s346 : Sit p l e _ s m _ below meth c _ st n0 4 145 (fun hh => Exa Z hh o "reenact/trace/IntBits" ∧ Fld Z hh o "reenact/trace/IntBits" "words" "[J" (.ref v343) ∧ Fld Z hh o "reenact/trace/IntBits" "greatest" "I" (.int xb) ∧ Fld Z hh o "reenact/trace/IntBits" "size" "I" (.int z343) ∧ Fld Z hh o "reenact/trace/IntBits" "base" "I" (.int b343) ∧ Fld Z hh o "reenact/trace/IntBits" "head" "I" (.int h343) ∧ AV Z hh v343 .long (ws343.map Value.long)) 338 #[.val (.int u0), .val (.long u1), .second, .val (.int u3), .val (.int u4), .val (.int u5), .val (.int (2 : Int32)), .val (.int xa), .val (.int xb), .val (.int xc), .val (.int g4), .val (.int rA), .val (.int rB), .val (.int (0 : Int32)), .val (.int rv), .val (.int ex), .val (.int nr), .val (.int cs), .val (.int hA), .val (.int hB), .val (.int (0 : Int32)), .val (.int em), .val (.int xb), .val (.int ee), .val (.ref o), .unset, .unset, .unset] [] := s351.mono fun _ q => q.2
    obtain ⟨gv343, ne343, hz343, V343, hl343⟩ := spr345
    have V343 : Inv [xb.toInt, xa.toInt] b343.toInt h343.toInt xb.toInt ws343 := V343
    have hz343 : z343.toInt = ([xb.toInt, xa.toInt].length : Int) := hz343
    have s352 : Sit p l e _ s m _ below meth c _ st n0 4 145 _ 341 #[.val (.int u0), .val (.long u1), .second, .val (.int u3), .val (.int u4), .val (.int u5), .val (.int (2 : Int32)), .val (.int xa), .val (.int xb), .val (.int xc), .val (.int g4), .val (.int rA), .val (.int rB), .val (.int (0 : Int32)), .val (.int rv), .val (.int ex), .val (.int nr), .val (.int cs), .val (.int hA), .val (.int hB), .val (.int (0 : Int32)), .val (.int em), .val (.int xb), .val (.int ee), .val (.ref o), .unset, .unset, .unset] [(.int (3 : Int32)), (.int (2 : Int32))] := s346
      |>.iload at_338 rfl rfl
      |>.iconst (3 : Int32) at_340 rfl rfl
    have s353 : Sit p l e _ s m _ below meth c _ st n0 4 145 _ 353 #[.val (.int u0), .val (.long u1), .second, .val (.int u3), .val (.int u4), .val (.int u5), .val (.int (2 : Int32)), .val (.int xa), .val (.int xb), .val (.int xc), .val (.int g4), .val (.int rA), .val (.int rB), .val (.int (0 : Int32)), .val (.int rv), .val (.int ex), .val (.int nr), .val (.int cs), .val (.int hA), .val (.int hB), .val (.int (0 : Int32)), .val (.int em), .val (.int xb), .val (.int ee), .val (.ref o), .unset, .unset, .unset] [(.int rv)] := s352
      |>.icmpY at_341 (cmpT (cd := .lt) (show (2 : Int) < (3 : Int) from by decide)) (by decide) (by decide)
      |>.iload at_351 rfl rfl
    by_cases crv : rv = 0
    · have s354 : Sit p l e _ s m _ below meth c _ st n0 4 145 _ 397 #[.val (.int u0), .val (.long u1), .second, .val (.int u3), .val (.int u4), .val (.int u5), .val (.int (2 : Int32)), .val (.int xa), .val (.int xb), .val (.int xc), .val (.int g4), .val (.int rA), .val (.int rB), .val (.int (0 : Int32)), .val (.int rv), .val (.int ex), .val (.int nr), .val (.int cs), .val (.int hA), .val (.int hB), .val (.int (0 : Int32)), .val (.int em), .val (.int xb), .val (.int ee), .val (.ref o), .unset, .unset, .unset] [(.int rA)] := s353
        |>.ifY at_353 (eqT crv) (by decide) (by decide)
        |>.iload at_395 rfl rfl
      by_cases k_xa : rA = 0
      · have s355 : Sit p l e _ s m _ below meth c _ st n0 4 145 _ 409 #[.val (.int u0), .val (.long u1), .second, .val (.int u3), .val (.int u4), .val (.int u5), .val (.int (2 : Int32)), .val (.int xa), .val (.int xb), .val (.int xc), .val (.int g4), .val (.int rA), .val (.int rB), .val (.int (0 : Int32)), .val (.int rv), .val (.int ex), .val (.int nr), .val (.int cs), .val (.int hA), .val (.int hB), .val (.int (0 : Int32)), .val (.int em), .val (.int xb), .val (.int ee), .val (.ref o), .unset, .unset, .unset] [(.int rB)] := s354
          |>.ifY at_397 (eqT k_xa) (by decide) (by decide)
          |>.iload at_407 rfl rfl
        by_cases k_xb : rB = 0
        · have s356 : Sit p l e _ s m _ below meth c _ st n0 4 145 _ 421 #[.val (.int u0), .val (.long u1), .second, .val (.int u3), .val (.int u4), .val (.int u5), .val (.int (2 : Int32)), .val (.int xa), .val (.int xb), .val (.int xc), .val (.int g4), .val (.int rA), .val (.int rB), .val (.int (0 : Int32)), .val (.int rv), .val (.int ex), .val (.int nr), .val (.int cs), .val (.int hA), .val (.int hB), .val (.int (0 : Int32)), .val (.int em), .val (.int xb), .val (.int ee), .val (.ref o), .unset, .unset, .unset] [(.int (0 : Int32))] := s355
            |>.ifY at_409 (eqT k_xb) (by decide) (by decide)
            |>.iload at_419 rfl rfl
          have s357 : Sit p l e _ s m _ below meth c _ st n0 4 145 _ 431 #[.val (.int u0), .val (.long u1), .second, .val (.int u3), .val (.int u4), .val (.int u5), .val (.int (2 : Int32)), .val (.int xa), .val (.int xb), .val (.int xc), .val (.int g4), .val (.int rA), .val (.int rB), .val (.int (0 : Int32)), .val (.int rv), .val (.int ex), .val (.int nr), .val (.int cs), .val (.int hA), .val (.int hB), .val (.int (0 : Int32)), .val (.int em), .val (.int xb), .val (.int ee), .val (.ref o), .unset, .unset, .unset] [] := s356
            |>.ifY at_421 (eqT (show (0 : Int32) = 0 from by decide)) (by decide) (by decide)
          have kx : hA = 1 := e_hA.elim (fun h => h.1) (fun h => absurd k_xa h.2)
          have ekk : em = 0 := e_em.elim (fun h => absurd (kx.symm.trans h.2.1) (by decide)) (fun h => h.1)
          have khA : hA = 1 := e_hA.elim (fun h => h.1) (fun h => absurd k_xa h.2)
          have khB : hB = 1 := e_hB.elim (fun h => h.1) (fun h => absurd k_xb h.2)
          have hgt : xb.toInt < ee.toInt := by
            have := rf ekk; omega
          have mem0 : ∀ y : Int32, y.toInt ∈ [xb.toInt, xa.toInt] ↔ ((¬ hA = 0 ∧ y = xa) ∨ (¬ hB = 0 ∧ y = xb) ∨ (¬ (0 : Int32) = 0 ∧ y = xc)) := fun y => by
            have d1 : ¬ (1 : Int32) = 0 := by decide
            rw [khA]
            rw [khB]
            simp only [List.mem_cons, List.not_mem_nil, or_false, false_or, Int32.toInt_inj, d1, not_true_eq_false, not_false_eq_true, true_and, false_and]
            exact Or.comm
          exact tail (2 : Int32) rA rB (0 : Int32) rv ex nr cs hA hB (0 : Int32) em xb ee o v343 b343 h343 xb z343 ws343 [xb.toInt, xa.toInt] g_o gv343 ne343 V343 hz343 (by simp only [List.length_cons, List.length_nil]; omega) (by omega) mem0 (fun y hy => by simp at hy; omega) e_ex hgt re (Or.inr (by have := rf ekk; omega)) (s357.bound (cells' := 12) (slots' := 560) (by decide) (by decide))
        · have s358 : Sit p l e _ s m _ below meth c _ st n0 4 145 _ 416 #[.val (.int u0), .val (.long u1), .second, .val (.int u3), .val (.int u4), .val (.int u5), .val (.int (2 : Int32)), .val (.int xa), .val (.int xb), .val (.int xc), .val (.int g4), .val (.int rA), .val (.int rB), .val (.int (0 : Int32)), .val (.int rv), .val (.int ex), .val (.int nr), .val (.int cs), .val (.int hA), .val (.int hB), .val (.int (0 : Int32)), .val (.int em), .val (.int xb), .val (.int ee), .val (.ref o), .unset, .unset, .unset] [(.int xb), (.ref o)] := s355
            |>.ifN at_409 (eqF k_xb) rfl
            |>.aload at_412 rfl rfl
            |>.iload at_414 rfl rfl
          have er359 : [xb.toInt, xa.toInt].erase xb.toInt = [xa.toInt] := by rw [er_hd]
          obtain ⟨r361, s360⟩ := Sit.callV (C := "reenact/trace/IntBits") (y := (⟨"reenact/trace/IntBits", "remove", "(I)V"⟩ : MethodName)) (W := 0) (Q := fun rv_ hh => ∃ v359 : Addr, ∃ b359 : Int32, ∃ h359 : Int32, ∃ g359 : Int32, ∃ z359 : Int32, ∃ ws359 : List Int64, (rv_ = none ∧ (n0 ≤ v359 ∧ @Ne Nat o v359 ∧ z359.toInt = ([xa.toInt].length : Int) ∧ Inv [xa.toInt] b359.toInt h359.toInt g359.toInt ws359 ∧ (ws359.length ≤ ws343.length ∨ ws359.length ≤ 4) ∧ ([xa.toInt] ≠ [] → g359 = xb))) ∧ (fun hh => Exa Z hh o "reenact/trace/IntBits" ∧ Fld Z hh o "reenact/trace/IntBits" "words" "[J" (.ref v359) ∧ Fld Z hh o "reenact/trace/IntBits" "greatest" "I" (.int g359) ∧ Fld Z hh o "reenact/trace/IntBits" "size" "I" (.int z359) ∧ Fld Z hh o "reenact/trace/IntBits" "base" "I" (.int b359) ∧ Fld Z hh o "reenact/trace/IntBits" "head" "I" (.int h359) ∧ AV Z hh v359 .long (ws359.map Value.long)) hh) [(.int xb)] [] s358 hZ hown (wi hw 32 rfl) (wi hw 33 rfl) (wi hw 35 rfl) (wi hw 34 rfl) (wi hw 36 rfl) (wi hw 4 rfl) (by decide) (fun hh q => q.1) (fun h1 hP hn => (rmR l Z a0 hw [] o xb v343 b343 h343 xb z343 ws343 [xb.toInt, xa.toInt] 4 h1 n0 hn g_o gv343 ne343 V343 hz343 (by simp) (by simp) (by rw [er359]; exact Or.inl ⟨xa.toInt, by simp, fun z hz => by simp at hz; omega⟩) (by omega) (by decide) hP).mono fun rv_ hh q => by
              rw [er359] at q
              obtain ⟨e1, v', b', h', g', z', ws', e2, e3⟩ := q
              exact ⟨v', b', h', g', z', ws', ⟨e1, e2⟩, e3⟩) hml rfl (lenOf pd_2 rfl) at_416 (Nat.le_of_eq rfl) (by decide) (by decide) (by decide) (by decide) (pc' := 419) rfl
          obtain ⟨v359, s363⟩ := s360.ex
          obtain ⟨b359, s364⟩ := s363.ex
          obtain ⟨h359, s365⟩ := s364.ex
          obtain ⟨g359, s366⟩ := s365.ex
          obtain ⟨z359, s367⟩ := s366.ex
          obtain ⟨ws359, s368⟩ := s367.ex
          obtain ⟨_, ⟨er361, spr361⟩, _⟩ := s368.facts
          subst er361
          have s362 : Sit p l e _ s m _ below meth c _ st n0 5 149 (fun hh => Exa Z hh o "reenact/trace/IntBits" ∧ Fld Z hh o "reenact/trace/IntBits" "words" "[J" (.ref v359) ∧ Fld Z hh o "reenact/trace/IntBits" "greatest" "I" (.int g359) ∧ Fld Z hh o "reenact/trace/IntBits" "size" "I" (.int z359) ∧ Fld Z hh o "reenact/trace/IntBits" "base" "I" (.int b359) ∧ Fld Z hh o "reenact/trace/IntBits" "head" "I" (.int h359) ∧ AV Z hh v359 .long (ws359.map Value.long)) 419 #[.val (.int u0), .val (.long u1), .second, .val (.int u3), .val (.int u4), .val (.int u5), .val (.int (2 : Int32)), .val (.int xa), .val (.int xb), .val (.int xc), .val (.int g4), .val (.int rA), .val (.int rB), .val (.int (0 : Int32)), .val (.int rv), .val (.int ex), .val (.int nr), .val (.int cs), .val (.int hA), .val (.int hB), .val (.int (0 : Int32)), .val (.int em), .val (.int xb), .val (.int ee), .val (.ref o), .unset, .unset, .unset] [] := s368.mono fun _ q => q.2
          obtain ⟨gv359, ne359, hz359, V359, hl359, hg359⟩ := spr361
          have s369 : Sit p l e _ s m _ below meth c _ st n0 5 149 _ 421 #[.val (.int u0), .val (.long u1), .second, .val (.int u3), .val (.int u4), .val (.int u5), .val (.int (2 : Int32)), .val (.int xa), .val (.int xb), .val (.int xc), .val (.int g4), .val (.int rA), .val (.int rB), .val (.int (0 : Int32)), .val (.int rv), .val (.int ex), .val (.int nr), .val (.int cs), .val (.int hA), .val (.int hB), .val (.int (0 : Int32)), .val (.int em), .val (.int xb), .val (.int ee), .val (.ref o), .unset, .unset, .unset] [(.int (0 : Int32))] := s362
            |>.iload at_419 rfl rfl
          have s370 : Sit p l e _ s m _ below meth c _ st n0 5 149 _ 431 #[.val (.int u0), .val (.long u1), .second, .val (.int u3), .val (.int u4), .val (.int u5), .val (.int (2 : Int32)), .val (.int xa), .val (.int xb), .val (.int xc), .val (.int g4), .val (.int rA), .val (.int rB), .val (.int (0 : Int32)), .val (.int rv), .val (.int ex), .val (.int nr), .val (.int cs), .val (.int hA), .val (.int hB), .val (.int (0 : Int32)), .val (.int em), .val (.int xb), .val (.int ee), .val (.ref o), .unset, .unset, .unset] [] := s369
            |>.ifY at_421 (eqT (show (0 : Int32) = 0 from by decide)) (by decide) (by decide)
          have kx : hA = 1 := e_hA.elim (fun h => h.1) (fun h => absurd k_xa h.2)
          have ekk : em = 0 := e_em.elim (fun h => absurd (kx.symm.trans h.2.1) (by decide)) (fun h => h.1)
          have khA : hA = 1 := e_hA.elim (fun h => h.1) (fun h => absurd k_xa h.2)
          have khB : hB = 0 := e_hB.elim (fun h => absurd h.2 k_xb) (fun h => h.1)
          have hgt : g359.toInt < ee.toInt := by
            rw [hg359 (by simp)]; have := rf ekk; omega
          have mem0 : ∀ y : Int32, y.toInt ∈ [xa.toInt] ↔ ((¬ hA = 0 ∧ y = xa) ∨ (¬ hB = 0 ∧ y = xb) ∨ (¬ (0 : Int32) = 0 ∧ y = xc)) := fun y => by
            have d1 : ¬ (1 : Int32) = 0 := by decide
            rw [khA]
            rw [khB]
            simp only [List.mem_cons, List.not_mem_nil, or_false, false_or, Int32.toInt_inj, d1, not_true_eq_false, not_false_eq_true, true_and, false_and]
          exact tail (2 : Int32) rA rB (0 : Int32) rv ex nr cs hA hB (0 : Int32) em xb ee o v359 b359 h359 g359 z359 ws359 [xa.toInt] g_o gv359 ne359 V359 hz359 (by simp only [List.length_cons, List.length_nil]; omega) (by omega) mem0 (fun y hy => by simp at hy; omega) e_ex hgt re (Or.inr (by have := rf ekk; omega)) (s370.bound (cells' := 12) (slots' := 560) (by decide) (by decide))
      · have s371 : Sit p l e _ s m _ below meth c _ st n0 4 145 _ 404 #[.val (.int u0), .val (.long u1), .second, .val (.int u3), .val (.int u4), .val (.int u5), .val (.int (2 : Int32)), .val (.int xa), .val (.int xb), .val (.int xc), .val (.int g4), .val (.int rA), .val (.int rB), .val (.int (0 : Int32)), .val (.int rv), .val (.int ex), .val (.int nr), .val (.int cs), .val (.int hA), .val (.int hB), .val (.int (0 : Int32)), .val (.int em), .val (.int xb), .val (.int ee), .val (.ref o), .unset, .unset, .unset] [(.int xa), (.ref o)] := s354
          |>.ifN at_397 (eqF k_xa) rfl
          |>.aload at_400 rfl rfl
          |>.iload at_402 rfl rfl
        have er372 : [xb.toInt, xa.toInt].erase xa.toInt = [xb.toInt] := by rw [er_tl _ (by omega), er_hd]
        obtain ⟨r374, s373⟩ := Sit.callV (C := "reenact/trace/IntBits") (y := (⟨"reenact/trace/IntBits", "remove", "(I)V"⟩ : MethodName)) (W := 0) (Q := fun rv_ hh => ∃ v372 : Addr, ∃ b372 : Int32, ∃ h372 : Int32, ∃ g372 : Int32, ∃ z372 : Int32, ∃ ws372 : List Int64, (rv_ = none ∧ (n0 ≤ v372 ∧ @Ne Nat o v372 ∧ z372.toInt = ([xb.toInt].length : Int) ∧ Inv [xb.toInt] b372.toInt h372.toInt g372.toInt ws372 ∧ (ws372.length ≤ ws343.length ∨ ws372.length ≤ 132) ∧ ([xb.toInt] ≠ [] → g372 = xb))) ∧ (fun hh => Exa Z hh o "reenact/trace/IntBits" ∧ Fld Z hh o "reenact/trace/IntBits" "words" "[J" (.ref v372) ∧ Fld Z hh o "reenact/trace/IntBits" "greatest" "I" (.int g372) ∧ Fld Z hh o "reenact/trace/IntBits" "size" "I" (.int z372) ∧ Fld Z hh o "reenact/trace/IntBits" "base" "I" (.int b372) ∧ Fld Z hh o "reenact/trace/IntBits" "head" "I" (.int h372) ∧ AV Z hh v372 .long (ws372.map Value.long)) hh) [(.int xa)] [] s371 hZ hown (wi hw 32 rfl) (wi hw 33 rfl) (wi hw 35 rfl) (wi hw 34 rfl) (wi hw 36 rfl) (wi hw 4 rfl) (by decide) (fun hh q => q.1) (fun h1 hP hn => (rmR l Z a0 hw [] o xa v343 b343 h343 xb z343 ws343 [xb.toInt, xa.toInt] 132 h1 n0 hn g_o gv343 ne343 V343 hz343 (by simp) (by simp) (by rw [er372]; exact Or.inr ⟨by decide, fun y hy => by simp at hy; omega⟩) (by omega) (by decide) hP).mono fun rv_ hh q => by
            rw [er372] at q
            obtain ⟨e1, v', b', h', g', z', ws', e2, e3⟩ := q
            exact ⟨v', b', h', g', z', ws', ⟨e1, e2⟩, e3⟩) hml rfl (lenOf pd_2 rfl) at_404 (Nat.le_of_eq rfl) (by decide) (by decide) (by decide) (by decide) (pc' := 407) rfl
        obtain ⟨v372, s376⟩ := s373.ex
        obtain ⟨b372, s377⟩ := s376.ex
        obtain ⟨h372, s378⟩ := s377.ex
        obtain ⟨g372, s379⟩ := s378.ex
        obtain ⟨z372, s380⟩ := s379.ex
        obtain ⟨ws372, s381⟩ := s380.ex
        obtain ⟨_, ⟨er374, spr374⟩, _⟩ := s381.facts
        subst er374
        have s375 : Sit p l e _ s m _ below meth c _ st n0 5 277 (fun hh => Exa Z hh o "reenact/trace/IntBits" ∧ Fld Z hh o "reenact/trace/IntBits" "words" "[J" (.ref v372) ∧ Fld Z hh o "reenact/trace/IntBits" "greatest" "I" (.int g372) ∧ Fld Z hh o "reenact/trace/IntBits" "size" "I" (.int z372) ∧ Fld Z hh o "reenact/trace/IntBits" "base" "I" (.int b372) ∧ Fld Z hh o "reenact/trace/IntBits" "head" "I" (.int h372) ∧ AV Z hh v372 .long (ws372.map Value.long)) 407 #[.val (.int u0), .val (.long u1), .second, .val (.int u3), .val (.int u4), .val (.int u5), .val (.int (2 : Int32)), .val (.int xa), .val (.int xb), .val (.int xc), .val (.int g4), .val (.int rA), .val (.int rB), .val (.int (0 : Int32)), .val (.int rv), .val (.int ex), .val (.int nr), .val (.int cs), .val (.int hA), .val (.int hB), .val (.int (0 : Int32)), .val (.int em), .val (.int xb), .val (.int ee), .val (.ref o), .unset, .unset, .unset] [] := s381.mono fun _ q => q.2
        obtain ⟨gv372, ne372, hz372, V372, hl372, hg372⟩ := spr374
        have s382 : Sit p l e _ s m _ below meth c _ st n0 5 277 _ 409 #[.val (.int u0), .val (.long u1), .second, .val (.int u3), .val (.int u4), .val (.int u5), .val (.int (2 : Int32)), .val (.int xa), .val (.int xb), .val (.int xc), .val (.int g4), .val (.int rA), .val (.int rB), .val (.int (0 : Int32)), .val (.int rv), .val (.int ex), .val (.int nr), .val (.int cs), .val (.int hA), .val (.int hB), .val (.int (0 : Int32)), .val (.int em), .val (.int xb), .val (.int ee), .val (.ref o), .unset, .unset, .unset] [(.int rB)] := s375
          |>.iload at_407 rfl rfl
        by_cases k_xb : rB = 0
        · have s383 : Sit p l e _ s m _ below meth c _ st n0 5 277 _ 421 #[.val (.int u0), .val (.long u1), .second, .val (.int u3), .val (.int u4), .val (.int u5), .val (.int (2 : Int32)), .val (.int xa), .val (.int xb), .val (.int xc), .val (.int g4), .val (.int rA), .val (.int rB), .val (.int (0 : Int32)), .val (.int rv), .val (.int ex), .val (.int nr), .val (.int cs), .val (.int hA), .val (.int hB), .val (.int (0 : Int32)), .val (.int em), .val (.int xb), .val (.int ee), .val (.ref o), .unset, .unset, .unset] [(.int (0 : Int32))] := s382
            |>.ifY at_409 (eqT k_xb) (by decide) (by decide)
            |>.iload at_419 rfl rfl
          have s384 : Sit p l e _ s m _ below meth c _ st n0 5 277 _ 431 #[.val (.int u0), .val (.long u1), .second, .val (.int u3), .val (.int u4), .val (.int u5), .val (.int (2 : Int32)), .val (.int xa), .val (.int xb), .val (.int xc), .val (.int g4), .val (.int rA), .val (.int rB), .val (.int (0 : Int32)), .val (.int rv), .val (.int ex), .val (.int nr), .val (.int cs), .val (.int hA), .val (.int hB), .val (.int (0 : Int32)), .val (.int em), .val (.int xb), .val (.int ee), .val (.ref o), .unset, .unset, .unset] [] := s383
            |>.ifY at_421 (eqT (show (0 : Int32) = 0 from by decide)) (by decide) (by decide)
          have kx : hB = 1 := e_hB.elim (fun h => h.1) (fun h => absurd k_xb h.2)
          have ekk : em = 0 := e_em.elim (fun h => absurd (kx.symm.trans h.2.2) (by decide)) (fun h => h.1)
          have khA : hA = 0 := e_hA.elim (fun h => absurd h.2 k_xa) (fun h => h.1)
          have khB : hB = 1 := e_hB.elim (fun h => h.1) (fun h => absurd k_xb h.2)
          have hgt : g372.toInt < ee.toInt := by
            rw [hg372 (by simp)]; have := rf ekk; omega
          have mem0 : ∀ y : Int32, y.toInt ∈ [xb.toInt] ↔ ((¬ hA = 0 ∧ y = xa) ∨ (¬ hB = 0 ∧ y = xb) ∨ (¬ (0 : Int32) = 0 ∧ y = xc)) := fun y => by
            have d1 : ¬ (1 : Int32) = 0 := by decide
            rw [khA]
            rw [khB]
            simp only [List.mem_cons, List.not_mem_nil, or_false, false_or, Int32.toInt_inj, d1, not_true_eq_false, not_false_eq_true, true_and, false_and]
          exact tail (2 : Int32) rA rB (0 : Int32) rv ex nr cs hA hB (0 : Int32) em xb ee o v372 b372 h372 g372 z372 ws372 [xb.toInt] g_o gv372 ne372 V372 hz372 (by simp only [List.length_cons, List.length_nil]; omega) (by omega) mem0 (fun y hy => by simp at hy; omega) e_ex hgt re (Or.inr (by have := rf ekk; omega)) (s384.bound (cells' := 12) (slots' := 560) (by decide) (by decide))
        · have s385 : Sit p l e _ s m _ below meth c _ st n0 5 277 _ 416 #[.val (.int u0), .val (.long u1), .second, .val (.int u3), .val (.int u4), .val (.int u5), .val (.int (2 : Int32)), .val (.int xa), .val (.int xb), .val (.int xc), .val (.int g4), .val (.int rA), .val (.int rB), .val (.int (0 : Int32)), .val (.int rv), .val (.int ex), .val (.int nr), .val (.int cs), .val (.int hA), .val (.int hB), .val (.int (0 : Int32)), .val (.int em), .val (.int xb), .val (.int ee), .val (.ref o), .unset, .unset, .unset] [(.int xb), (.ref o)] := s382
            |>.ifN at_409 (eqF k_xb) rfl
            |>.aload at_412 rfl rfl
            |>.iload at_414 rfl rfl
          have er386 : [xb.toInt].erase xb.toInt = [] := by rw [er_hd]
          obtain ⟨r388, s387⟩ := Sit.callV (C := "reenact/trace/IntBits") (y := (⟨"reenact/trace/IntBits", "remove", "(I)V"⟩ : MethodName)) (W := 0) (Q := fun rv_ hh => ∃ v386 : Addr, ∃ b386 : Int32, ∃ h386 : Int32, ∃ g386 : Int32, ∃ z386 : Int32, ∃ ws386 : List Int64, (rv_ = none ∧ (n0 ≤ v386 ∧ @Ne Nat o v386 ∧ z386.toInt = (([] : List Int).length : Int) ∧ Inv [] b386.toInt h386.toInt g386.toInt ws386 ∧ (ws386.length ≤ ws372.length ∨ ws386.length ≤ 4) ∧ (([] : List Int) ≠ [] → g386 = g372))) ∧ (fun hh => Exa Z hh o "reenact/trace/IntBits" ∧ Fld Z hh o "reenact/trace/IntBits" "words" "[J" (.ref v386) ∧ Fld Z hh o "reenact/trace/IntBits" "greatest" "I" (.int g386) ∧ Fld Z hh o "reenact/trace/IntBits" "size" "I" (.int z386) ∧ Fld Z hh o "reenact/trace/IntBits" "base" "I" (.int b386) ∧ Fld Z hh o "reenact/trace/IntBits" "head" "I" (.int h386) ∧ AV Z hh v386 .long (ws386.map Value.long)) hh) [(.int xb)] [] s385 hZ hown (wi hw 32 rfl) (wi hw 33 rfl) (wi hw 35 rfl) (wi hw 34 rfl) (wi hw 36 rfl) (wi hw 4 rfl) (by decide) (fun hh q => q.1) (fun h1 hP hn => (rmR l Z a0 hw [] o xb v372 b372 h372 g372 z372 ws372 [xb.toInt] 4 h1 n0 hn g_o gv372 ne372 V372 hz372 (by simp) (by simp) (by rw [er386]; exact Or.inr ⟨by decide, fun y hy => by simp at hy⟩) (by omega) (by decide) hP).mono fun rv_ hh q => by
              rw [er386] at q
              obtain ⟨e1, v', b', h', g', z', ws', e2, e3⟩ := q
              exact ⟨v', b', h', g', z', ws', ⟨e1, e2⟩, e3⟩) hml rfl (lenOf pd_2 rfl) at_416 (Nat.le_of_eq rfl) (by decide) (by decide) (by decide) (by decide) (pc' := 419) rfl
          obtain ⟨v386, s390⟩ := s387.ex
          obtain ⟨b386, s391⟩ := s390.ex
          obtain ⟨h386, s392⟩ := s391.ex
          obtain ⟨g386, s393⟩ := s392.ex
          obtain ⟨z386, s394⟩ := s393.ex
          obtain ⟨ws386, s395⟩ := s394.ex
          obtain ⟨_, ⟨er388, spr388⟩, _⟩ := s395.facts
          subst er388
          have s389 : Sit p l e _ s m _ below meth c _ st n0 6 281 (fun hh => Exa Z hh o "reenact/trace/IntBits" ∧ Fld Z hh o "reenact/trace/IntBits" "words" "[J" (.ref v386) ∧ Fld Z hh o "reenact/trace/IntBits" "greatest" "I" (.int g386) ∧ Fld Z hh o "reenact/trace/IntBits" "size" "I" (.int z386) ∧ Fld Z hh o "reenact/trace/IntBits" "base" "I" (.int b386) ∧ Fld Z hh o "reenact/trace/IntBits" "head" "I" (.int h386) ∧ AV Z hh v386 .long (ws386.map Value.long)) 419 #[.val (.int u0), .val (.long u1), .second, .val (.int u3), .val (.int u4), .val (.int u5), .val (.int (2 : Int32)), .val (.int xa), .val (.int xb), .val (.int xc), .val (.int g4), .val (.int rA), .val (.int rB), .val (.int (0 : Int32)), .val (.int rv), .val (.int ex), .val (.int nr), .val (.int cs), .val (.int hA), .val (.int hB), .val (.int (0 : Int32)), .val (.int em), .val (.int xb), .val (.int ee), .val (.ref o), .unset, .unset, .unset] [] := s395.mono fun _ q => q.2
          obtain ⟨gv386, ne386, hz386, V386, hl386, hg386⟩ := spr388
          have s396 : Sit p l e _ s m _ below meth c _ st n0 6 281 _ 421 #[.val (.int u0), .val (.long u1), .second, .val (.int u3), .val (.int u4), .val (.int u5), .val (.int (2 : Int32)), .val (.int xa), .val (.int xb), .val (.int xc), .val (.int g4), .val (.int rA), .val (.int rB), .val (.int (0 : Int32)), .val (.int rv), .val (.int ex), .val (.int nr), .val (.int cs), .val (.int hA), .val (.int hB), .val (.int (0 : Int32)), .val (.int em), .val (.int xb), .val (.int ee), .val (.ref o), .unset, .unset, .unset] [(.int (0 : Int32))] := s389
            |>.iload at_419 rfl rfl
          have s397 : Sit p l e _ s m _ below meth c _ st n0 6 281 _ 431 #[.val (.int u0), .val (.long u1), .second, .val (.int u3), .val (.int u4), .val (.int u5), .val (.int (2 : Int32)), .val (.int xa), .val (.int xb), .val (.int xc), .val (.int g4), .val (.int rA), .val (.int rB), .val (.int (0 : Int32)), .val (.int rv), .val (.int ex), .val (.int nr), .val (.int cs), .val (.int hA), .val (.int hB), .val (.int (0 : Int32)), .val (.int em), .val (.int xb), .val (.int ee), .val (.ref o), .unset, .unset, .unset] [] := s396
            |>.ifY at_421 (eqT (show (0 : Int32) = 0 from by decide)) (by decide) (by decide)
          have khA : hA = 0 := e_hA.elim (fun h => absurd h.2 k_xa) (fun h => h.1)
          have khB : hB = 0 := e_hB.elim (fun h => absurd h.2 k_xb) (fun h => h.1)
          have hgt : g386.toInt < ee.toInt := by
            have e := (V386).2.2.2.2.2.2.1 rfl; omega
          have mem0 : ∀ y : Int32, y.toInt ∈ ([] : List Int) ↔ ((¬ hA = 0 ∧ y = xa) ∨ (¬ hB = 0 ∧ y = xb) ∨ (¬ (0 : Int32) = 0 ∧ y = xc)) := fun y => by
            have d1 : ¬ (1 : Int32) = 0 := by decide
            rw [khA]
            rw [khB]
            simp only [List.mem_cons, List.not_mem_nil, or_false, false_or, Int32.toInt_inj, d1, not_true_eq_false, not_false_eq_true, true_and, false_and]
          exact tail (2 : Int32) rA rB (0 : Int32) rv ex nr cs hA hB (0 : Int32) em xb ee o v386 b386 h386 g386 z386 ws386 ([] : List Int) g_o gv386 ne386 V386 hz386 (by simp only [List.length_cons, List.length_nil]; omega) (by omega) mem0 (fun y hy => by simp at hy) e_ex hgt re (Or.inl rfl) (s397.bound (cells' := 12) (slots' := 560) (by decide) (by decide))
    · have s398 : Sit p l e _ s m _ below meth c _ st n0 4 145 _ 358 #[.val (.int u0), .val (.long u1), .second, .val (.int u3), .val (.int u4), .val (.int u5), .val (.int (2 : Int32)), .val (.int xa), .val (.int xb), .val (.int xc), .val (.int g4), .val (.int rA), .val (.int rB), .val (.int (0 : Int32)), .val (.int rv), .val (.int ex), .val (.int nr), .val (.int cs), .val (.int hA), .val (.int hB), .val (.int (0 : Int32)), .val (.int em), .val (.int xb), .val (.int ee), .val (.ref o), .unset, .unset, .unset] [(.int (0 : Int32))] := s353
        |>.ifN at_353 (eqF crv) rfl
        |>.iload at_356 rfl rfl
      have s399 : Sit p l e _ s m _ below meth c _ st n0 4 145 _ 370 #[.val (.int u0), .val (.long u1), .second, .val (.int u3), .val (.int u4), .val (.int u5), .val (.int (2 : Int32)), .val (.int xa), .val (.int xb), .val (.int xc), .val (.int g4), .val (.int rA), .val (.int rB), .val (.int (0 : Int32)), .val (.int rv), .val (.int ex), .val (.int nr), .val (.int cs), .val (.int hA), .val (.int hB), .val (.int (0 : Int32)), .val (.int em), .val (.int xb), .val (.int ee), .val (.ref o), .unset, .unset, .unset] [(.int rB)] := s398
        |>.ifY at_358 (eqT (show (0 : Int32) = 0 from by decide)) (by decide) (by decide)
        |>.iload at_368 rfl rfl
      by_cases k_xb : rB = 0
      · have s400 : Sit p l e _ s m _ below meth c _ st n0 4 145 _ 382 #[.val (.int u0), .val (.long u1), .second, .val (.int u3), .val (.int u4), .val (.int u5), .val (.int (2 : Int32)), .val (.int xa), .val (.int xb), .val (.int xc), .val (.int g4), .val (.int rA), .val (.int rB), .val (.int (0 : Int32)), .val (.int rv), .val (.int ex), .val (.int nr), .val (.int cs), .val (.int hA), .val (.int hB), .val (.int (0 : Int32)), .val (.int em), .val (.int xb), .val (.int ee), .val (.ref o), .unset, .unset, .unset] [(.int rA)] := s399
          |>.ifY at_370 (eqT k_xb) (by decide) (by decide)
          |>.iload at_380 rfl rfl
        by_cases k_xa : rA = 0
        · have s401 : Sit p l e _ s m _ below meth c _ st n0 4 145 _ 431 #[.val (.int u0), .val (.long u1), .second, .val (.int u3), .val (.int u4), .val (.int u5), .val (.int (2 : Int32)), .val (.int xa), .val (.int xb), .val (.int xc), .val (.int g4), .val (.int rA), .val (.int rB), .val (.int (0 : Int32)), .val (.int rv), .val (.int ex), .val (.int nr), .val (.int cs), .val (.int hA), .val (.int hB), .val (.int (0 : Int32)), .val (.int em), .val (.int xb), .val (.int ee), .val (.ref o), .unset, .unset, .unset] [] := s400
            |>.ifY at_382 (eqT k_xa) (by decide) (by decide)
          have kx : hA = 1 := e_hA.elim (fun h => h.1) (fun h => absurd k_xa h.2)
          have ekk : em = 0 := e_em.elim (fun h => absurd (kx.symm.trans h.2.1) (by decide)) (fun h => h.1)
          have khA : hA = 1 := e_hA.elim (fun h => h.1) (fun h => absurd k_xa h.2)
          have khB : hB = 1 := e_hB.elim (fun h => h.1) (fun h => absurd k_xb h.2)
          have hgt : xb.toInt < ee.toInt := by
            have := rf ekk; omega
          have mem0 : ∀ y : Int32, y.toInt ∈ [xb.toInt, xa.toInt] ↔ ((¬ hA = 0 ∧ y = xa) ∨ (¬ hB = 0 ∧ y = xb) ∨ (¬ (0 : Int32) = 0 ∧ y = xc)) := fun y => by
            have d1 : ¬ (1 : Int32) = 0 := by decide
            rw [khA]
            rw [khB]
            simp only [List.mem_cons, List.not_mem_nil, or_false, false_or, Int32.toInt_inj, d1, not_true_eq_false, not_false_eq_true, true_and, false_and]
            exact Or.comm
          exact tail (2 : Int32) rA rB (0 : Int32) rv ex nr cs hA hB (0 : Int32) em xb ee o v343 b343 h343 xb z343 ws343 [xb.toInt, xa.toInt] g_o gv343 ne343 V343 hz343 (by simp only [List.length_cons, List.length_nil]; omega) (by omega) mem0 (fun y hy => by simp at hy; omega) e_ex hgt re (Or.inr (by have := rf ekk; omega)) (s401.bound (cells' := 12) (slots' := 560) (by decide) (by decide))
        · have s402 : Sit p l e _ s m _ below meth c _ st n0 4 145 _ 389 #[.val (.int u0), .val (.long u1), .second, .val (.int u3), .val (.int u4), .val (.int u5), .val (.int (2 : Int32)), .val (.int xa), .val (.int xb), .val (.int xc), .val (.int g4), .val (.int rA), .val (.int rB), .val (.int (0 : Int32)), .val (.int rv), .val (.int ex), .val (.int nr), .val (.int cs), .val (.int hA), .val (.int hB), .val (.int (0 : Int32)), .val (.int em), .val (.int xb), .val (.int ee), .val (.ref o), .unset, .unset, .unset] [(.int xa), (.ref o)] := s400
            |>.ifN at_382 (eqF k_xa) rfl
            |>.aload at_385 rfl rfl
            |>.iload at_387 rfl rfl
          have er403 : [xb.toInt, xa.toInt].erase xa.toInt = [xb.toInt] := by rw [er_tl _ (by omega), er_hd]
          obtain ⟨r405, s404⟩ := Sit.callV (C := "reenact/trace/IntBits") (y := (⟨"reenact/trace/IntBits", "remove", "(I)V"⟩ : MethodName)) (W := 0) (Q := fun rv_ hh => ∃ v403 : Addr, ∃ b403 : Int32, ∃ h403 : Int32, ∃ g403 : Int32, ∃ z403 : Int32, ∃ ws403 : List Int64, (rv_ = none ∧ (n0 ≤ v403 ∧ @Ne Nat o v403 ∧ z403.toInt = ([xb.toInt].length : Int) ∧ Inv [xb.toInt] b403.toInt h403.toInt g403.toInt ws403 ∧ (ws403.length ≤ ws343.length ∨ ws403.length ≤ 132) ∧ ([xb.toInt] ≠ [] → g403 = xb))) ∧ (fun hh => Exa Z hh o "reenact/trace/IntBits" ∧ Fld Z hh o "reenact/trace/IntBits" "words" "[J" (.ref v403) ∧ Fld Z hh o "reenact/trace/IntBits" "greatest" "I" (.int g403) ∧ Fld Z hh o "reenact/trace/IntBits" "size" "I" (.int z403) ∧ Fld Z hh o "reenact/trace/IntBits" "base" "I" (.int b403) ∧ Fld Z hh o "reenact/trace/IntBits" "head" "I" (.int h403) ∧ AV Z hh v403 .long (ws403.map Value.long)) hh) [(.int xa)] [] s402 hZ hown (wi hw 32 rfl) (wi hw 33 rfl) (wi hw 35 rfl) (wi hw 34 rfl) (wi hw 36 rfl) (wi hw 4 rfl) (by decide) (fun hh q => q.1) (fun h1 hP hn => (rmR l Z a0 hw [] o xa v343 b343 h343 xb z343 ws343 [xb.toInt, xa.toInt] 132 h1 n0 hn g_o gv343 ne343 V343 hz343 (by simp) (by simp) (by rw [er403]; exact Or.inr ⟨by decide, fun y hy => by simp at hy; omega⟩) (by omega) (by decide) hP).mono fun rv_ hh q => by
              rw [er403] at q
              obtain ⟨e1, v', b', h', g', z', ws', e2, e3⟩ := q
              exact ⟨v', b', h', g', z', ws', ⟨e1, e2⟩, e3⟩) hml rfl (lenOf pd_2 rfl) at_389 (Nat.le_of_eq rfl) (by decide) (by decide) (by decide) (by decide) (pc' := 392) rfl
          obtain ⟨v403, s407⟩ := s404.ex
          obtain ⟨b403, s408⟩ := s407.ex
          obtain ⟨h403, s409⟩ := s408.ex
          obtain ⟨g403, s410⟩ := s409.ex
          obtain ⟨z403, s411⟩ := s410.ex
          obtain ⟨ws403, s412⟩ := s411.ex
          obtain ⟨_, ⟨er405, spr405⟩, _⟩ := s412.facts
          subst er405
          have s406 : Sit p l e _ s m _ below meth c _ st n0 5 277 (fun hh => Exa Z hh o "reenact/trace/IntBits" ∧ Fld Z hh o "reenact/trace/IntBits" "words" "[J" (.ref v403) ∧ Fld Z hh o "reenact/trace/IntBits" "greatest" "I" (.int g403) ∧ Fld Z hh o "reenact/trace/IntBits" "size" "I" (.int z403) ∧ Fld Z hh o "reenact/trace/IntBits" "base" "I" (.int b403) ∧ Fld Z hh o "reenact/trace/IntBits" "head" "I" (.int h403) ∧ AV Z hh v403 .long (ws403.map Value.long)) 392 #[.val (.int u0), .val (.long u1), .second, .val (.int u3), .val (.int u4), .val (.int u5), .val (.int (2 : Int32)), .val (.int xa), .val (.int xb), .val (.int xc), .val (.int g4), .val (.int rA), .val (.int rB), .val (.int (0 : Int32)), .val (.int rv), .val (.int ex), .val (.int nr), .val (.int cs), .val (.int hA), .val (.int hB), .val (.int (0 : Int32)), .val (.int em), .val (.int xb), .val (.int ee), .val (.ref o), .unset, .unset, .unset] [] := s412.mono fun _ q => q.2
          obtain ⟨gv403, ne403, hz403, V403, hl403, hg403⟩ := spr405
          have s413 : Sit p l e _ s m _ below meth c _ st n0 5 277 _ 431 #[.val (.int u0), .val (.long u1), .second, .val (.int u3), .val (.int u4), .val (.int u5), .val (.int (2 : Int32)), .val (.int xa), .val (.int xb), .val (.int xc), .val (.int g4), .val (.int rA), .val (.int rB), .val (.int (0 : Int32)), .val (.int rv), .val (.int ex), .val (.int nr), .val (.int cs), .val (.int hA), .val (.int hB), .val (.int (0 : Int32)), .val (.int em), .val (.int xb), .val (.int ee), .val (.ref o), .unset, .unset, .unset] [] := s406
            |>.goto at_392 (by decide) (by decide)
          have kx : hB = 1 := e_hB.elim (fun h => h.1) (fun h => absurd k_xb h.2)
          have ekk : em = 0 := e_em.elim (fun h => absurd (kx.symm.trans h.2.2) (by decide)) (fun h => h.1)
          have khA : hA = 0 := e_hA.elim (fun h => absurd h.2 k_xa) (fun h => h.1)
          have khB : hB = 1 := e_hB.elim (fun h => h.1) (fun h => absurd k_xb h.2)
          have hgt : g403.toInt < ee.toInt := by
            rw [hg403 (by simp)]; have := rf ekk; omega
          have mem0 : ∀ y : Int32, y.toInt ∈ [xb.toInt] ↔ ((¬ hA = 0 ∧ y = xa) ∨ (¬ hB = 0 ∧ y = xb) ∨ (¬ (0 : Int32) = 0 ∧ y = xc)) := fun y => by
            have d1 : ¬ (1 : Int32) = 0 := by decide
            rw [khA]
            rw [khB]
            simp only [List.mem_cons, List.not_mem_nil, or_false, false_or, Int32.toInt_inj, d1, not_true_eq_false, not_false_eq_true, true_and, false_and]
          exact tail (2 : Int32) rA rB (0 : Int32) rv ex nr cs hA hB (0 : Int32) em xb ee o v403 b403 h403 g403 z403 ws403 [xb.toInt] g_o gv403 ne403 V403 hz403 (by simp only [List.length_cons, List.length_nil]; omega) (by omega) mem0 (fun y hy => by simp at hy; omega) e_ex hgt re (Or.inr (by have := rf ekk; omega)) (s413.bound (cells' := 12) (slots' := 560) (by decide) (by decide))
      · have s414 : Sit p l e _ s m _ below meth c _ st n0 4 145 _ 377 #[.val (.int u0), .val (.long u1), .second, .val (.int u3), .val (.int u4), .val (.int u5), .val (.int (2 : Int32)), .val (.int xa), .val (.int xb), .val (.int xc), .val (.int g4), .val (.int rA), .val (.int rB), .val (.int (0 : Int32)), .val (.int rv), .val (.int ex), .val (.int nr), .val (.int cs), .val (.int hA), .val (.int hB), .val (.int (0 : Int32)), .val (.int em), .val (.int xb), .val (.int ee), .val (.ref o), .unset, .unset, .unset] [(.int xb), (.ref o)] := s399
          |>.ifN at_370 (eqF k_xb) rfl
          |>.aload at_373 rfl rfl
          |>.iload at_375 rfl rfl
        have er415 : [xb.toInt, xa.toInt].erase xb.toInt = [xa.toInt] := by rw [er_hd]
        obtain ⟨r417, s416⟩ := Sit.callV (C := "reenact/trace/IntBits") (y := (⟨"reenact/trace/IntBits", "remove", "(I)V"⟩ : MethodName)) (W := 0) (Q := fun rv_ hh => ∃ v415 : Addr, ∃ b415 : Int32, ∃ h415 : Int32, ∃ g415 : Int32, ∃ z415 : Int32, ∃ ws415 : List Int64, (rv_ = none ∧ (n0 ≤ v415 ∧ @Ne Nat o v415 ∧ z415.toInt = ([xa.toInt].length : Int) ∧ Inv [xa.toInt] b415.toInt h415.toInt g415.toInt ws415 ∧ (ws415.length ≤ ws343.length ∨ ws415.length ≤ 4) ∧ ([xa.toInt] ≠ [] → g415 = xb))) ∧ (fun hh => Exa Z hh o "reenact/trace/IntBits" ∧ Fld Z hh o "reenact/trace/IntBits" "words" "[J" (.ref v415) ∧ Fld Z hh o "reenact/trace/IntBits" "greatest" "I" (.int g415) ∧ Fld Z hh o "reenact/trace/IntBits" "size" "I" (.int z415) ∧ Fld Z hh o "reenact/trace/IntBits" "base" "I" (.int b415) ∧ Fld Z hh o "reenact/trace/IntBits" "head" "I" (.int h415) ∧ AV Z hh v415 .long (ws415.map Value.long)) hh) [(.int xb)] [] s414 hZ hown (wi hw 32 rfl) (wi hw 33 rfl) (wi hw 35 rfl) (wi hw 34 rfl) (wi hw 36 rfl) (wi hw 4 rfl) (by decide) (fun hh q => q.1) (fun h1 hP hn => (rmR l Z a0 hw [] o xb v343 b343 h343 xb z343 ws343 [xb.toInt, xa.toInt] 4 h1 n0 hn g_o gv343 ne343 V343 hz343 (by simp) (by simp) (by rw [er415]; exact Or.inl ⟨xa.toInt, by simp, fun z hz => by simp at hz; omega⟩) (by omega) (by decide) hP).mono fun rv_ hh q => by
            rw [er415] at q
            obtain ⟨e1, v', b', h', g', z', ws', e2, e3⟩ := q
            exact ⟨v', b', h', g', z', ws', ⟨e1, e2⟩, e3⟩) hml rfl (lenOf pd_2 rfl) at_377 (Nat.le_of_eq rfl) (by decide) (by decide) (by decide) (by decide) (pc' := 380) rfl
        obtain ⟨v415, s419⟩ := s416.ex
        obtain ⟨b415, s420⟩ := s419.ex
        obtain ⟨h415, s421⟩ := s420.ex
        obtain ⟨g415, s422⟩ := s421.ex
        obtain ⟨z415, s423⟩ := s422.ex
        obtain ⟨ws415, s424⟩ := s423.ex
        obtain ⟨_, ⟨er417, spr417⟩, _⟩ := s424.facts
        subst er417
        have s418 : Sit p l e _ s m _ below meth c _ st n0 5 149 (fun hh => Exa Z hh o "reenact/trace/IntBits" ∧ Fld Z hh o "reenact/trace/IntBits" "words" "[J" (.ref v415) ∧ Fld Z hh o "reenact/trace/IntBits" "greatest" "I" (.int g415) ∧ Fld Z hh o "reenact/trace/IntBits" "size" "I" (.int z415) ∧ Fld Z hh o "reenact/trace/IntBits" "base" "I" (.int b415) ∧ Fld Z hh o "reenact/trace/IntBits" "head" "I" (.int h415) ∧ AV Z hh v415 .long (ws415.map Value.long)) 380 #[.val (.int u0), .val (.long u1), .second, .val (.int u3), .val (.int u4), .val (.int u5), .val (.int (2 : Int32)), .val (.int xa), .val (.int xb), .val (.int xc), .val (.int g4), .val (.int rA), .val (.int rB), .val (.int (0 : Int32)), .val (.int rv), .val (.int ex), .val (.int nr), .val (.int cs), .val (.int hA), .val (.int hB), .val (.int (0 : Int32)), .val (.int em), .val (.int xb), .val (.int ee), .val (.ref o), .unset, .unset, .unset] [] := s424.mono fun _ q => q.2
        obtain ⟨gv415, ne415, hz415, V415, hl415, hg415⟩ := spr417
        have s425 : Sit p l e _ s m _ below meth c _ st n0 5 149 _ 382 #[.val (.int u0), .val (.long u1), .second, .val (.int u3), .val (.int u4), .val (.int u5), .val (.int (2 : Int32)), .val (.int xa), .val (.int xb), .val (.int xc), .val (.int g4), .val (.int rA), .val (.int rB), .val (.int (0 : Int32)), .val (.int rv), .val (.int ex), .val (.int nr), .val (.int cs), .val (.int hA), .val (.int hB), .val (.int (0 : Int32)), .val (.int em), .val (.int xb), .val (.int ee), .val (.ref o), .unset, .unset, .unset] [(.int rA)] := s418
          |>.iload at_380 rfl rfl
        by_cases k_xa : rA = 0
        · have s426 : Sit p l e _ s m _ below meth c _ st n0 5 149 _ 431 #[.val (.int u0), .val (.long u1), .second, .val (.int u3), .val (.int u4), .val (.int u5), .val (.int (2 : Int32)), .val (.int xa), .val (.int xb), .val (.int xc), .val (.int g4), .val (.int rA), .val (.int rB), .val (.int (0 : Int32)), .val (.int rv), .val (.int ex), .val (.int nr), .val (.int cs), .val (.int hA), .val (.int hB), .val (.int (0 : Int32)), .val (.int em), .val (.int xb), .val (.int ee), .val (.ref o), .unset, .unset, .unset] [] := s425
            |>.ifY at_382 (eqT k_xa) (by decide) (by decide)
          have kx : hA = 1 := e_hA.elim (fun h => h.1) (fun h => absurd k_xa h.2)
          have ekk : em = 0 := e_em.elim (fun h => absurd (kx.symm.trans h.2.1) (by decide)) (fun h => h.1)
          have khA : hA = 1 := e_hA.elim (fun h => h.1) (fun h => absurd k_xa h.2)
          have khB : hB = 0 := e_hB.elim (fun h => absurd h.2 k_xb) (fun h => h.1)
          have hgt : g415.toInt < ee.toInt := by
            rw [hg415 (by simp)]; have := rf ekk; omega
          have mem0 : ∀ y : Int32, y.toInt ∈ [xa.toInt] ↔ ((¬ hA = 0 ∧ y = xa) ∨ (¬ hB = 0 ∧ y = xb) ∨ (¬ (0 : Int32) = 0 ∧ y = xc)) := fun y => by
            have d1 : ¬ (1 : Int32) = 0 := by decide
            rw [khA]
            rw [khB]
            simp only [List.mem_cons, List.not_mem_nil, or_false, false_or, Int32.toInt_inj, d1, not_true_eq_false, not_false_eq_true, true_and, false_and]
          exact tail (2 : Int32) rA rB (0 : Int32) rv ex nr cs hA hB (0 : Int32) em xb ee o v415 b415 h415 g415 z415 ws415 [xa.toInt] g_o gv415 ne415 V415 hz415 (by simp only [List.length_cons, List.length_nil]; omega) (by omega) mem0 (fun y hy => by simp at hy; omega) e_ex hgt re (Or.inr (by have := rf ekk; omega)) (s426.bound (cells' := 12) (slots' := 560) (by decide) (by decide))
        · have s427 : Sit p l e _ s m _ below meth c _ st n0 5 149 _ 389 #[.val (.int u0), .val (.long u1), .second, .val (.int u3), .val (.int u4), .val (.int u5), .val (.int (2 : Int32)), .val (.int xa), .val (.int xb), .val (.int xc), .val (.int g4), .val (.int rA), .val (.int rB), .val (.int (0 : Int32)), .val (.int rv), .val (.int ex), .val (.int nr), .val (.int cs), .val (.int hA), .val (.int hB), .val (.int (0 : Int32)), .val (.int em), .val (.int xb), .val (.int ee), .val (.ref o), .unset, .unset, .unset] [(.int xa), (.ref o)] := s425
            |>.ifN at_382 (eqF k_xa) rfl
            |>.aload at_385 rfl rfl
            |>.iload at_387 rfl rfl
          have er428 : [xa.toInt].erase xa.toInt = [] := by rw [er_hd]
          obtain ⟨r430, s429⟩ := Sit.callV (C := "reenact/trace/IntBits") (y := (⟨"reenact/trace/IntBits", "remove", "(I)V"⟩ : MethodName)) (W := 0) (Q := fun rv_ hh => ∃ v428 : Addr, ∃ b428 : Int32, ∃ h428 : Int32, ∃ g428 : Int32, ∃ z428 : Int32, ∃ ws428 : List Int64, (rv_ = none ∧ (n0 ≤ v428 ∧ @Ne Nat o v428 ∧ z428.toInt = (([] : List Int).length : Int) ∧ Inv [] b428.toInt h428.toInt g428.toInt ws428 ∧ (ws428.length ≤ ws415.length ∨ ws428.length ≤ 4) ∧ (([] : List Int) ≠ [] → g428 = g415))) ∧ (fun hh => Exa Z hh o "reenact/trace/IntBits" ∧ Fld Z hh o "reenact/trace/IntBits" "words" "[J" (.ref v428) ∧ Fld Z hh o "reenact/trace/IntBits" "greatest" "I" (.int g428) ∧ Fld Z hh o "reenact/trace/IntBits" "size" "I" (.int z428) ∧ Fld Z hh o "reenact/trace/IntBits" "base" "I" (.int b428) ∧ Fld Z hh o "reenact/trace/IntBits" "head" "I" (.int h428) ∧ AV Z hh v428 .long (ws428.map Value.long)) hh) [(.int xa)] [] s427 hZ hown (wi hw 32 rfl) (wi hw 33 rfl) (wi hw 35 rfl) (wi hw 34 rfl) (wi hw 36 rfl) (wi hw 4 rfl) (by decide) (fun hh q => q.1) (fun h1 hP hn => (rmR l Z a0 hw [] o xa v415 b415 h415 g415 z415 ws415 [xa.toInt] 4 h1 n0 hn g_o gv415 ne415 V415 hz415 (by simp) (by simp) (by rw [er428]; exact Or.inr ⟨by decide, fun y hy => by simp at hy⟩) (by omega) (by decide) hP).mono fun rv_ hh q => by
              rw [er428] at q
              obtain ⟨e1, v', b', h', g', z', ws', e2, e3⟩ := q
              exact ⟨v', b', h', g', z', ws', ⟨e1, e2⟩, e3⟩) hml rfl (lenOf pd_2 rfl) at_389 (Nat.le_of_eq rfl) (by decide) (by decide) (by decide) (by decide) (pc' := 392) rfl
          obtain ⟨v428, s432⟩ := s429.ex
          obtain ⟨b428, s433⟩ := s432.ex
          obtain ⟨h428, s434⟩ := s433.ex
          obtain ⟨g428, s435⟩ := s434.ex
          obtain ⟨z428, s436⟩ := s435.ex
          obtain ⟨ws428, s437⟩ := s436.ex
          obtain ⟨_, ⟨er430, spr430⟩, _⟩ := s437.facts
          subst er430
          have s431 : Sit p l e _ s m _ below meth c _ st n0 6 153 (fun hh => Exa Z hh o "reenact/trace/IntBits" ∧ Fld Z hh o "reenact/trace/IntBits" "words" "[J" (.ref v428) ∧ Fld Z hh o "reenact/trace/IntBits" "greatest" "I" (.int g428) ∧ Fld Z hh o "reenact/trace/IntBits" "size" "I" (.int z428) ∧ Fld Z hh o "reenact/trace/IntBits" "base" "I" (.int b428) ∧ Fld Z hh o "reenact/trace/IntBits" "head" "I" (.int h428) ∧ AV Z hh v428 .long (ws428.map Value.long)) 392 #[.val (.int u0), .val (.long u1), .second, .val (.int u3), .val (.int u4), .val (.int u5), .val (.int (2 : Int32)), .val (.int xa), .val (.int xb), .val (.int xc), .val (.int g4), .val (.int rA), .val (.int rB), .val (.int (0 : Int32)), .val (.int rv), .val (.int ex), .val (.int nr), .val (.int cs), .val (.int hA), .val (.int hB), .val (.int (0 : Int32)), .val (.int em), .val (.int xb), .val (.int ee), .val (.ref o), .unset, .unset, .unset] [] := s437.mono fun _ q => q.2
          obtain ⟨gv428, ne428, hz428, V428, hl428, hg428⟩ := spr430
          have s438 : Sit p l e _ s m _ below meth c _ st n0 6 153 _ 431 #[.val (.int u0), .val (.long u1), .second, .val (.int u3), .val (.int u4), .val (.int u5), .val (.int (2 : Int32)), .val (.int xa), .val (.int xb), .val (.int xc), .val (.int g4), .val (.int rA), .val (.int rB), .val (.int (0 : Int32)), .val (.int rv), .val (.int ex), .val (.int nr), .val (.int cs), .val (.int hA), .val (.int hB), .val (.int (0 : Int32)), .val (.int em), .val (.int xb), .val (.int ee), .val (.ref o), .unset, .unset, .unset] [] := s431
            |>.goto at_392 (by decide) (by decide)
          have khA : hA = 0 := e_hA.elim (fun h => absurd h.2 k_xa) (fun h => h.1)
          have khB : hB = 0 := e_hB.elim (fun h => absurd h.2 k_xb) (fun h => h.1)
          have hgt : g428.toInt < ee.toInt := by
            have e := (V428).2.2.2.2.2.2.1 rfl; omega
          have mem0 : ∀ y : Int32, y.toInt ∈ ([] : List Int) ↔ ((¬ hA = 0 ∧ y = xa) ∨ (¬ hB = 0 ∧ y = xb) ∨ (¬ (0 : Int32) = 0 ∧ y = xc)) := fun y => by
            have d1 : ¬ (1 : Int32) = 0 := by decide
            rw [khA]
            rw [khB]
            simp only [List.mem_cons, List.not_mem_nil, or_false, false_or, Int32.toInt_inj, d1, not_true_eq_false, not_false_eq_true, true_and, false_and]
          exact tail (2 : Int32) rA rB (0 : Int32) rv ex nr cs hA hB (0 : Int32) em xb ee o v428 b428 h428 g428 z428 ws428 ([] : List Int) g_o gv428 ne428 V428 hz428 (by simp only [List.length_cons, List.length_nil]; omega) (by omega) mem0 (fun y hy => by simp at hy) e_ex hgt re (Or.inl rfl) (s438.bound (cells' := 12) (slots' := 560) (by decide) (by decide))
  · have s439 : Sit p l e _ s m _ below meth c _ st n0 0 0 (fun hh => True) 51 #[.val (.int u0), .val (.long u1), .second, .val (.int u3), .val (.int u4), .val (.int u5), .val (.int (3 : Int32)), .val (.int xa), .val (.int xb), .val (.int xc), .unset, .unset, .unset, .unset, .unset, .unset, .unset, .unset, .unset, .unset, .unset, .unset, .unset, .unset, .unset, .unset, .unset, .unset] [(.int g4)] := s11
    have s440 : Sit p l e _ s m _ below meth c _ st n0 0 0 _ 56 #[.val (.int u0), .val (.long u1), .second, .val (.int u3), .val (.int u4), .val (.int u5), .val (.int (3 : Int32)), .val (.int xa), .val (.int xb), .val (.int xc), .val (.int g4), .unset, .unset, .unset, .unset, .unset, .unset, .unset, .unset, .unset, .unset, .unset, .unset, .unset, .unset, .unset, .unset, .unset] [(.int (1 : Int32)), (.int (3 : Int32))] := s439
      |>.istore #[.val (.int u0), .val (.long u1), .second, .val (.int u3), .val (.int u4), .val (.int u5), .val (.int (3 : Int32)), .val (.int xa), .val (.int xb), .val (.int xc), .val (.int g4), .unset, .unset, .unset, .unset, .unset, .unset, .unset, .unset, .unset, .unset, .unset, .unset, .unset, .unset, .unset, .unset, .unset] at_51 rfl rfl
      |>.iload at_53 rfl rfl
      |>.iconst (1 : Int32) at_55 rfl rfl
    have s441 : Sit p l e _ s m _ below meth c _ st n0 0 0 _ 64 #[.val (.int u0), .val (.long u1), .second, .val (.int u3), .val (.int u4), .val (.int u5), .val (.int (3 : Int32)), .val (.int xa), .val (.int xb), .val (.int xc), .val (.int g4), .unset, .unset, .unset, .unset, .unset, .unset, .unset, .unset, .unset, .unset, .unset, .unset, .unset, .unset, .unset, .unset, .unset] [(.int ((ushr32 u3 (2 : Int32)) &&& (1 : Int32)))] := s440
      |>.icmpN at_56 (cmpF (cd := .lt) (show ¬ ((3 : Int) < (1 : Int)) from by decide)) rfl
      |>.iloadN at_59 rfl rfl
      |>.iconst (2 : Int32) at_60 rfl rfl
      |>.iushr at_61 rfl
      |>.iconst (1 : Int32) at_62 rfl rfl
      |>.iand at_63 rfl
    obtain ⟨rA, e_rA, s445⟩ : ∃ rA : Int32, (rA = 0 ∨ rA = 1) ∧ Sit p l e room_1 s m #[(.int u0), (.long u1), (.int u3), (.int u4), (.int u5)] below meth c code st n0 0 0 (fun hh => True) 72 #[.val (.int u0), .val (.long u1), .second, .val (.int u3), .val (.int u4), .val (.int u5), .val (.int (3 : Int32)), .val (.int xa), .val (.int xb), .val (.int xc), .val (.int g4), .unset, .unset, .unset, .unset, .unset, .unset, .unset, .unset, .unset, .unset, .unset, .unset, .unset, .unset, .unset, .unset, .unset] [(.int rA)] := by
      by_cases cnd442 : ((ushr32 u3 (2 : Int32)) &&& (1 : Int32)) = 0
      · have s443 : Sit p l e _ s m _ below meth c _ st n0 0 0 _ 72 #[.val (.int u0), .val (.long u1), .second, .val (.int u3), .val (.int u4), .val (.int u5), .val (.int (3 : Int32)), .val (.int xa), .val (.int xb), .val (.int xc), .val (.int g4), .unset, .unset, .unset, .unset, .unset, .unset, .unset, .unset, .unset, .unset, .unset, .unset, .unset, .unset, .unset, .unset, .unset] [(.int (0 : Int32))] := s441
          |>.ifY at_64 (eqT cnd442) (by decide) (by decide)
          |>.iconst (0 : Int32) at_71 rfl rfl
        exact ⟨(0 : Int32), Or.inl rfl, s443⟩
      · have s444 : Sit p l e _ s m _ below meth c _ st n0 0 0 _ 72 #[.val (.int u0), .val (.long u1), .second, .val (.int u3), .val (.int u4), .val (.int u5), .val (.int (3 : Int32)), .val (.int xa), .val (.int xb), .val (.int xc), .val (.int g4), .unset, .unset, .unset, .unset, .unset, .unset, .unset, .unset, .unset, .unset, .unset, .unset, .unset, .unset, .unset, .unset, .unset] [(.int (1 : Int32))] := s441
          |>.ifN at_64 (eqF cnd442) rfl
          |>.iconst (1 : Int32) at_67 rfl rfl
          |>.goto at_68 (by decide) (by decide)
        exact ⟨(1 : Int32), Or.inr rfl, s444⟩
    have s446 : Sit p l e _ s m _ below meth c _ st n0 0 0 _ 77 #[.val (.int u0), .val (.long u1), .second, .val (.int u3), .val (.int u4), .val (.int u5), .val (.int (3 : Int32)), .val (.int xa), .val (.int xb), .val (.int xc), .val (.int g4), .val (.int rA), .unset, .unset, .unset, .unset, .unset, .unset, .unset, .unset, .unset, .unset, .unset, .unset, .unset, .unset, .unset, .unset] [(.int (2 : Int32)), (.int (3 : Int32))] := s445
      |>.istore #[.val (.int u0), .val (.long u1), .second, .val (.int u3), .val (.int u4), .val (.int u5), .val (.int (3 : Int32)), .val (.int xa), .val (.int xb), .val (.int xc), .val (.int g4), .val (.int rA), .unset, .unset, .unset, .unset, .unset, .unset, .unset, .unset, .unset, .unset, .unset, .unset, .unset, .unset, .unset, .unset] at_72 rfl rfl
      |>.iload at_74 rfl rfl
      |>.iconst (2 : Int32) at_76 rfl rfl
    have s447 : Sit p l e _ s m _ below meth c _ st n0 0 0 _ 85 #[.val (.int u0), .val (.long u1), .second, .val (.int u3), .val (.int u4), .val (.int u5), .val (.int (3 : Int32)), .val (.int xa), .val (.int xb), .val (.int xc), .val (.int g4), .val (.int rA), .unset, .unset, .unset, .unset, .unset, .unset, .unset, .unset, .unset, .unset, .unset, .unset, .unset, .unset, .unset, .unset] [(.int ((ushr32 u3 (3 : Int32)) &&& (1 : Int32)))] := s446
      |>.icmpN at_77 (cmpF (cd := .lt) (show ¬ ((3 : Int) < (2 : Int)) from by decide)) rfl
      |>.iloadN at_80 rfl rfl
      |>.iconst (3 : Int32) at_81 rfl rfl
      |>.iushr at_82 rfl
      |>.iconst (1 : Int32) at_83 rfl rfl
      |>.iand at_84 rfl
    obtain ⟨rB, e_rB, s451⟩ : ∃ rB : Int32, (rB = 0 ∨ rB = 1) ∧ Sit p l e room_1 s m #[(.int u0), (.long u1), (.int u3), (.int u4), (.int u5)] below meth c code st n0 0 0 (fun hh => True) 93 #[.val (.int u0), .val (.long u1), .second, .val (.int u3), .val (.int u4), .val (.int u5), .val (.int (3 : Int32)), .val (.int xa), .val (.int xb), .val (.int xc), .val (.int g4), .val (.int rA), .unset, .unset, .unset, .unset, .unset, .unset, .unset, .unset, .unset, .unset, .unset, .unset, .unset, .unset, .unset, .unset] [(.int rB)] := by
      by_cases cnd448 : ((ushr32 u3 (3 : Int32)) &&& (1 : Int32)) = 0
      · have s449 : Sit p l e _ s m _ below meth c _ st n0 0 0 _ 93 #[.val (.int u0), .val (.long u1), .second, .val (.int u3), .val (.int u4), .val (.int u5), .val (.int (3 : Int32)), .val (.int xa), .val (.int xb), .val (.int xc), .val (.int g4), .val (.int rA), .unset, .unset, .unset, .unset, .unset, .unset, .unset, .unset, .unset, .unset, .unset, .unset, .unset, .unset, .unset, .unset] [(.int (0 : Int32))] := s447
          |>.ifY at_85 (eqT cnd448) (by decide) (by decide)
          |>.iconst (0 : Int32) at_92 rfl rfl
        exact ⟨(0 : Int32), Or.inl rfl, s449⟩
      · have s450 : Sit p l e _ s m _ below meth c _ st n0 0 0 _ 93 #[.val (.int u0), .val (.long u1), .second, .val (.int u3), .val (.int u4), .val (.int u5), .val (.int (3 : Int32)), .val (.int xa), .val (.int xb), .val (.int xc), .val (.int g4), .val (.int rA), .unset, .unset, .unset, .unset, .unset, .unset, .unset, .unset, .unset, .unset, .unset, .unset, .unset, .unset, .unset, .unset] [(.int (1 : Int32))] := s447
          |>.ifN at_85 (eqF cnd448) rfl
          |>.iconst (1 : Int32) at_88 rfl rfl
          |>.goto at_89 (by decide) (by decide)
        exact ⟨(1 : Int32), Or.inr rfl, s450⟩
    have s452 : Sit p l e _ s m _ below meth c _ st n0 0 0 _ 98 #[.val (.int u0), .val (.long u1), .second, .val (.int u3), .val (.int u4), .val (.int u5), .val (.int (3 : Int32)), .val (.int xa), .val (.int xb), .val (.int xc), .val (.int g4), .val (.int rA), .val (.int rB), .unset, .unset, .unset, .unset, .unset, .unset, .unset, .unset, .unset, .unset, .unset, .unset, .unset, .unset, .unset] [(.int (3 : Int32)), (.int (3 : Int32))] := s451
      |>.istore #[.val (.int u0), .val (.long u1), .second, .val (.int u3), .val (.int u4), .val (.int u5), .val (.int (3 : Int32)), .val (.int xa), .val (.int xb), .val (.int xc), .val (.int g4), .val (.int rA), .val (.int rB), .unset, .unset, .unset, .unset, .unset, .unset, .unset, .unset, .unset, .unset, .unset, .unset, .unset, .unset, .unset] at_93 rfl rfl
      |>.iload at_95 rfl rfl
      |>.iconst (3 : Int32) at_97 rfl rfl
    have s453 : Sit p l e _ s m _ below meth c _ st n0 0 0 _ 106 #[.val (.int u0), .val (.long u1), .second, .val (.int u3), .val (.int u4), .val (.int u5), .val (.int (3 : Int32)), .val (.int xa), .val (.int xb), .val (.int xc), .val (.int g4), .val (.int rA), .val (.int rB), .unset, .unset, .unset, .unset, .unset, .unset, .unset, .unset, .unset, .unset, .unset, .unset, .unset, .unset, .unset] [(.int ((ushr32 u3 (4 : Int32)) &&& (1 : Int32)))] := s452
      |>.icmpN at_98 (cmpF (cd := .lt) (show ¬ ((3 : Int) < (3 : Int)) from by decide)) rfl
      |>.iloadN at_101 rfl rfl
      |>.iconst (4 : Int32) at_102 rfl rfl
      |>.iushr at_103 rfl
      |>.iconst (1 : Int32) at_104 rfl rfl
      |>.iand at_105 rfl
    obtain ⟨rC, e_rC, s457⟩ : ∃ rC : Int32, (rC = 0 ∨ rC = 1) ∧ Sit p l e room_1 s m #[(.int u0), (.long u1), (.int u3), (.int u4), (.int u5)] below meth c code st n0 0 0 (fun hh => True) 114 #[.val (.int u0), .val (.long u1), .second, .val (.int u3), .val (.int u4), .val (.int u5), .val (.int (3 : Int32)), .val (.int xa), .val (.int xb), .val (.int xc), .val (.int g4), .val (.int rA), .val (.int rB), .unset, .unset, .unset, .unset, .unset, .unset, .unset, .unset, .unset, .unset, .unset, .unset, .unset, .unset, .unset] [(.int rC)] := by
      by_cases cnd454 : ((ushr32 u3 (4 : Int32)) &&& (1 : Int32)) = 0
      · have s455 : Sit p l e _ s m _ below meth c _ st n0 0 0 _ 114 #[.val (.int u0), .val (.long u1), .second, .val (.int u3), .val (.int u4), .val (.int u5), .val (.int (3 : Int32)), .val (.int xa), .val (.int xb), .val (.int xc), .val (.int g4), .val (.int rA), .val (.int rB), .unset, .unset, .unset, .unset, .unset, .unset, .unset, .unset, .unset, .unset, .unset, .unset, .unset, .unset, .unset] [(.int (0 : Int32))] := s453
          |>.ifY at_106 (eqT cnd454) (by decide) (by decide)
          |>.iconst (0 : Int32) at_113 rfl rfl
        exact ⟨(0 : Int32), Or.inl rfl, s455⟩
      · have s456 : Sit p l e _ s m _ below meth c _ st n0 0 0 _ 114 #[.val (.int u0), .val (.long u1), .second, .val (.int u3), .val (.int u4), .val (.int u5), .val (.int (3 : Int32)), .val (.int xa), .val (.int xb), .val (.int xc), .val (.int g4), .val (.int rA), .val (.int rB), .unset, .unset, .unset, .unset, .unset, .unset, .unset, .unset, .unset, .unset, .unset, .unset, .unset, .unset, .unset] [(.int (1 : Int32))] := s453
          |>.ifN at_106 (eqF cnd454) rfl
          |>.iconst (1 : Int32) at_109 rfl rfl
          |>.goto at_110 (by decide) (by decide)
        exact ⟨(1 : Int32), Or.inr rfl, s456⟩
    have s458 : Sit p l e _ s m _ below meth c _ st n0 0 0 _ 121 #[.val (.int u0), .val (.long u1), .second, .val (.int u3), .val (.int u4), .val (.int u5), .val (.int (3 : Int32)), .val (.int xa), .val (.int xb), .val (.int xc), .val (.int g4), .val (.int rA), .val (.int rB), .val (.int rC), .unset, .unset, .unset, .unset, .unset, .unset, .unset, .unset, .unset, .unset, .unset, .unset, .unset, .unset] [(.int ((ushr32 u3 (5 : Int32)) &&& (1 : Int32)))] := s457
      |>.istore #[.val (.int u0), .val (.long u1), .second, .val (.int u3), .val (.int u4), .val (.int u5), .val (.int (3 : Int32)), .val (.int xa), .val (.int xb), .val (.int xc), .val (.int g4), .val (.int rA), .val (.int rB), .val (.int rC), .unset, .unset, .unset, .unset, .unset, .unset, .unset, .unset, .unset, .unset, .unset, .unset, .unset, .unset] at_114 rfl rfl
      |>.iloadN at_116 rfl rfl
      |>.iconst (5 : Int32) at_117 rfl rfl
      |>.iushr at_118 rfl
      |>.iconst (1 : Int32) at_119 rfl rfl
      |>.iand at_120 rfl
    obtain ⟨rv, e_rv, s462⟩ : ∃ rv : Int32, (rv = 0 ∨ rv = 1) ∧ Sit p l e room_1 s m #[(.int u0), (.long u1), (.int u3), (.int u4), (.int u5)] below meth c code st n0 0 0 (fun hh => True) 129 #[.val (.int u0), .val (.long u1), .second, .val (.int u3), .val (.int u4), .val (.int u5), .val (.int (3 : Int32)), .val (.int xa), .val (.int xb), .val (.int xc), .val (.int g4), .val (.int rA), .val (.int rB), .val (.int rC), .unset, .unset, .unset, .unset, .unset, .unset, .unset, .unset, .unset, .unset, .unset, .unset, .unset, .unset] [(.int rv)] := by
      by_cases cnd459 : ((ushr32 u3 (5 : Int32)) &&& (1 : Int32)) = 0
      · have s460 : Sit p l e _ s m _ below meth c _ st n0 0 0 _ 129 #[.val (.int u0), .val (.long u1), .second, .val (.int u3), .val (.int u4), .val (.int u5), .val (.int (3 : Int32)), .val (.int xa), .val (.int xb), .val (.int xc), .val (.int g4), .val (.int rA), .val (.int rB), .val (.int rC), .unset, .unset, .unset, .unset, .unset, .unset, .unset, .unset, .unset, .unset, .unset, .unset, .unset, .unset] [(.int (0 : Int32))] := s458
          |>.ifY at_121 (eqT cnd459) (by decide) (by decide)
          |>.iconst (0 : Int32) at_128 rfl rfl
        exact ⟨(0 : Int32), Or.inl rfl, s460⟩
      · have s461 : Sit p l e _ s m _ below meth c _ st n0 0 0 _ 129 #[.val (.int u0), .val (.long u1), .second, .val (.int u3), .val (.int u4), .val (.int u5), .val (.int (3 : Int32)), .val (.int xa), .val (.int xb), .val (.int xc), .val (.int g4), .val (.int rA), .val (.int rB), .val (.int rC), .unset, .unset, .unset, .unset, .unset, .unset, .unset, .unset, .unset, .unset, .unset, .unset, .unset, .unset] [(.int (1 : Int32))] := s458
          |>.ifN at_121 (eqF cnd459) rfl
          |>.iconst (1 : Int32) at_124 rfl rfl
          |>.goto at_125 (by decide) (by decide)
        exact ⟨(1 : Int32), Or.inr rfl, s461⟩
    have s463 : Sit p l e _ s m _ below meth c _ st n0 0 0 _ 137 #[.val (.int u0), .val (.long u1), .second, .val (.int u3), .val (.int u4), .val (.int u5), .val (.int (3 : Int32)), .val (.int xa), .val (.int xb), .val (.int xc), .val (.int g4), .val (.int rA), .val (.int rB), .val (.int rC), .val (.int rv), .unset, .unset, .unset, .unset, .unset, .unset, .unset, .unset, .unset, .unset, .unset, .unset, .unset] [(.int ((ushr32 u3 (6 : Int32)) &&& (1 : Int32)))] := s462
      |>.istore #[.val (.int u0), .val (.long u1), .second, .val (.int u3), .val (.int u4), .val (.int u5), .val (.int (3 : Int32)), .val (.int xa), .val (.int xb), .val (.int xc), .val (.int g4), .val (.int rA), .val (.int rB), .val (.int rC), .val (.int rv), .unset, .unset, .unset, .unset, .unset, .unset, .unset, .unset, .unset, .unset, .unset, .unset, .unset] at_129 rfl rfl
      |>.iloadN at_131 rfl rfl
      |>.bipush (6 : Int32) at_132 rfl rfl
      |>.iushr at_134 rfl
      |>.iconst (1 : Int32) at_135 rfl rfl
      |>.iand at_136 rfl
    obtain ⟨ex, e_ex, s467⟩ : ∃ ex : Int32, (ex = 0 ∨ ex = 1) ∧ Sit p l e room_1 s m #[(.int u0), (.long u1), (.int u3), (.int u4), (.int u5)] below meth c code st n0 0 0 (fun hh => True) 145 #[.val (.int u0), .val (.long u1), .second, .val (.int u3), .val (.int u4), .val (.int u5), .val (.int (3 : Int32)), .val (.int xa), .val (.int xb), .val (.int xc), .val (.int g4), .val (.int rA), .val (.int rB), .val (.int rC), .val (.int rv), .unset, .unset, .unset, .unset, .unset, .unset, .unset, .unset, .unset, .unset, .unset, .unset, .unset] [(.int ex)] := by
      by_cases cnd464 : ((ushr32 u3 (6 : Int32)) &&& (1 : Int32)) = 0
      · have s465 : Sit p l e _ s m _ below meth c _ st n0 0 0 _ 145 #[.val (.int u0), .val (.long u1), .second, .val (.int u3), .val (.int u4), .val (.int u5), .val (.int (3 : Int32)), .val (.int xa), .val (.int xb), .val (.int xc), .val (.int g4), .val (.int rA), .val (.int rB), .val (.int rC), .val (.int rv), .unset, .unset, .unset, .unset, .unset, .unset, .unset, .unset, .unset, .unset, .unset, .unset, .unset] [(.int (0 : Int32))] := s463
          |>.ifY at_137 (eqT cnd464) (by decide) (by decide)
          |>.iconst (0 : Int32) at_144 rfl rfl
        exact ⟨(0 : Int32), Or.inl rfl, s465⟩
      · have s466 : Sit p l e _ s m _ below meth c _ st n0 0 0 _ 145 #[.val (.int u0), .val (.long u1), .second, .val (.int u3), .val (.int u4), .val (.int u5), .val (.int (3 : Int32)), .val (.int xa), .val (.int xb), .val (.int xc), .val (.int g4), .val (.int rA), .val (.int rB), .val (.int rC), .val (.int rv), .unset, .unset, .unset, .unset, .unset, .unset, .unset, .unset, .unset, .unset, .unset, .unset, .unset] [(.int (1 : Int32))] := s463
          |>.ifN at_137 (eqF cnd464) rfl
          |>.iconst (1 : Int32) at_140 rfl rfl
          |>.goto at_141 (by decide) (by decide)
        exact ⟨(1 : Int32), Or.inr rfl, s466⟩
    have s468 : Sit p l e _ s m _ below meth c _ st n0 0 0 _ 153 #[.val (.int u0), .val (.long u1), .second, .val (.int u3), .val (.int u4), .val (.int u5), .val (.int (3 : Int32)), .val (.int xa), .val (.int xb), .val (.int xc), .val (.int g4), .val (.int rA), .val (.int rB), .val (.int rC), .val (.int rv), .val (.int ex), .unset, .unset, .unset, .unset, .unset, .unset, .unset, .unset, .unset, .unset, .unset, .unset] [(.int ((ushr32 u3 (7 : Int32)) &&& (1 : Int32)))] := s467
      |>.istore #[.val (.int u0), .val (.long u1), .second, .val (.int u3), .val (.int u4), .val (.int u5), .val (.int (3 : Int32)), .val (.int xa), .val (.int xb), .val (.int xc), .val (.int g4), .val (.int rA), .val (.int rB), .val (.int rC), .val (.int rv), .val (.int ex), .unset, .unset, .unset, .unset, .unset, .unset, .unset, .unset, .unset, .unset, .unset, .unset] at_145 rfl rfl
      |>.iloadN at_147 rfl rfl
      |>.bipush (7 : Int32) at_148 rfl rfl
      |>.iushr at_150 rfl
      |>.iconst (1 : Int32) at_151 rfl rfl
      |>.iand at_152 rfl
    obtain ⟨nr, e_nr, s472⟩ : ∃ nr : Int32, (nr = 0 ∨ nr = 1) ∧ Sit p l e room_1 s m #[(.int u0), (.long u1), (.int u3), (.int u4), (.int u5)] below meth c code st n0 0 0 (fun hh => True) 161 #[.val (.int u0), .val (.long u1), .second, .val (.int u3), .val (.int u4), .val (.int u5), .val (.int (3 : Int32)), .val (.int xa), .val (.int xb), .val (.int xc), .val (.int g4), .val (.int rA), .val (.int rB), .val (.int rC), .val (.int rv), .val (.int ex), .unset, .unset, .unset, .unset, .unset, .unset, .unset, .unset, .unset, .unset, .unset, .unset] [(.int nr)] := by
      by_cases cnd469 : ((ushr32 u3 (7 : Int32)) &&& (1 : Int32)) = 0
      · have s470 : Sit p l e _ s m _ below meth c _ st n0 0 0 _ 161 #[.val (.int u0), .val (.long u1), .second, .val (.int u3), .val (.int u4), .val (.int u5), .val (.int (3 : Int32)), .val (.int xa), .val (.int xb), .val (.int xc), .val (.int g4), .val (.int rA), .val (.int rB), .val (.int rC), .val (.int rv), .val (.int ex), .unset, .unset, .unset, .unset, .unset, .unset, .unset, .unset, .unset, .unset, .unset, .unset] [(.int (0 : Int32))] := s468
          |>.ifY at_153 (eqT cnd469) (by decide) (by decide)
          |>.iconst (0 : Int32) at_160 rfl rfl
        exact ⟨(0 : Int32), Or.inl rfl, s470⟩
      · have s471 : Sit p l e _ s m _ below meth c _ st n0 0 0 _ 161 #[.val (.int u0), .val (.long u1), .second, .val (.int u3), .val (.int u4), .val (.int u5), .val (.int (3 : Int32)), .val (.int xa), .val (.int xb), .val (.int xc), .val (.int g4), .val (.int rA), .val (.int rB), .val (.int rC), .val (.int rv), .val (.int ex), .unset, .unset, .unset, .unset, .unset, .unset, .unset, .unset, .unset, .unset, .unset, .unset] [(.int (1 : Int32))] := s468
          |>.ifN at_153 (eqF cnd469) rfl
          |>.iconst (1 : Int32) at_156 rfl rfl
          |>.goto at_157 (by decide) (by decide)
        exact ⟨(1 : Int32), Or.inr rfl, s471⟩
    have s473 : Sit p l e _ s m _ below meth c _ st n0 0 0 _ 169 #[.val (.int u0), .val (.long u1), .second, .val (.int u3), .val (.int u4), .val (.int u5), .val (.int (3 : Int32)), .val (.int xa), .val (.int xb), .val (.int xc), .val (.int g4), .val (.int rA), .val (.int rB), .val (.int rC), .val (.int rv), .val (.int ex), .val (.int nr), .unset, .unset, .unset, .unset, .unset, .unset, .unset, .unset, .unset, .unset, .unset] [(.int ((ushr32 u3 (8 : Int32)) &&& (3 : Int32)))] := s472
      |>.istore #[.val (.int u0), .val (.long u1), .second, .val (.int u3), .val (.int u4), .val (.int u5), .val (.int (3 : Int32)), .val (.int xa), .val (.int xb), .val (.int xc), .val (.int g4), .val (.int rA), .val (.int rB), .val (.int rC), .val (.int rv), .val (.int ex), .val (.int nr), .unset, .unset, .unset, .unset, .unset, .unset, .unset, .unset, .unset, .unset, .unset] at_161 rfl rfl
      |>.iloadN at_163 rfl rfl
      |>.bipush (8 : Int32) at_164 rfl rfl
      |>.iushr at_166 rfl
      |>.iconst (3 : Int32) at_167 rfl rfl
      |>.iand at_168 rfl
    obtain ⟨cs, e_cs, s474⟩ : ∃ cs : Int32, cs = ((ushr32 u3 (8 : Int32)) &&& (3 : Int32)) ∧ Sit p l e _ s m _ below meth c _ st n0 0 0 _ 169 #[.val (.int u0), .val (.long u1), .second, .val (.int u3), .val (.int u4), .val (.int u5), .val (.int (3 : Int32)), .val (.int xa), .val (.int xb), .val (.int xc), .val (.int g4), .val (.int rA), .val (.int rB), .val (.int rC), .val (.int rv), .val (.int ex), .val (.int nr), .unset, .unset, .unset, .unset, .unset, .unset, .unset, .unset, .unset, .unset, .unset] [(.int cs)] := ⟨_, rfl, s473⟩
    have s475 : Sit p l e _ s m _ below meth c _ st n0 0 0 _ 174 #[.val (.int u0), .val (.long u1), .second, .val (.int u3), .val (.int u4), .val (.int u5), .val (.int (3 : Int32)), .val (.int xa), .val (.int xb), .val (.int xc), .val (.int g4), .val (.int rA), .val (.int rB), .val (.int rC), .val (.int rv), .val (.int ex), .val (.int nr), .val (.int cs), .unset, .unset, .unset, .unset, .unset, .unset, .unset, .unset, .unset, .unset] [(.int (1 : Int32)), (.int (3 : Int32))] := s474
      |>.istore #[.val (.int u0), .val (.long u1), .second, .val (.int u3), .val (.int u4), .val (.int u5), .val (.int (3 : Int32)), .val (.int xa), .val (.int xb), .val (.int xc), .val (.int g4), .val (.int rA), .val (.int rB), .val (.int rC), .val (.int rv), .val (.int ex), .val (.int nr), .val (.int cs), .unset, .unset, .unset, .unset, .unset, .unset, .unset, .unset, .unset, .unset] at_169 rfl rfl
      |>.iload at_171 rfl rfl
      |>.iconst (1 : Int32) at_173 rfl rfl
    have s476 : Sit p l e _ s m _ below meth c _ st n0 0 0 _ 179 #[.val (.int u0), .val (.long u1), .second, .val (.int u3), .val (.int u4), .val (.int u5), .val (.int (3 : Int32)), .val (.int xa), .val (.int xb), .val (.int xc), .val (.int g4), .val (.int rA), .val (.int rB), .val (.int rC), .val (.int rv), .val (.int ex), .val (.int nr), .val (.int cs), .unset, .unset, .unset, .unset, .unset, .unset, .unset, .unset, .unset, .unset] [(.int rA)] := s475
      |>.icmpN at_174 (cmpF (cd := .lt) (show ¬ ((3 : Int) < (1 : Int)) from by decide)) rfl
      |>.iload at_177 rfl rfl
    obtain ⟨hA, e_hA, s479⟩ : ∃ hA : Int32, ((hA = 1 ∧ rA = 0) ∨ (hA = 0 ∧ ¬ rA = 0)) ∧ Sit p l e room_1 s m #[(.int u0), (.long u1), (.int u3), (.int u4), (.int u5)] below meth c code st n0 0 0 (fun hh => True) 187 #[.val (.int u0), .val (.long u1), .second, .val (.int u3), .val (.int u4), .val (.int u5), .val (.int (3 : Int32)), .val (.int xa), .val (.int xb), .val (.int xc), .val (.int g4), .val (.int rA), .val (.int rB), .val (.int rC), .val (.int rv), .val (.int ex), .val (.int nr), .val (.int cs), .unset, .unset, .unset, .unset, .unset, .unset, .unset, .unset, .unset, .unset] [(.int hA)] := by
      by_cases cr : ¬ rA = 0
      · have s477 : Sit p l e _ s m _ below meth c _ st n0 0 0 _ 187 #[.val (.int u0), .val (.long u1), .second, .val (.int u3), .val (.int u4), .val (.int u5), .val (.int (3 : Int32)), .val (.int xa), .val (.int xb), .val (.int xc), .val (.int g4), .val (.int rA), .val (.int rB), .val (.int rC), .val (.int rv), .val (.int ex), .val (.int nr), .val (.int cs), .unset, .unset, .unset, .unset, .unset, .unset, .unset, .unset, .unset, .unset] [(.int (0 : Int32))] := s476
          |>.ifY at_179 (neT cr) (by decide) (by decide)
          |>.iconst (0 : Int32) at_186 rfl rfl
        exact ⟨0, Or.inr ⟨rfl, cr⟩, s477⟩
      · have s478 : Sit p l e _ s m _ below meth c _ st n0 0 0 _ 187 #[.val (.int u0), .val (.long u1), .second, .val (.int u3), .val (.int u4), .val (.int u5), .val (.int (3 : Int32)), .val (.int xa), .val (.int xb), .val (.int xc), .val (.int g4), .val (.int rA), .val (.int rB), .val (.int rC), .val (.int rv), .val (.int ex), .val (.int nr), .val (.int cs), .unset, .unset, .unset, .unset, .unset, .unset, .unset, .unset, .unset, .unset] [(.int (1 : Int32))] := s476
          |>.ifN at_179 ((neF (Classical.not_not.mp cr))) rfl
          |>.iconst (1 : Int32) at_182 rfl rfl
          |>.goto at_183 (by decide) (by decide)
        exact ⟨1, Or.inl ⟨rfl, Classical.not_not.mp cr⟩, s478⟩
    have s480 : Sit p l e _ s m _ below meth c _ st n0 0 0 _ 192 #[.val (.int u0), .val (.long u1), .second, .val (.int u3), .val (.int u4), .val (.int u5), .val (.int (3 : Int32)), .val (.int xa), .val (.int xb), .val (.int xc), .val (.int g4), .val (.int rA), .val (.int rB), .val (.int rC), .val (.int rv), .val (.int ex), .val (.int nr), .val (.int cs), .val (.int hA), .unset, .unset, .unset, .unset, .unset, .unset, .unset, .unset, .unset] [(.int (2 : Int32)), (.int (3 : Int32))] := s479
      |>.istore #[.val (.int u0), .val (.long u1), .second, .val (.int u3), .val (.int u4), .val (.int u5), .val (.int (3 : Int32)), .val (.int xa), .val (.int xb), .val (.int xc), .val (.int g4), .val (.int rA), .val (.int rB), .val (.int rC), .val (.int rv), .val (.int ex), .val (.int nr), .val (.int cs), .val (.int hA), .unset, .unset, .unset, .unset, .unset, .unset, .unset, .unset, .unset] at_187 rfl rfl
      |>.iload at_189 rfl rfl
      |>.iconst (2 : Int32) at_191 rfl rfl
    have s481 : Sit p l e _ s m _ below meth c _ st n0 0 0 _ 197 #[.val (.int u0), .val (.long u1), .second, .val (.int u3), .val (.int u4), .val (.int u5), .val (.int (3 : Int32)), .val (.int xa), .val (.int xb), .val (.int xc), .val (.int g4), .val (.int rA), .val (.int rB), .val (.int rC), .val (.int rv), .val (.int ex), .val (.int nr), .val (.int cs), .val (.int hA), .unset, .unset, .unset, .unset, .unset, .unset, .unset, .unset, .unset] [(.int rB)] := s480
      |>.icmpN at_192 (cmpF (cd := .lt) (show ¬ ((3 : Int) < (2 : Int)) from by decide)) rfl
      |>.iload at_195 rfl rfl
    obtain ⟨hB, e_hB, s484⟩ : ∃ hB : Int32, ((hB = 1 ∧ rB = 0) ∨ (hB = 0 ∧ ¬ rB = 0)) ∧ Sit p l e room_1 s m #[(.int u0), (.long u1), (.int u3), (.int u4), (.int u5)] below meth c code st n0 0 0 (fun hh => True) 205 #[.val (.int u0), .val (.long u1), .second, .val (.int u3), .val (.int u4), .val (.int u5), .val (.int (3 : Int32)), .val (.int xa), .val (.int xb), .val (.int xc), .val (.int g4), .val (.int rA), .val (.int rB), .val (.int rC), .val (.int rv), .val (.int ex), .val (.int nr), .val (.int cs), .val (.int hA), .unset, .unset, .unset, .unset, .unset, .unset, .unset, .unset, .unset] [(.int hB)] := by
      by_cases cr : ¬ rB = 0
      · have s482 : Sit p l e _ s m _ below meth c _ st n0 0 0 _ 205 #[.val (.int u0), .val (.long u1), .second, .val (.int u3), .val (.int u4), .val (.int u5), .val (.int (3 : Int32)), .val (.int xa), .val (.int xb), .val (.int xc), .val (.int g4), .val (.int rA), .val (.int rB), .val (.int rC), .val (.int rv), .val (.int ex), .val (.int nr), .val (.int cs), .val (.int hA), .unset, .unset, .unset, .unset, .unset, .unset, .unset, .unset, .unset] [(.int (0 : Int32))] := s481
          |>.ifY at_197 (neT cr) (by decide) (by decide)
          |>.iconst (0 : Int32) at_204 rfl rfl
        exact ⟨0, Or.inr ⟨rfl, cr⟩, s482⟩
      · have s483 : Sit p l e _ s m _ below meth c _ st n0 0 0 _ 205 #[.val (.int u0), .val (.long u1), .second, .val (.int u3), .val (.int u4), .val (.int u5), .val (.int (3 : Int32)), .val (.int xa), .val (.int xb), .val (.int xc), .val (.int g4), .val (.int rA), .val (.int rB), .val (.int rC), .val (.int rv), .val (.int ex), .val (.int nr), .val (.int cs), .val (.int hA), .unset, .unset, .unset, .unset, .unset, .unset, .unset, .unset, .unset] [(.int (1 : Int32))] := s481
          |>.ifN at_197 ((neF (Classical.not_not.mp cr))) rfl
          |>.iconst (1 : Int32) at_200 rfl rfl
          |>.goto at_201 (by decide) (by decide)
        exact ⟨1, Or.inl ⟨rfl, Classical.not_not.mp cr⟩, s483⟩
    have s485 : Sit p l e _ s m _ below meth c _ st n0 0 0 _ 210 #[.val (.int u0), .val (.long u1), .second, .val (.int u3), .val (.int u4), .val (.int u5), .val (.int (3 : Int32)), .val (.int xa), .val (.int xb), .val (.int xc), .val (.int g4), .val (.int rA), .val (.int rB), .val (.int rC), .val (.int rv), .val (.int ex), .val (.int nr), .val (.int cs), .val (.int hA), .val (.int hB), .unset, .unset, .unset, .unset, .unset, .unset, .unset, .unset] [(.int (3 : Int32)), (.int (3 : Int32))] := s484
      |>.istore #[.val (.int u0), .val (.long u1), .second, .val (.int u3), .val (.int u4), .val (.int u5), .val (.int (3 : Int32)), .val (.int xa), .val (.int xb), .val (.int xc), .val (.int g4), .val (.int rA), .val (.int rB), .val (.int rC), .val (.int rv), .val (.int ex), .val (.int nr), .val (.int cs), .val (.int hA), .val (.int hB), .unset, .unset, .unset, .unset, .unset, .unset, .unset, .unset] at_205 rfl rfl
      |>.iload at_207 rfl rfl
      |>.iconst (3 : Int32) at_209 rfl rfl
    have s486 : Sit p l e _ s m _ below meth c _ st n0 0 0 _ 215 #[.val (.int u0), .val (.long u1), .second, .val (.int u3), .val (.int u4), .val (.int u5), .val (.int (3 : Int32)), .val (.int xa), .val (.int xb), .val (.int xc), .val (.int g4), .val (.int rA), .val (.int rB), .val (.int rC), .val (.int rv), .val (.int ex), .val (.int nr), .val (.int cs), .val (.int hA), .val (.int hB), .unset, .unset, .unset, .unset, .unset, .unset, .unset, .unset] [(.int rC)] := s485
      |>.icmpN at_210 (cmpF (cd := .lt) (show ¬ ((3 : Int) < (3 : Int)) from by decide)) rfl
      |>.iload at_213 rfl rfl
    obtain ⟨hC, e_hC, s489⟩ : ∃ hC : Int32, ((hC = 1 ∧ rC = 0) ∨ (hC = 0 ∧ ¬ rC = 0)) ∧ Sit p l e room_1 s m #[(.int u0), (.long u1), (.int u3), (.int u4), (.int u5)] below meth c code st n0 0 0 (fun hh => True) 223 #[.val (.int u0), .val (.long u1), .second, .val (.int u3), .val (.int u4), .val (.int u5), .val (.int (3 : Int32)), .val (.int xa), .val (.int xb), .val (.int xc), .val (.int g4), .val (.int rA), .val (.int rB), .val (.int rC), .val (.int rv), .val (.int ex), .val (.int nr), .val (.int cs), .val (.int hA), .val (.int hB), .unset, .unset, .unset, .unset, .unset, .unset, .unset, .unset] [(.int hC)] := by
      by_cases cr : ¬ rC = 0
      · have s487 : Sit p l e _ s m _ below meth c _ st n0 0 0 _ 223 #[.val (.int u0), .val (.long u1), .second, .val (.int u3), .val (.int u4), .val (.int u5), .val (.int (3 : Int32)), .val (.int xa), .val (.int xb), .val (.int xc), .val (.int g4), .val (.int rA), .val (.int rB), .val (.int rC), .val (.int rv), .val (.int ex), .val (.int nr), .val (.int cs), .val (.int hA), .val (.int hB), .unset, .unset, .unset, .unset, .unset, .unset, .unset, .unset] [(.int (0 : Int32))] := s486
          |>.ifY at_215 (neT cr) (by decide) (by decide)
          |>.iconst (0 : Int32) at_222 rfl rfl
        exact ⟨0, Or.inr ⟨rfl, cr⟩, s487⟩
      · have s488 : Sit p l e _ s m _ below meth c _ st n0 0 0 _ 223 #[.val (.int u0), .val (.long u1), .second, .val (.int u3), .val (.int u4), .val (.int u5), .val (.int (3 : Int32)), .val (.int xa), .val (.int xb), .val (.int xc), .val (.int g4), .val (.int rA), .val (.int rB), .val (.int rC), .val (.int rv), .val (.int ex), .val (.int nr), .val (.int cs), .val (.int hA), .val (.int hB), .unset, .unset, .unset, .unset, .unset, .unset, .unset, .unset] [(.int (1 : Int32))] := s486
          |>.ifN at_215 ((neF (Classical.not_not.mp cr))) rfl
          |>.iconst (1 : Int32) at_218 rfl rfl
          |>.goto at_219 (by decide) (by decide)
        exact ⟨1, Or.inl ⟨rfl, Classical.not_not.mp cr⟩, s488⟩
    have s490 : Sit p l e _ s m _ below meth c _ st n0 0 0 _ 225 #[.val (.int u0), .val (.long u1), .second, .val (.int u3), .val (.int u4), .val (.int u5), .val (.int (3 : Int32)), .val (.int xa), .val (.int xb), .val (.int xc), .val (.int g4), .val (.int rA), .val (.int rB), .val (.int rC), .val (.int rv), .val (.int ex), .val (.int nr), .val (.int cs), .val (.int hA), .val (.int hB), .val (.int hC), .unset, .unset, .unset, .unset, .unset, .unset, .unset] [] := s489
      |>.istore #[.val (.int u0), .val (.long u1), .second, .val (.int u3), .val (.int u4), .val (.int u5), .val (.int (3 : Int32)), .val (.int xa), .val (.int xb), .val (.int xc), .val (.int g4), .val (.int rA), .val (.int rB), .val (.int rC), .val (.int rv), .val (.int ex), .val (.int nr), .val (.int cs), .val (.int hA), .val (.int hB), .val (.int hC), .unset, .unset, .unset, .unset, .unset, .unset, .unset] at_223 rfl rfl
    obtain ⟨em, e_em, s491⟩ : ∃ em : Int32, ((em = 1 ∧ hA = 0 ∧ hB = 0 ∧ hC = 0) ∨ (em = 0 ∧ ¬ (hA = 0 ∧ hB = 0 ∧ hC = 0))) ∧ Sit p l e room_1 s m #[(.int u0), (.long u1), (.int u3), (.int u4), (.int u5)] below meth c code st n0 0 0 (fun hh => True) 245 #[.val (.int u0), .val (.long u1), .second, .val (.int u3), .val (.int u4), .val (.int u5), .val (.int (3 : Int32)), .val (.int xa), .val (.int xb), .val (.int xc), .val (.int g4), .val (.int rA), .val (.int rB), .val (.int rC), .val (.int rv), .val (.int ex), .val (.int nr), .val (.int cs), .val (.int hA), .val (.int hB), .val (.int hC), .unset, .unset, .unset, .unset, .unset, .unset, .unset] [(.int em)] := by
      have s492 : Sit p l e _ s m _ below meth c _ st n0 0 0 _ 227 #[.val (.int u0), .val (.long u1), .second, .val (.int u3), .val (.int u4), .val (.int u5), .val (.int (3 : Int32)), .val (.int xa), .val (.int xb), .val (.int xc), .val (.int g4), .val (.int rA), .val (.int rB), .val (.int rC), .val (.int rv), .val (.int ex), .val (.int nr), .val (.int cs), .val (.int hA), .val (.int hB), .val (.int hC), .unset, .unset, .unset, .unset, .unset, .unset, .unset] [(.int hA)] := s490
        |>.iload at_225 rfl rfl
      by_cases cy0 : ¬ hA = 0
      · have s493 : Sit p l e _ s m _ below meth c _ st n0 0 0 _ 245 #[.val (.int u0), .val (.long u1), .second, .val (.int u3), .val (.int u4), .val (.int u5), .val (.int (3 : Int32)), .val (.int xa), .val (.int xb), .val (.int xc), .val (.int g4), .val (.int rA), .val (.int rB), .val (.int rC), .val (.int rv), .val (.int ex), .val (.int nr), .val (.int cs), .val (.int hA), .val (.int hB), .val (.int hC), .unset, .unset, .unset, .unset, .unset, .unset, .unset] [(.int (0 : Int32))] := s492
          |>.ifY at_227 (neT cy0) (by decide) (by decide)
          |>.iconst (0 : Int32) at_244 rfl rfl
        exact ⟨0, Or.inr ⟨rfl, fun h => cy0 h.1⟩, s493⟩
      · have cz0 := Classical.not_not.mp cy0
        have s494 : Sit p l e _ s m _ below meth c _ st n0 0 0 _ 232 #[.val (.int u0), .val (.long u1), .second, .val (.int u3), .val (.int u4), .val (.int u5), .val (.int (3 : Int32)), .val (.int xa), .val (.int xb), .val (.int xc), .val (.int g4), .val (.int rA), .val (.int rB), .val (.int rC), .val (.int rv), .val (.int ex), .val (.int nr), .val (.int cs), .val (.int hA), .val (.int hB), .val (.int hC), .unset, .unset, .unset, .unset, .unset, .unset, .unset] [(.int hB)] := s492
          |>.ifN at_227 ((neF (Classical.not_not.mp cy0))) rfl
          |>.iload at_230 rfl rfl
        by_cases cy1 : ¬ hB = 0
        · have s495 : Sit p l e _ s m _ below meth c _ st n0 0 0 _ 245 #[.val (.int u0), .val (.long u1), .second, .val (.int u3), .val (.int u4), .val (.int u5), .val (.int (3 : Int32)), .val (.int xa), .val (.int xb), .val (.int xc), .val (.int g4), .val (.int rA), .val (.int rB), .val (.int rC), .val (.int rv), .val (.int ex), .val (.int nr), .val (.int cs), .val (.int hA), .val (.int hB), .val (.int hC), .unset, .unset, .unset, .unset, .unset, .unset, .unset] [(.int (0 : Int32))] := s494
            |>.ifY at_232 (neT cy1) (by decide) (by decide)
            |>.iconst (0 : Int32) at_244 rfl rfl
          exact ⟨0, Or.inr ⟨rfl, fun h => cy1 h.2.1⟩, s495⟩
        · have cz1 := Classical.not_not.mp cy1
          have s496 : Sit p l e _ s m _ below meth c _ st n0 0 0 _ 237 #[.val (.int u0), .val (.long u1), .second, .val (.int u3), .val (.int u4), .val (.int u5), .val (.int (3 : Int32)), .val (.int xa), .val (.int xb), .val (.int xc), .val (.int g4), .val (.int rA), .val (.int rB), .val (.int rC), .val (.int rv), .val (.int ex), .val (.int nr), .val (.int cs), .val (.int hA), .val (.int hB), .val (.int hC), .unset, .unset, .unset, .unset, .unset, .unset, .unset] [(.int hC)] := s494
            |>.ifN at_232 ((neF (Classical.not_not.mp cy1))) rfl
            |>.iload at_235 rfl rfl
          by_cases cy2 : ¬ hC = 0
          · have s497 : Sit p l e _ s m _ below meth c _ st n0 0 0 _ 245 #[.val (.int u0), .val (.long u1), .second, .val (.int u3), .val (.int u4), .val (.int u5), .val (.int (3 : Int32)), .val (.int xa), .val (.int xb), .val (.int xc), .val (.int g4), .val (.int rA), .val (.int rB), .val (.int rC), .val (.int rv), .val (.int ex), .val (.int nr), .val (.int cs), .val (.int hA), .val (.int hB), .val (.int hC), .unset, .unset, .unset, .unset, .unset, .unset, .unset] [(.int (0 : Int32))] := s496
              |>.ifY at_237 (neT cy2) (by decide) (by decide)
              |>.iconst (0 : Int32) at_244 rfl rfl
            exact ⟨0, Or.inr ⟨rfl, fun h => cy2 h.2.2⟩, s497⟩
          · have cz2 := Classical.not_not.mp cy2
            have s498 : Sit p l e _ s m _ below meth c _ st n0 0 0 _ 245 #[.val (.int u0), .val (.long u1), .second, .val (.int u3), .val (.int u4), .val (.int u5), .val (.int (3 : Int32)), .val (.int xa), .val (.int xb), .val (.int xc), .val (.int g4), .val (.int rA), .val (.int rB), .val (.int rC), .val (.int rv), .val (.int ex), .val (.int nr), .val (.int cs), .val (.int hA), .val (.int hB), .val (.int hC), .unset, .unset, .unset, .unset, .unset, .unset, .unset] [(.int (1 : Int32))] := s496
              |>.ifN at_237 ((neF (Classical.not_not.mp cy2))) rfl
              |>.iconst (1 : Int32) at_240 rfl rfl
              |>.goto at_241 (by decide) (by decide)
            exact ⟨1, Or.inl ⟨rfl, cz0, cz1, cz2⟩, s498⟩
    have s499 : Sit p l e _ s m _ below meth c _ st n0 0 0 _ 250 #[.val (.int u0), .val (.long u1), .second, .val (.int u3), .val (.int u4), .val (.int u5), .val (.int (3 : Int32)), .val (.int xa), .val (.int xb), .val (.int xc), .val (.int g4), .val (.int rA), .val (.int rB), .val (.int rC), .val (.int rv), .val (.int ex), .val (.int nr), .val (.int cs), .val (.int hA), .val (.int hB), .val (.int hC), .val (.int em), .unset, .unset, .unset, .unset, .unset, .unset] [(.int (1 : Int32)), (.int (3 : Int32))] := s491
      |>.istore #[.val (.int u0), .val (.long u1), .second, .val (.int u3), .val (.int u4), .val (.int u5), .val (.int (3 : Int32)), .val (.int xa), .val (.int xb), .val (.int xc), .val (.int g4), .val (.int rA), .val (.int rB), .val (.int rC), .val (.int rv), .val (.int ex), .val (.int nr), .val (.int cs), .val (.int hA), .val (.int hB), .val (.int hC), .val (.int em), .unset, .unset, .unset, .unset, .unset, .unset] at_245 rfl rfl
      |>.iload at_247 rfl rfl
      |>.iconst (1 : Int32) at_249 rfl rfl
    have s500 : Sit p l e _ s m _ below meth c _ st n0 0 0 _ 261 #[.val (.int u0), .val (.long u1), .second, .val (.int u3), .val (.int u4), .val (.int u5), .val (.int (3 : Int32)), .val (.int xa), .val (.int xb), .val (.int xc), .val (.int g4), .val (.int rA), .val (.int rB), .val (.int rC), .val (.int rv), .val (.int ex), .val (.int nr), .val (.int cs), .val (.int hA), .val (.int hB), .val (.int hC), .val (.int em), .unset, .unset, .unset, .unset, .unset, .unset] [(.int (2 : Int32)), (.int (3 : Int32))] := s499
      |>.icmpY at_250 (neT (show ¬ (3 : Int32) = (1 : Int32) from by decide)) (by decide) (by decide)
      |>.iload at_258 rfl rfl
      |>.iconst (2 : Int32) at_260 rfl rfl
    have s501 : Sit p l e _ s m _ below meth c _ st n0 0 0 _ 272 #[.val (.int u0), .val (.long u1), .second, .val (.int u3), .val (.int u4), .val (.int u5), .val (.int (3 : Int32)), .val (.int xa), .val (.int xb), .val (.int xc), .val (.int g4), .val (.int rA), .val (.int rB), .val (.int rC), .val (.int rv), .val (.int ex), .val (.int nr), .val (.int cs), .val (.int hA), .val (.int hB), .val (.int hC), .val (.int em), .unset, .unset, .unset, .unset, .unset, .unset] [(.int (3 : Int32)), (.int (3 : Int32))] := s500
      |>.icmpY at_261 (neT (show ¬ (3 : Int32) = (2 : Int32) from by decide)) (by decide) (by decide)
      |>.iload at_269 rfl rfl
      |>.iconst (3 : Int32) at_271 rfl rfl
    have s502 : Sit p l e _ s m _ below meth c _ st n0 0 0 _ 285 #[.val (.int u0), .val (.long u1), .second, .val (.int u3), .val (.int u4), .val (.int u5), .val (.int (3 : Int32)), .val (.int xa), .val (.int xb), .val (.int xc), .val (.int g4), .val (.int rA), .val (.int rB), .val (.int rC), .val (.int rv), .val (.int ex), .val (.int nr), .val (.int cs), .val (.int hA), .val (.int hB), .val (.int hC), .val (.int em), .val (.int xc), .unset, .unset, .unset, .unset, .unset] [(.int em)] := s501
      |>.icmpN at_272 ((neF (Classical.not_not.mp (show ¬ (¬ (3 : Int32) = (3 : Int32)) from fun h => h rfl)))) rfl
      |>.iload at_275 rfl rfl
      |>.goto at_277 (by decide) (by decide)
      |>.istore #[.val (.int u0), .val (.long u1), .second, .val (.int u3), .val (.int u4), .val (.int u5), .val (.int (3 : Int32)), .val (.int xa), .val (.int xb), .val (.int xc), .val (.int g4), .val (.int rA), .val (.int rB), .val (.int rC), .val (.int rv), .val (.int ex), .val (.int nr), .val (.int cs), .val (.int hA), .val (.int hB), .val (.int hC), .val (.int em), .val (.int xc), .unset, .unset, .unset, .unset, .unset] at_281 rfl rfl
      |>.iload at_283 rfl rfl
    obtain ⟨ee, ⟨ee1, ee2⟩, s503⟩ : ∃ ee : Int32, ((¬ em = 0 → ee = (u5 &&& (1073741823 : Int32))) ∧ (em = 0 → ee = (xc + g4))) ∧ Sit p l e room_1 s m #[(.int u0), (.long u1), (.int u3), (.int u4), (.int u5)] below meth c code st n0 0 0 (fun hh => True) 301 #[.val (.int u0), .val (.long u1), .second, .val (.int u3), .val (.int u4), .val (.int u5), .val (.int (3 : Int32)), .val (.int xa), .val (.int xb), .val (.int xc), .val (.int g4), .val (.int rA), .val (.int rB), .val (.int rC), .val (.int rv), .val (.int ex), .val (.int nr), .val (.int cs), .val (.int hA), .val (.int hB), .val (.int hC), .val (.int em), .val (.int xc), .unset, .unset, .unset, .unset, .unset] [(.int ee)] := by
      by_cases ce : em = 0
      · have s504 : Sit p l e _ s m _ below meth c _ st n0 0 0 _ 301 #[.val (.int u0), .val (.long u1), .second, .val (.int u3), .val (.int u4), .val (.int u5), .val (.int (3 : Int32)), .val (.int xa), .val (.int xb), .val (.int xc), .val (.int g4), .val (.int rA), .val (.int rB), .val (.int rC), .val (.int rv), .val (.int ex), .val (.int nr), .val (.int cs), .val (.int hA), .val (.int hB), .val (.int hC), .val (.int em), .val (.int xc), .unset, .unset, .unset, .unset, .unset] [(.int (xc + g4))] := s502
          |>.ifY at_285 (eqT ce) (by decide) (by decide)
          |>.iload at_296 rfl rfl
          |>.iload at_298 rfl rfl
          |>.iadd at_300 rfl
        exact ⟨_, ⟨fun h => absurd ce h, fun _ => rfl⟩, s504⟩
      · have s505 : Sit p l e _ s m _ below meth c _ st n0 0 0 _ 301 #[.val (.int u0), .val (.long u1), .second, .val (.int u3), .val (.int u4), .val (.int u5), .val (.int (3 : Int32)), .val (.int xa), .val (.int xb), .val (.int xc), .val (.int g4), .val (.int rA), .val (.int rB), .val (.int rC), .val (.int rv), .val (.int ex), .val (.int nr), .val (.int cs), .val (.int hA), .val (.int hB), .val (.int hC), .val (.int em), .val (.int xc), .unset, .unset, .unset, .unset, .unset] [(.int (u5 &&& (1073741823 : Int32)))] := s502
          |>.ifN at_285 (eqF ce) rfl
          |>.iload at_288 rfl rfl
          |>.ldc hZ hown (wi hw 0 rfl) at_290 rfl
          |>.iand at_292 rfl
          |>.goto at_293 (by decide) (by decide)
        exact ⟨_, ⟨fun _ => rfl, fun h => absurd h ce⟩, s505⟩
    have re : 0 ≤ ee.toInt := by
      by_cases h : em = 0
      · rw [ee2 h, add_ti (by omega) (by omega)]; omega
      · rw [ee1 h]; exact (m30 _).1
    have rf : em = 0 → ee.toInt = xc.toInt + g4.toInt := fun h => by rw [ee2 h, add_ti (by omega) (by omega)]
    have s506 : Sit p l e _ s m _ below meth c _ st n0 0 0 _ 303 #[.val (.int u0), .val (.long u1), .second, .val (.int u3), .val (.int u4), .val (.int u5), .val (.int (3 : Int32)), .val (.int xa), .val (.int xb), .val (.int xc), .val (.int g4), .val (.int rA), .val (.int rB), .val (.int rC), .val (.int rv), .val (.int ex), .val (.int nr), .val (.int cs), .val (.int hA), .val (.int hB), .val (.int hC), .val (.int em), .val (.int xc), .val (.int ee), .unset, .unset, .unset, .unset] [] := s503
      |>.istore #[.val (.int u0), .val (.long u1), .second, .val (.int u3), .val (.int u4), .val (.int u5), .val (.int (3 : Int32)), .val (.int xa), .val (.int xb), .val (.int xc), .val (.int g4), .val (.int rA), .val (.int rB), .val (.int rC), .val (.int rv), .val (.int ex), .val (.int nr), .val (.int cs), .val (.int hA), .val (.int hB), .val (.int hC), .val (.int em), .val (.int xc), .val (.int ee), .unset, .unset, .unset, .unset] at_301 rfl rfl
    obtain ⟨o, g_o, s507⟩ := Sit.newo (P' := fun o => fun hh => Exa Z hh o "reenact/trace/IntBits" ∧ Fld Z hh o "reenact/trace/IntBits" "words" "[J" .null ∧ Fld Z hh o "reenact/trace/IntBits" "greatest" "I" (.int (0 : Int32)) ∧ Fld Z hh o "reenact/trace/IntBits" "size" "I" (.int (0 : Int32)) ∧ Fld Z hh o "reenact/trace/IntBits" "base" "I" (.int (0 : Int32)) ∧ Fld Z hh o "reenact/trace/IntBits" "head" "I" (.int (0 : Int32))) s506 hZ hown (wi hw 2 rfl) (wi hw 3 rfl) (wi hw 4 rfl) (by decide) (by decide) (fun hh hh' x q e X D => ⟨D.1, D.2 (Or.inl (wi hw 13 rfl)) (ty := (.array .long)) (by decide), D.2 (Or.inl (wi hw 15 rfl)) (ty := .int) (by decide), D.2 (Or.inl (wi hw 22 rfl)) (ty := .int) (by decide), D.2 (Or.inl (wi hw 24 rfl)) (ty := .int) (by decide), D.2 (Or.inl (wi hw 26 rfl)) (ty := .int) (by decide)⟩) at_303 (pc' := 306) rfl
    have s508 : Sit p l e _ s m _ below meth c _ st n0 1 5 _ 306 #[.val (.int u0), .val (.long u1), .second, .val (.int u3), .val (.int u4), .val (.int u5), .val (.int (3 : Int32)), .val (.int xa), .val (.int xb), .val (.int xc), .val (.int g4), .val (.int rA), .val (.int rB), .val (.int rC), .val (.int rv), .val (.int ex), .val (.int nr), .val (.int cs), .val (.int hA), .val (.int hB), .val (.int hC), .val (.int em), .val (.int xc), .val (.int ee), .unset, .unset, .unset, .unset] [(.ref o)] := s507
    have s509 : Sit p l e _ s m _ below meth c _ st n0 1 5 _ 307 #[.val (.int u0), .val (.long u1), .second, .val (.int u3), .val (.int u4), .val (.int u5), .val (.int (3 : Int32)), .val (.int xa), .val (.int xb), .val (.int xc), .val (.int g4), .val (.int rA), .val (.int rB), .val (.int rC), .val (.int rv), .val (.int ex), .val (.int nr), .val (.int cs), .val (.int hA), .val (.int hB), .val (.int hC), .val (.int em), .val (.int xc), .val (.int ee), .unset, .unset, .unset, .unset] [(.ref o), (.ref o)] := s508
      |>.dup at_306 rfl rfl
    obtain ⟨r511, s510⟩ := Sit.callI (y := (⟨"reenact/trace/IntBits", "<init>", "()V"⟩ : MethodName)) (W := 1) (Q := fun rv_ hh => ∃ v : Addr, (rv_ = none ∧ (n0 ≤ v ∧ @Ne Nat o v)) ∧ (fun hh => Exa Z hh o "reenact/trace/IntBits" ∧ Fld Z hh o "reenact/trace/IntBits" "words" "[J" (.ref v) ∧ Fld Z hh o "reenact/trace/IntBits" "greatest" "I" (.int (-1 : Int32)) ∧ Fld Z hh o "reenact/trace/IntBits" "size" "I" (.int (0 : Int32)) ∧ Fld Z hh o "reenact/trace/IntBits" "base" "I" (.int (0 : Int32)) ∧ Fld Z hh o "reenact/trace/IntBits" "head" "I" (.int (0 : Int32)) ∧ AV Z hh v .long ([0, 0, 0, 0].map Value.long)) hh) [] [(.ref o)] s509 rfl hZ hown (wi hw 5 rfl) (wi hw 6 rfl) (wi hw 7 rfl) (wi hw 4 rfl) (by decide) (fun h1 hP hn => (rmI l Z a0 hw [] o h1 n0 hn g_o hP).mono fun rv_ hh q => by
        obtain ⟨e1, v', e2, e3⟩ := q
        exact ⟨v', ⟨e1, e2⟩, e3⟩) hml rfl (lenOf pd_4 rfl) at_307 (Nat.le_of_eq rfl) (by decide) (by decide) (by decide) (by decide) (pc' := 310) rfl
    obtain ⟨v, s513⟩ := s510.ex
    obtain ⟨_, ⟨er511, spr511⟩, _⟩ := s513.facts
    subst er511
    have s512 : Sit p l e _ s m _ below meth c _ st n0 2 9 (fun hh => Exa Z hh o "reenact/trace/IntBits" ∧ Fld Z hh o "reenact/trace/IntBits" "words" "[J" (.ref v) ∧ Fld Z hh o "reenact/trace/IntBits" "greatest" "I" (.int (-1 : Int32)) ∧ Fld Z hh o "reenact/trace/IntBits" "size" "I" (.int (0 : Int32)) ∧ Fld Z hh o "reenact/trace/IntBits" "base" "I" (.int (0 : Int32)) ∧ Fld Z hh o "reenact/trace/IntBits" "head" "I" (.int (0 : Int32)) ∧ AV Z hh v .long ([0, 0, 0, 0].map Value.long)) 310 #[.val (.int u0), .val (.long u1), .second, .val (.int u3), .val (.int u4), .val (.int u5), .val (.int (3 : Int32)), .val (.int xa), .val (.int xb), .val (.int xc), .val (.int g4), .val (.int rA), .val (.int rB), .val (.int rC), .val (.int rv), .val (.int ex), .val (.int nr), .val (.int cs), .val (.int hA), .val (.int hB), .val (.int hC), .val (.int em), .val (.int xc), .val (.int ee), .unset, .unset, .unset, .unset] [(.ref o)] := s513.mono fun _ q => q.2
    obtain ⟨gv0, ne0⟩ := spr511
    have V0 : Inv [] (0 : Int32).toInt (0 : Int32).toInt (-1 : Int32).toInt [0, 0, 0, 0] := inv0
    have hz0 : (0 : Int32).toInt = (([] : List Int).length : Int) := rfl
    have hl0 : ([0, 0, 0, 0] : List Int64).length ≤ 4 := by decide
    have s514 : Sit p l e _ s m _ below meth c _ st n0 2 9 _ 315 #[.val (.int u0), .val (.long u1), .second, .val (.int u3), .val (.int u4), .val (.int u5), .val (.int (3 : Int32)), .val (.int xa), .val (.int xb), .val (.int xc), .val (.int g4), .val (.int rA), .val (.int rB), .val (.int rC), .val (.int rv), .val (.int ex), .val (.int nr), .val (.int cs), .val (.int hA), .val (.int hB), .val (.int hC), .val (.int em), .val (.int xc), .val (.int ee), .val (.ref o), .unset, .unset, .unset] [(.int (1 : Int32)), (.int (3 : Int32))] := s512
      |>.astore #[.val (.int u0), .val (.long u1), .second, .val (.int u3), .val (.int u4), .val (.int u5), .val (.int (3 : Int32)), .val (.int xa), .val (.int xb), .val (.int xc), .val (.int g4), .val (.int rA), .val (.int rB), .val (.int rC), .val (.int rv), .val (.int ex), .val (.int nr), .val (.int cs), .val (.int hA), .val (.int hB), .val (.int hC), .val (.int em), .val (.int xc), .val (.int ee), .val (.ref o), .unset, .unset, .unset] at_310 rfl rfl
      |>.iload at_312 rfl rfl
      |>.iconst (1 : Int32) at_314 rfl rfl
    have s515 : Sit p l e _ s m _ below meth c _ st n0 2 9 _ 322 #[.val (.int u0), .val (.long u1), .second, .val (.int u3), .val (.int u4), .val (.int u5), .val (.int (3 : Int32)), .val (.int xa), .val (.int xb), .val (.int xc), .val (.int g4), .val (.int rA), .val (.int rB), .val (.int rC), .val (.int rv), .val (.int ex), .val (.int nr), .val (.int cs), .val (.int hA), .val (.int hB), .val (.int hC), .val (.int em), .val (.int xc), .val (.int ee), .val (.ref o), .unset, .unset, .unset] [(.int xa), (.ref o)] := s514
      |>.icmpN at_315 (cmpF (cd := .lt) (show ¬ ((3 : Int) < (1 : Int)) from by decide)) rfl
      |>.aload at_318 rfl rfl
      |>.iload at_320 rfl rfl
    obtain ⟨r518, s517⟩ := Sit.callV (C := "reenact/trace/IntBits") (y := (⟨"reenact/trace/IntBits", "add", "(I)V"⟩ : MethodName)) (W := 0) (Q := fun rv_ hh => ∃ v516 : Addr, ∃ b516 : Int32, ∃ h516 : Int32, ∃ z516 : Int32, ∃ ws516 : List Int64, (rv_ = none ∧ (n0 ≤ v516 ∧ @Ne Nat o v516 ∧ z516.toInt = ((xa.toInt :: []).length : Int) ∧ Inv (xa.toInt :: []) b516.toInt h516.toInt xa.toInt ws516 ∧ ws516.length ≤ 4)) ∧ (fun hh => Exa Z hh o "reenact/trace/IntBits" ∧ Fld Z hh o "reenact/trace/IntBits" "words" "[J" (.ref v516) ∧ Fld Z hh o "reenact/trace/IntBits" "greatest" "I" (.int xa) ∧ Fld Z hh o "reenact/trace/IntBits" "size" "I" (.int z516) ∧ Fld Z hh o "reenact/trace/IntBits" "base" "I" (.int b516) ∧ Fld Z hh o "reenact/trace/IntBits" "head" "I" (.int h516) ∧ AV Z hh v516 .long (ws516.map Value.long)) hh) [(.int xa)] [] s515 hZ hown (wi hw 16 rfl) (wi hw 17 rfl) (wi hw 19 rfl) (wi hw 18 rfl) (wi hw 20 rfl) (wi hw 4 rfl) (by decide) (fun hh q => q.1) (fun h1 hP hn => (rmA l Z a0 hw [] o xa v (0 : Int32) (0 : Int32) (-1 : Int32) (0 : Int32) [0, 0, 0, 0] ([] : List Int) xa.toInt 4 h1 n0 hn g_o gv0 ne0 V0 hz0 (by simp) (show (-1 : Int32).toInt < _ by have e : (-1 : Int32).toInt = -1 := rfl; omega) (by omega) (fun y hy => by simp at hy) (by omega) (by omega) (by decide) hP).mono fun rv_ hh q => by
        obtain ⟨e1, v', b', h', z', ws', e2, e3⟩ := q
        exact ⟨v', b', h', z', ws', ⟨e1, e2⟩, e3⟩) hml rfl (lenOf pd_2 rfl) at_322 (Nat.le_of_eq rfl) (by decide) (by decide) (by decide) (by decide) (pc' := 325) rfl
    obtain ⟨v516, s520⟩ := s517.ex
    obtain ⟨b516, s521⟩ := s520.ex
    obtain ⟨h516, s522⟩ := s521.ex
    obtain ⟨z516, s523⟩ := s522.ex
    obtain ⟨ws516, s524⟩ := s523.ex
    obtain ⟨_, ⟨er518, spr518⟩, _⟩ := s524.facts
    subst er518
    have s519 : Sit p l e _ s m _ below meth c _ st n0 3 13 (fun hh => Exa Z hh o "reenact/trace/IntBits" ∧ Fld Z hh o "reenact/trace/IntBits" "words" "[J" (.ref v516) ∧ Fld Z hh o "reenact/trace/IntBits" "greatest" "I" (.int xa) ∧ Fld Z hh o "reenact/trace/IntBits" "size" "I" (.int z516) ∧ Fld Z hh o "reenact/trace/IntBits" "base" "I" (.int b516) ∧ Fld Z hh o "reenact/trace/IntBits" "head" "I" (.int h516) ∧ AV Z hh v516 .long (ws516.map Value.long)) 325 #[.val (.int u0), .val (.long u1), .second, .val (.int u3), .val (.int u4), .val (.int u5), .val (.int (3 : Int32)), .val (.int xa), .val (.int xb), .val (.int xc), .val (.int g4), .val (.int rA), .val (.int rB), .val (.int rC), .val (.int rv), .val (.int ex), .val (.int nr), .val (.int cs), .val (.int hA), .val (.int hB), .val (.int hC), .val (.int em), .val (.int xc), .val (.int ee), .val (.ref o), .unset, .unset, .unset] [] := s524.mono fun _ q => q.2
    obtain ⟨gv516, ne516, hz516, V516, hl516⟩ := spr518
    have V516 : Inv [xa.toInt] b516.toInt h516.toInt xa.toInt ws516 := V516
    have hz516 : z516.toInt = ([xa.toInt].length : Int) := hz516
    have s525 : Sit p l e _ s m _ below meth c _ st n0 3 13 _ 328 #[.val (.int u0), .val (.long u1), .second, .val (.int u3), .val (.int u4), .val (.int u5), .val (.int (3 : Int32)), .val (.int xa), .val (.int xb), .val (.int xc), .val (.int g4), .val (.int rA), .val (.int rB), .val (.int rC), .val (.int rv), .val (.int ex), .val (.int nr), .val (.int cs), .val (.int hA), .val (.int hB), .val (.int hC), .val (.int em), .val (.int xc), .val (.int ee), .val (.ref o), .unset, .unset, .unset] [(.int (2 : Int32)), (.int (3 : Int32))] := s519
      |>.iload at_325 rfl rfl
      |>.iconst (2 : Int32) at_327 rfl rfl
    have s526 : Sit p l e _ s m _ below meth c _ st n0 3 13 _ 335 #[.val (.int u0), .val (.long u1), .second, .val (.int u3), .val (.int u4), .val (.int u5), .val (.int (3 : Int32)), .val (.int xa), .val (.int xb), .val (.int xc), .val (.int g4), .val (.int rA), .val (.int rB), .val (.int rC), .val (.int rv), .val (.int ex), .val (.int nr), .val (.int cs), .val (.int hA), .val (.int hB), .val (.int hC), .val (.int em), .val (.int xc), .val (.int ee), .val (.ref o), .unset, .unset, .unset] [(.int xb), (.ref o)] := s525
      |>.icmpN at_328 (cmpF (cd := .lt) (show ¬ ((3 : Int) < (2 : Int)) from by decide)) rfl
      |>.aload at_331 rfl rfl
      |>.iload at_333 rfl rfl
    obtain ⟨r529, s528⟩ := Sit.callV (C := "reenact/trace/IntBits") (y := (⟨"reenact/trace/IntBits", "add", "(I)V"⟩ : MethodName)) (W := 0) (Q := fun rv_ hh => ∃ v527 : Addr, ∃ b527 : Int32, ∃ h527 : Int32, ∃ z527 : Int32, ∃ ws527 : List Int64, (rv_ = none ∧ (n0 ≤ v527 ∧ @Ne Nat o v527 ∧ z527.toInt = ((xb.toInt :: [xa.toInt]).length : Int) ∧ Inv (xb.toInt :: [xa.toInt]) b527.toInt h527.toInt xb.toInt ws527 ∧ ws527.length ≤ 132)) ∧ (fun hh => Exa Z hh o "reenact/trace/IntBits" ∧ Fld Z hh o "reenact/trace/IntBits" "words" "[J" (.ref v527) ∧ Fld Z hh o "reenact/trace/IntBits" "greatest" "I" (.int xb) ∧ Fld Z hh o "reenact/trace/IntBits" "size" "I" (.int z527) ∧ Fld Z hh o "reenact/trace/IntBits" "base" "I" (.int b527) ∧ Fld Z hh o "reenact/trace/IntBits" "head" "I" (.int h527) ∧ AV Z hh v527 .long (ws527.map Value.long)) hh) [(.int xb)] [] s526 hZ hown (wi hw 16 rfl) (wi hw 17 rfl) (wi hw 19 rfl) (wi hw 18 rfl) (wi hw 20 rfl) (wi hw 4 rfl) (by decide) (fun hh q => q.1) (fun h1 hP hn => (rmA l Z a0 hw [] o xb v516 b516 h516 xa z516 ws516 [xa.toInt] xa.toInt 132 h1 n0 hn g_o gv516 ne516 V516 hz516 (by simp) (by omega) (by omega) (fun y hy => by simp at hy; omega) (by omega) (by omega) (by decide) hP).mono fun rv_ hh q => by
        obtain ⟨e1, v', b', h', z', ws', e2, e3⟩ := q
        exact ⟨v', b', h', z', ws', ⟨e1, e2⟩, e3⟩) hml rfl (lenOf pd_2 rfl) at_335 (Nat.le_of_eq rfl) (by decide) (by decide) (by decide) (by decide) (pc' := 338) rfl
    obtain ⟨v527, s531⟩ := s528.ex
    obtain ⟨b527, s532⟩ := s531.ex
    obtain ⟨h527, s533⟩ := s532.ex
    obtain ⟨z527, s534⟩ := s533.ex
    obtain ⟨ws527, s535⟩ := s534.ex
    obtain ⟨_, ⟨er529, spr529⟩, _⟩ := s535.facts
    subst er529
    have s530 : Sit p l e _ s m _ below meth c _ st n0 4 145 (fun hh => Exa Z hh o "reenact/trace/IntBits" ∧ Fld Z hh o "reenact/trace/IntBits" "words" "[J" (.ref v527) ∧ Fld Z hh o "reenact/trace/IntBits" "greatest" "I" (.int xb) ∧ Fld Z hh o "reenact/trace/IntBits" "size" "I" (.int z527) ∧ Fld Z hh o "reenact/trace/IntBits" "base" "I" (.int b527) ∧ Fld Z hh o "reenact/trace/IntBits" "head" "I" (.int h527) ∧ AV Z hh v527 .long (ws527.map Value.long)) 338 #[.val (.int u0), .val (.long u1), .second, .val (.int u3), .val (.int u4), .val (.int u5), .val (.int (3 : Int32)), .val (.int xa), .val (.int xb), .val (.int xc), .val (.int g4), .val (.int rA), .val (.int rB), .val (.int rC), .val (.int rv), .val (.int ex), .val (.int nr), .val (.int cs), .val (.int hA), .val (.int hB), .val (.int hC), .val (.int em), .val (.int xc), .val (.int ee), .val (.ref o), .unset, .unset, .unset] [] := s535.mono fun _ q => q.2
    obtain ⟨gv527, ne527, hz527, V527, hl527⟩ := spr529
    have V527 : Inv [xb.toInt, xa.toInt] b527.toInt h527.toInt xb.toInt ws527 := V527
    have hz527 : z527.toInt = ([xb.toInt, xa.toInt].length : Int) := hz527
    have s536 : Sit p l e _ s m _ below meth c _ st n0 4 145 _ 341 #[.val (.int u0), .val (.long u1), .second, .val (.int u3), .val (.int u4), .val (.int u5), .val (.int (3 : Int32)), .val (.int xa), .val (.int xb), .val (.int xc), .val (.int g4), .val (.int rA), .val (.int rB), .val (.int rC), .val (.int rv), .val (.int ex), .val (.int nr), .val (.int cs), .val (.int hA), .val (.int hB), .val (.int hC), .val (.int em), .val (.int xc), .val (.int ee), .val (.ref o), .unset, .unset, .unset] [(.int (3 : Int32)), (.int (3 : Int32))] := s530
      |>.iload at_338 rfl rfl
      |>.iconst (3 : Int32) at_340 rfl rfl
    have s537 : Sit p l e _ s m _ below meth c _ st n0 4 145 _ 348 #[.val (.int u0), .val (.long u1), .second, .val (.int u3), .val (.int u4), .val (.int u5), .val (.int (3 : Int32)), .val (.int xa), .val (.int xb), .val (.int xc), .val (.int g4), .val (.int rA), .val (.int rB), .val (.int rC), .val (.int rv), .val (.int ex), .val (.int nr), .val (.int cs), .val (.int hA), .val (.int hB), .val (.int hC), .val (.int em), .val (.int xc), .val (.int ee), .val (.ref o), .unset, .unset, .unset] [(.int xc), (.ref o)] := s536
      |>.icmpN at_341 (cmpF (cd := .lt) (show ¬ ((3 : Int) < (3 : Int)) from by decide)) rfl
      |>.aload at_344 rfl rfl
      |>.iload at_346 rfl rfl
    obtain ⟨r540, s539⟩ := Sit.callV (C := "reenact/trace/IntBits") (y := (⟨"reenact/trace/IntBits", "add", "(I)V"⟩ : MethodName)) (W := 0) (Q := fun rv_ hh => ∃ v538 : Addr, ∃ b538 : Int32, ∃ h538 : Int32, ∃ z538 : Int32, ∃ ws538 : List Int64, (rv_ = none ∧ (n0 ≤ v538 ∧ @Ne Nat o v538 ∧ z538.toInt = ((xc.toInt :: [xb.toInt, xa.toInt]).length : Int) ∧ Inv (xc.toInt :: [xb.toInt, xa.toInt]) b538.toInt h538.toInt xc.toInt ws538 ∧ ws538.length ≤ 260)) ∧ (fun hh => Exa Z hh o "reenact/trace/IntBits" ∧ Fld Z hh o "reenact/trace/IntBits" "words" "[J" (.ref v538) ∧ Fld Z hh o "reenact/trace/IntBits" "greatest" "I" (.int xc) ∧ Fld Z hh o "reenact/trace/IntBits" "size" "I" (.int z538) ∧ Fld Z hh o "reenact/trace/IntBits" "base" "I" (.int b538) ∧ Fld Z hh o "reenact/trace/IntBits" "head" "I" (.int h538) ∧ AV Z hh v538 .long (ws538.map Value.long)) hh) [(.int xc)] [] s537 hZ hown (wi hw 16 rfl) (wi hw 17 rfl) (wi hw 19 rfl) (wi hw 18 rfl) (wi hw 20 rfl) (wi hw 4 rfl) (by decide) (fun hh q => q.1) (fun h1 hP hn => (rmA l Z a0 hw [] o xc v527 b527 h527 xb z527 ws527 [xb.toInt, xa.toInt] xa.toInt 260 h1 n0 hn g_o gv527 ne527 V527 hz527 (by simp) (by omega) (by omega) (fun y hy => by simp at hy; omega) (by omega) (by omega) (by decide) hP).mono fun rv_ hh q => by
        obtain ⟨e1, v', b', h', z', ws', e2, e3⟩ := q
        exact ⟨v', b', h', z', ws', ⟨e1, e2⟩, e3⟩) hml rfl (lenOf pd_2 rfl) at_348 (Nat.le_of_eq rfl) (by decide) (by decide) (by decide) (by decide) (pc' := 351) rfl
    obtain ⟨v538, s542⟩ := s539.ex
    obtain ⟨b538, s543⟩ := s542.ex
    obtain ⟨h538, s544⟩ := s543.ex
    obtain ⟨z538, s545⟩ := s544.ex
    obtain ⟨ws538, s546⟩ := s545.ex
    obtain ⟨_, ⟨er540, spr540⟩, _⟩ := s546.facts
    subst er540
    have s541 : Sit p l e _ s m _ below meth c _ st n0 5 405 (fun hh => Exa Z hh o "reenact/trace/IntBits" ∧ Fld Z hh o "reenact/trace/IntBits" "words" "[J" (.ref v538) ∧ Fld Z hh o "reenact/trace/IntBits" "greatest" "I" (.int xc) ∧ Fld Z hh o "reenact/trace/IntBits" "size" "I" (.int z538) ∧ Fld Z hh o "reenact/trace/IntBits" "base" "I" (.int b538) ∧ Fld Z hh o "reenact/trace/IntBits" "head" "I" (.int h538) ∧ AV Z hh v538 .long (ws538.map Value.long)) 351 #[.val (.int u0), .val (.long u1), .second, .val (.int u3), .val (.int u4), .val (.int u5), .val (.int (3 : Int32)), .val (.int xa), .val (.int xb), .val (.int xc), .val (.int g4), .val (.int rA), .val (.int rB), .val (.int rC), .val (.int rv), .val (.int ex), .val (.int nr), .val (.int cs), .val (.int hA), .val (.int hB), .val (.int hC), .val (.int em), .val (.int xc), .val (.int ee), .val (.ref o), .unset, .unset, .unset] [] := s546.mono fun _ q => q.2
    obtain ⟨gv538, ne538, hz538, V538, hl538⟩ := spr540
    have V538 : Inv [xc.toInt, xb.toInt, xa.toInt] b538.toInt h538.toInt xc.toInt ws538 := V538
    have hz538 : z538.toInt = ([xc.toInt, xb.toInt, xa.toInt].length : Int) := hz538
    have s547 : Sit p l e _ s m _ below meth c _ st n0 5 405 _ 353 #[.val (.int u0), .val (.long u1), .second, .val (.int u3), .val (.int u4), .val (.int u5), .val (.int (3 : Int32)), .val (.int xa), .val (.int xb), .val (.int xc), .val (.int g4), .val (.int rA), .val (.int rB), .val (.int rC), .val (.int rv), .val (.int ex), .val (.int nr), .val (.int cs), .val (.int hA), .val (.int hB), .val (.int hC), .val (.int em), .val (.int xc), .val (.int ee), .val (.ref o), .unset, .unset, .unset] [(.int rv)] := s541
      |>.iload at_351 rfl rfl
    by_cases crv : rv = 0
    · have s548 : Sit p l e _ s m _ below meth c _ st n0 5 405 _ 397 #[.val (.int u0), .val (.long u1), .second, .val (.int u3), .val (.int u4), .val (.int u5), .val (.int (3 : Int32)), .val (.int xa), .val (.int xb), .val (.int xc), .val (.int g4), .val (.int rA), .val (.int rB), .val (.int rC), .val (.int rv), .val (.int ex), .val (.int nr), .val (.int cs), .val (.int hA), .val (.int hB), .val (.int hC), .val (.int em), .val (.int xc), .val (.int ee), .val (.ref o), .unset, .unset, .unset] [(.int rA)] := s547
        |>.ifY at_353 (eqT crv) (by decide) (by decide)
        |>.iload at_395 rfl rfl
      by_cases k_xa : rA = 0
      · have s549 : Sit p l e _ s m _ below meth c _ st n0 5 405 _ 409 #[.val (.int u0), .val (.long u1), .second, .val (.int u3), .val (.int u4), .val (.int u5), .val (.int (3 : Int32)), .val (.int xa), .val (.int xb), .val (.int xc), .val (.int g4), .val (.int rA), .val (.int rB), .val (.int rC), .val (.int rv), .val (.int ex), .val (.int nr), .val (.int cs), .val (.int hA), .val (.int hB), .val (.int hC), .val (.int em), .val (.int xc), .val (.int ee), .val (.ref o), .unset, .unset, .unset] [(.int rB)] := s548
          |>.ifY at_397 (eqT k_xa) (by decide) (by decide)
          |>.iload at_407 rfl rfl
        by_cases k_xb : rB = 0
        · have s550 : Sit p l e _ s m _ below meth c _ st n0 5 405 _ 421 #[.val (.int u0), .val (.long u1), .second, .val (.int u3), .val (.int u4), .val (.int u5), .val (.int (3 : Int32)), .val (.int xa), .val (.int xb), .val (.int xc), .val (.int g4), .val (.int rA), .val (.int rB), .val (.int rC), .val (.int rv), .val (.int ex), .val (.int nr), .val (.int cs), .val (.int hA), .val (.int hB), .val (.int hC), .val (.int em), .val (.int xc), .val (.int ee), .val (.ref o), .unset, .unset, .unset] [(.int rC)] := s549
            |>.ifY at_409 (eqT k_xb) (by decide) (by decide)
            |>.iload at_419 rfl rfl
          by_cases k_xc : rC = 0
          · have s551 : Sit p l e _ s m _ below meth c _ st n0 5 405 _ 431 #[.val (.int u0), .val (.long u1), .second, .val (.int u3), .val (.int u4), .val (.int u5), .val (.int (3 : Int32)), .val (.int xa), .val (.int xb), .val (.int xc), .val (.int g4), .val (.int rA), .val (.int rB), .val (.int rC), .val (.int rv), .val (.int ex), .val (.int nr), .val (.int cs), .val (.int hA), .val (.int hB), .val (.int hC), .val (.int em), .val (.int xc), .val (.int ee), .val (.ref o), .unset, .unset, .unset] [] := s550
              |>.ifY at_421 (eqT k_xc) (by decide) (by decide)
            have kx : hA = 1 := e_hA.elim (fun h => h.1) (fun h => absurd k_xa h.2)
            have ekk : em = 0 := e_em.elim (fun h => absurd (kx.symm.trans h.2.1) (by decide)) (fun h => h.1)
            have khA : hA = 1 := e_hA.elim (fun h => h.1) (fun h => absurd k_xa h.2)
            have khB : hB = 1 := e_hB.elim (fun h => h.1) (fun h => absurd k_xb h.2)
            have khC : hC = 1 := e_hC.elim (fun h => h.1) (fun h => absurd k_xc h.2)
            have hgt : xc.toInt < ee.toInt := by
              have := rf ekk; omega
            have mem0 : ∀ y : Int32, y.toInt ∈ [xc.toInt, xb.toInt, xa.toInt] ↔ ((¬ hA = 0 ∧ y = xa) ∨ (¬ hB = 0 ∧ y = xb) ∨ (¬ hC = 0 ∧ y = xc)) := fun y => by
              have d1 : ¬ (1 : Int32) = 0 := by decide
              rw [khA]
              rw [khB]
              rw [khC]
              simp only [List.mem_cons, List.not_mem_nil, or_false, false_or, Int32.toInt_inj, d1, not_true_eq_false, not_false_eq_true, true_and, false_and]
              exact ⟨fun h => h.elim (fun h => Or.inr (Or.inr h)) (fun h => h.elim (fun h => Or.inr (Or.inl h)) Or.inl), fun h => h.elim (fun h => Or.inr (Or.inr h)) (fun h => h.elim (fun h => Or.inr (Or.inl h)) Or.inl)⟩
            exact tail (3 : Int32) rA rB rC rv ex nr cs hA hB hC em xc ee o v538 b538 h538 xc z538 ws538 [xc.toInt, xb.toInt, xa.toInt] g_o gv538 ne538 V538 hz538 (by simp only [List.length_cons, List.length_nil]; omega) (by omega) mem0 (fun y hy => by simp at hy; omega) e_ex hgt re (Or.inr (by have := rf ekk; omega)) (s551.bound (cells' := 12) (slots' := 560) (by decide) (by decide))
          · have s552 : Sit p l e _ s m _ below meth c _ st n0 5 405 _ 428 #[.val (.int u0), .val (.long u1), .second, .val (.int u3), .val (.int u4), .val (.int u5), .val (.int (3 : Int32)), .val (.int xa), .val (.int xb), .val (.int xc), .val (.int g4), .val (.int rA), .val (.int rB), .val (.int rC), .val (.int rv), .val (.int ex), .val (.int nr), .val (.int cs), .val (.int hA), .val (.int hB), .val (.int hC), .val (.int em), .val (.int xc), .val (.int ee), .val (.ref o), .unset, .unset, .unset] [(.int xc), (.ref o)] := s550
              |>.ifN at_421 (eqF k_xc) rfl
              |>.aload at_424 rfl rfl
              |>.iload at_426 rfl rfl
            have er553 : [xc.toInt, xb.toInt, xa.toInt].erase xc.toInt = [xb.toInt, xa.toInt] := by rw [er_hd]
            obtain ⟨r555, s554⟩ := Sit.callV (C := "reenact/trace/IntBits") (y := (⟨"reenact/trace/IntBits", "remove", "(I)V"⟩ : MethodName)) (W := 0) (Q := fun rv_ hh => ∃ v553 : Addr, ∃ b553 : Int32, ∃ h553 : Int32, ∃ g553 : Int32, ∃ z553 : Int32, ∃ ws553 : List Int64, (rv_ = none ∧ (n0 ≤ v553 ∧ @Ne Nat o v553 ∧ z553.toInt = ([xb.toInt, xa.toInt].length : Int) ∧ Inv [xb.toInt, xa.toInt] b553.toInt h553.toInt g553.toInt ws553 ∧ (ws553.length ≤ ws538.length ∨ ws553.length ≤ 4) ∧ ([xb.toInt, xa.toInt] ≠ [] → g553 = xc))) ∧ (fun hh => Exa Z hh o "reenact/trace/IntBits" ∧ Fld Z hh o "reenact/trace/IntBits" "words" "[J" (.ref v553) ∧ Fld Z hh o "reenact/trace/IntBits" "greatest" "I" (.int g553) ∧ Fld Z hh o "reenact/trace/IntBits" "size" "I" (.int z553) ∧ Fld Z hh o "reenact/trace/IntBits" "base" "I" (.int b553) ∧ Fld Z hh o "reenact/trace/IntBits" "head" "I" (.int h553) ∧ AV Z hh v553 .long (ws553.map Value.long)) hh) [(.int xc)] [] s552 hZ hown (wi hw 32 rfl) (wi hw 33 rfl) (wi hw 35 rfl) (wi hw 34 rfl) (wi hw 36 rfl) (wi hw 4 rfl) (by decide) (fun hh q => q.1) (fun h1 hP hn => (rmR l Z a0 hw [] o xc v538 b538 h538 xc z538 ws538 [xc.toInt, xb.toInt, xa.toInt] 4 h1 n0 hn g_o gv538 ne538 V538 hz538 (by simp) (by simp) (by rw [er553]; exact Or.inl ⟨xa.toInt, by simp, fun z hz => by simp at hz; omega⟩) (by omega) (by decide) hP).mono fun rv_ hh q => by
                rw [er553] at q
                obtain ⟨e1, v', b', h', g', z', ws', e2, e3⟩ := q
                exact ⟨v', b', h', g', z', ws', ⟨e1, e2⟩, e3⟩) hml rfl (lenOf pd_2 rfl) at_428 (Nat.le_of_eq rfl) (by decide) (by decide) (by decide) (by decide) (pc' := 431) rfl
            obtain ⟨v553, s557⟩ := s554.ex
            obtain ⟨b553, s558⟩ := s557.ex
            obtain ⟨h553, s559⟩ := s558.ex
            obtain ⟨g553, s560⟩ := s559.ex
            obtain ⟨z553, s561⟩ := s560.ex
            obtain ⟨ws553, s562⟩ := s561.ex
            obtain ⟨_, ⟨er555, spr555⟩, _⟩ := s562.facts
            subst er555
            have s556 : Sit p l e _ s m _ below meth c _ st n0 6 409 (fun hh => Exa Z hh o "reenact/trace/IntBits" ∧ Fld Z hh o "reenact/trace/IntBits" "words" "[J" (.ref v553) ∧ Fld Z hh o "reenact/trace/IntBits" "greatest" "I" (.int g553) ∧ Fld Z hh o "reenact/trace/IntBits" "size" "I" (.int z553) ∧ Fld Z hh o "reenact/trace/IntBits" "base" "I" (.int b553) ∧ Fld Z hh o "reenact/trace/IntBits" "head" "I" (.int h553) ∧ AV Z hh v553 .long (ws553.map Value.long)) 431 #[.val (.int u0), .val (.long u1), .second, .val (.int u3), .val (.int u4), .val (.int u5), .val (.int (3 : Int32)), .val (.int xa), .val (.int xb), .val (.int xc), .val (.int g4), .val (.int rA), .val (.int rB), .val (.int rC), .val (.int rv), .val (.int ex), .val (.int nr), .val (.int cs), .val (.int hA), .val (.int hB), .val (.int hC), .val (.int em), .val (.int xc), .val (.int ee), .val (.ref o), .unset, .unset, .unset] [] := s562.mono fun _ q => q.2
            obtain ⟨gv553, ne553, hz553, V553, hl553, hg553⟩ := spr555
            have kx : hA = 1 := e_hA.elim (fun h => h.1) (fun h => absurd k_xa h.2)
            have ekk : em = 0 := e_em.elim (fun h => absurd (kx.symm.trans h.2.1) (by decide)) (fun h => h.1)
            have khA : hA = 1 := e_hA.elim (fun h => h.1) (fun h => absurd k_xa h.2)
            have khB : hB = 1 := e_hB.elim (fun h => h.1) (fun h => absurd k_xb h.2)
            have khC : hC = 0 := e_hC.elim (fun h => absurd h.2 k_xc) (fun h => h.1)
            have hgt : g553.toInt < ee.toInt := by
              rw [hg553 (by simp)]; have := rf ekk; omega
            have mem0 : ∀ y : Int32, y.toInt ∈ [xb.toInt, xa.toInt] ↔ ((¬ hA = 0 ∧ y = xa) ∨ (¬ hB = 0 ∧ y = xb) ∨ (¬ hC = 0 ∧ y = xc)) := fun y => by
              have d1 : ¬ (1 : Int32) = 0 := by decide
              rw [khA]
              rw [khB]
              rw [khC]
              simp only [List.mem_cons, List.not_mem_nil, or_false, false_or, Int32.toInt_inj, d1, not_true_eq_false, not_false_eq_true, true_and, false_and]
              exact Or.comm
            exact tail (3 : Int32) rA rB rC rv ex nr cs hA hB hC em xc ee o v553 b553 h553 g553 z553 ws553 [xb.toInt, xa.toInt] g_o gv553 ne553 V553 hz553 (by simp only [List.length_cons, List.length_nil]; omega) (by omega) mem0 (fun y hy => by simp at hy; omega) e_ex hgt re (Or.inr (by have := rf ekk; omega)) (s556.bound (cells' := 12) (slots' := 560) (by decide) (by decide))
        · have s563 : Sit p l e _ s m _ below meth c _ st n0 5 405 _ 416 #[.val (.int u0), .val (.long u1), .second, .val (.int u3), .val (.int u4), .val (.int u5), .val (.int (3 : Int32)), .val (.int xa), .val (.int xb), .val (.int xc), .val (.int g4), .val (.int rA), .val (.int rB), .val (.int rC), .val (.int rv), .val (.int ex), .val (.int nr), .val (.int cs), .val (.int hA), .val (.int hB), .val (.int hC), .val (.int em), .val (.int xc), .val (.int ee), .val (.ref o), .unset, .unset, .unset] [(.int xb), (.ref o)] := s549
            |>.ifN at_409 (eqF k_xb) rfl
            |>.aload at_412 rfl rfl
            |>.iload at_414 rfl rfl
          have er564 : [xc.toInt, xb.toInt, xa.toInt].erase xb.toInt = [xc.toInt, xa.toInt] := by rw [er_tl _ (by omega), er_hd]
          obtain ⟨r566, s565⟩ := Sit.callV (C := "reenact/trace/IntBits") (y := (⟨"reenact/trace/IntBits", "remove", "(I)V"⟩ : MethodName)) (W := 0) (Q := fun rv_ hh => ∃ v564 : Addr, ∃ b564 : Int32, ∃ h564 : Int32, ∃ g564 : Int32, ∃ z564 : Int32, ∃ ws564 : List Int64, (rv_ = none ∧ (n0 ≤ v564 ∧ @Ne Nat o v564 ∧ z564.toInt = ([xc.toInt, xa.toInt].length : Int) ∧ Inv [xc.toInt, xa.toInt] b564.toInt h564.toInt g564.toInt ws564 ∧ (ws564.length ≤ ws538.length ∨ ws564.length ≤ 4) ∧ ([xc.toInt, xa.toInt] ≠ [] → g564 = xc))) ∧ (fun hh => Exa Z hh o "reenact/trace/IntBits" ∧ Fld Z hh o "reenact/trace/IntBits" "words" "[J" (.ref v564) ∧ Fld Z hh o "reenact/trace/IntBits" "greatest" "I" (.int g564) ∧ Fld Z hh o "reenact/trace/IntBits" "size" "I" (.int z564) ∧ Fld Z hh o "reenact/trace/IntBits" "base" "I" (.int b564) ∧ Fld Z hh o "reenact/trace/IntBits" "head" "I" (.int h564) ∧ AV Z hh v564 .long (ws564.map Value.long)) hh) [(.int xb)] [] s563 hZ hown (wi hw 32 rfl) (wi hw 33 rfl) (wi hw 35 rfl) (wi hw 34 rfl) (wi hw 36 rfl) (wi hw 4 rfl) (by decide) (fun hh q => q.1) (fun h1 hP hn => (rmR l Z a0 hw [] o xb v538 b538 h538 xc z538 ws538 [xc.toInt, xb.toInt, xa.toInt] 4 h1 n0 hn g_o gv538 ne538 V538 hz538 (by simp) (by simp) (by rw [er564]; exact Or.inl ⟨xa.toInt, by simp, fun z hz => by simp at hz; omega⟩) (by omega) (by decide) hP).mono fun rv_ hh q => by
              rw [er564] at q
              obtain ⟨e1, v', b', h', g', z', ws', e2, e3⟩ := q
              exact ⟨v', b', h', g', z', ws', ⟨e1, e2⟩, e3⟩) hml rfl (lenOf pd_2 rfl) at_416 (Nat.le_of_eq rfl) (by decide) (by decide) (by decide) (by decide) (pc' := 419) rfl
          obtain ⟨v564, s568⟩ := s565.ex
          obtain ⟨b564, s569⟩ := s568.ex
          obtain ⟨h564, s570⟩ := s569.ex
          obtain ⟨g564, s571⟩ := s570.ex
          obtain ⟨z564, s572⟩ := s571.ex
          obtain ⟨ws564, s573⟩ := s572.ex
          obtain ⟨_, ⟨er566, spr566⟩, _⟩ := s573.facts
          subst er566
          have s567 : Sit p l e _ s m _ below meth c _ st n0 6 409 (fun hh => Exa Z hh o "reenact/trace/IntBits" ∧ Fld Z hh o "reenact/trace/IntBits" "words" "[J" (.ref v564) ∧ Fld Z hh o "reenact/trace/IntBits" "greatest" "I" (.int g564) ∧ Fld Z hh o "reenact/trace/IntBits" "size" "I" (.int z564) ∧ Fld Z hh o "reenact/trace/IntBits" "base" "I" (.int b564) ∧ Fld Z hh o "reenact/trace/IntBits" "head" "I" (.int h564) ∧ AV Z hh v564 .long (ws564.map Value.long)) 419 #[.val (.int u0), .val (.long u1), .second, .val (.int u3), .val (.int u4), .val (.int u5), .val (.int (3 : Int32)), .val (.int xa), .val (.int xb), .val (.int xc), .val (.int g4), .val (.int rA), .val (.int rB), .val (.int rC), .val (.int rv), .val (.int ex), .val (.int nr), .val (.int cs), .val (.int hA), .val (.int hB), .val (.int hC), .val (.int em), .val (.int xc), .val (.int ee), .val (.ref o), .unset, .unset, .unset] [] := s573.mono fun _ q => q.2
          obtain ⟨gv564, ne564, hz564, V564, hl564, hg564⟩ := spr566
          have s574 : Sit p l e _ s m _ below meth c _ st n0 6 409 _ 421 #[.val (.int u0), .val (.long u1), .second, .val (.int u3), .val (.int u4), .val (.int u5), .val (.int (3 : Int32)), .val (.int xa), .val (.int xb), .val (.int xc), .val (.int g4), .val (.int rA), .val (.int rB), .val (.int rC), .val (.int rv), .val (.int ex), .val (.int nr), .val (.int cs), .val (.int hA), .val (.int hB), .val (.int hC), .val (.int em), .val (.int xc), .val (.int ee), .val (.ref o), .unset, .unset, .unset] [(.int rC)] := s567
            |>.iload at_419 rfl rfl
          by_cases k_xc : rC = 0
          · have s575 : Sit p l e _ s m _ below meth c _ st n0 6 409 _ 431 #[.val (.int u0), .val (.long u1), .second, .val (.int u3), .val (.int u4), .val (.int u5), .val (.int (3 : Int32)), .val (.int xa), .val (.int xb), .val (.int xc), .val (.int g4), .val (.int rA), .val (.int rB), .val (.int rC), .val (.int rv), .val (.int ex), .val (.int nr), .val (.int cs), .val (.int hA), .val (.int hB), .val (.int hC), .val (.int em), .val (.int xc), .val (.int ee), .val (.ref o), .unset, .unset, .unset] [] := s574
              |>.ifY at_421 (eqT k_xc) (by decide) (by decide)
            have kx : hA = 1 := e_hA.elim (fun h => h.1) (fun h => absurd k_xa h.2)
            have ekk : em = 0 := e_em.elim (fun h => absurd (kx.symm.trans h.2.1) (by decide)) (fun h => h.1)
            have khA : hA = 1 := e_hA.elim (fun h => h.1) (fun h => absurd k_xa h.2)
            have khB : hB = 0 := e_hB.elim (fun h => absurd h.2 k_xb) (fun h => h.1)
            have khC : hC = 1 := e_hC.elim (fun h => h.1) (fun h => absurd k_xc h.2)
            have hgt : g564.toInt < ee.toInt := by
              rw [hg564 (by simp)]; have := rf ekk; omega
            have mem0 : ∀ y : Int32, y.toInt ∈ [xc.toInt, xa.toInt] ↔ ((¬ hA = 0 ∧ y = xa) ∨ (¬ hB = 0 ∧ y = xb) ∨ (¬ hC = 0 ∧ y = xc)) := fun y => by
              have d1 : ¬ (1 : Int32) = 0 := by decide
              rw [khA]
              rw [khB]
              rw [khC]
              simp only [List.mem_cons, List.not_mem_nil, or_false, false_or, Int32.toInt_inj, d1, not_true_eq_false, not_false_eq_true, true_and, false_and]
              exact Or.comm
            exact tail (3 : Int32) rA rB rC rv ex nr cs hA hB hC em xc ee o v564 b564 h564 g564 z564 ws564 [xc.toInt, xa.toInt] g_o gv564 ne564 V564 hz564 (by simp only [List.length_cons, List.length_nil]; omega) (by omega) mem0 (fun y hy => by simp at hy; omega) e_ex hgt re (Or.inr (by have := rf ekk; omega)) (s575.bound (cells' := 12) (slots' := 560) (by decide) (by decide))
          · have s576 : Sit p l e _ s m _ below meth c _ st n0 6 409 _ 428 #[.val (.int u0), .val (.long u1), .second, .val (.int u3), .val (.int u4), .val (.int u5), .val (.int (3 : Int32)), .val (.int xa), .val (.int xb), .val (.int xc), .val (.int g4), .val (.int rA), .val (.int rB), .val (.int rC), .val (.int rv), .val (.int ex), .val (.int nr), .val (.int cs), .val (.int hA), .val (.int hB), .val (.int hC), .val (.int em), .val (.int xc), .val (.int ee), .val (.ref o), .unset, .unset, .unset] [(.int xc), (.ref o)] := s574
              |>.ifN at_421 (eqF k_xc) rfl
              |>.aload at_424 rfl rfl
              |>.iload at_426 rfl rfl
            have er577 : [xc.toInt, xa.toInt].erase xc.toInt = [xa.toInt] := by rw [er_hd]
            obtain ⟨r579, s578⟩ := Sit.callV (C := "reenact/trace/IntBits") (y := (⟨"reenact/trace/IntBits", "remove", "(I)V"⟩ : MethodName)) (W := 0) (Q := fun rv_ hh => ∃ v577 : Addr, ∃ b577 : Int32, ∃ h577 : Int32, ∃ g577 : Int32, ∃ z577 : Int32, ∃ ws577 : List Int64, (rv_ = none ∧ (n0 ≤ v577 ∧ @Ne Nat o v577 ∧ z577.toInt = ([xa.toInt].length : Int) ∧ Inv [xa.toInt] b577.toInt h577.toInt g577.toInt ws577 ∧ (ws577.length ≤ ws564.length ∨ ws577.length ≤ 4) ∧ ([xa.toInt] ≠ [] → g577 = g564))) ∧ (fun hh => Exa Z hh o "reenact/trace/IntBits" ∧ Fld Z hh o "reenact/trace/IntBits" "words" "[J" (.ref v577) ∧ Fld Z hh o "reenact/trace/IntBits" "greatest" "I" (.int g577) ∧ Fld Z hh o "reenact/trace/IntBits" "size" "I" (.int z577) ∧ Fld Z hh o "reenact/trace/IntBits" "base" "I" (.int b577) ∧ Fld Z hh o "reenact/trace/IntBits" "head" "I" (.int h577) ∧ AV Z hh v577 .long (ws577.map Value.long)) hh) [(.int xc)] [] s576 hZ hown (wi hw 32 rfl) (wi hw 33 rfl) (wi hw 35 rfl) (wi hw 34 rfl) (wi hw 36 rfl) (wi hw 4 rfl) (by decide) (fun hh q => q.1) (fun h1 hP hn => (rmR l Z a0 hw [] o xc v564 b564 h564 g564 z564 ws564 [xc.toInt, xa.toInt] 4 h1 n0 hn g_o gv564 ne564 V564 hz564 (by simp) (by simp) (by rw [er577]; exact Or.inl ⟨xa.toInt, by simp, fun z hz => by simp at hz; omega⟩) (by omega) (by decide) hP).mono fun rv_ hh q => by
                rw [er577] at q
                obtain ⟨e1, v', b', h', g', z', ws', e2, e3⟩ := q
                exact ⟨v', b', h', g', z', ws', ⟨e1, e2⟩, e3⟩) hml rfl (lenOf pd_2 rfl) at_428 (Nat.le_of_eq rfl) (by decide) (by decide) (by decide) (by decide) (pc' := 431) rfl
            obtain ⟨v577, s581⟩ := s578.ex
            obtain ⟨b577, s582⟩ := s581.ex
            obtain ⟨h577, s583⟩ := s582.ex
            obtain ⟨g577, s584⟩ := s583.ex
            obtain ⟨z577, s585⟩ := s584.ex
            obtain ⟨ws577, s586⟩ := s585.ex
            obtain ⟨_, ⟨er579, spr579⟩, _⟩ := s586.facts
            subst er579
            have s580 : Sit p l e _ s m _ below meth c _ st n0 7 413 (fun hh => Exa Z hh o "reenact/trace/IntBits" ∧ Fld Z hh o "reenact/trace/IntBits" "words" "[J" (.ref v577) ∧ Fld Z hh o "reenact/trace/IntBits" "greatest" "I" (.int g577) ∧ Fld Z hh o "reenact/trace/IntBits" "size" "I" (.int z577) ∧ Fld Z hh o "reenact/trace/IntBits" "base" "I" (.int b577) ∧ Fld Z hh o "reenact/trace/IntBits" "head" "I" (.int h577) ∧ AV Z hh v577 .long (ws577.map Value.long)) 431 #[.val (.int u0), .val (.long u1), .second, .val (.int u3), .val (.int u4), .val (.int u5), .val (.int (3 : Int32)), .val (.int xa), .val (.int xb), .val (.int xc), .val (.int g4), .val (.int rA), .val (.int rB), .val (.int rC), .val (.int rv), .val (.int ex), .val (.int nr), .val (.int cs), .val (.int hA), .val (.int hB), .val (.int hC), .val (.int em), .val (.int xc), .val (.int ee), .val (.ref o), .unset, .unset, .unset] [] := s586.mono fun _ q => q.2
            obtain ⟨gv577, ne577, hz577, V577, hl577, hg577⟩ := spr579
            have kx : hA = 1 := e_hA.elim (fun h => h.1) (fun h => absurd k_xa h.2)
            have ekk : em = 0 := e_em.elim (fun h => absurd (kx.symm.trans h.2.1) (by decide)) (fun h => h.1)
            have khA : hA = 1 := e_hA.elim (fun h => h.1) (fun h => absurd k_xa h.2)
            have khB : hB = 0 := e_hB.elim (fun h => absurd h.2 k_xb) (fun h => h.1)
            have khC : hC = 0 := e_hC.elim (fun h => absurd h.2 k_xc) (fun h => h.1)
            have hgt : g577.toInt < ee.toInt := by
              rw [hg577 (by simp), hg564 (by simp)]; have := rf ekk; omega
            have mem0 : ∀ y : Int32, y.toInt ∈ [xa.toInt] ↔ ((¬ hA = 0 ∧ y = xa) ∨ (¬ hB = 0 ∧ y = xb) ∨ (¬ hC = 0 ∧ y = xc)) := fun y => by
              have d1 : ¬ (1 : Int32) = 0 := by decide
              rw [khA]
              rw [khB]
              rw [khC]
              simp only [List.mem_cons, List.not_mem_nil, or_false, false_or, Int32.toInt_inj, d1, not_true_eq_false, not_false_eq_true, true_and, false_and]
            exact tail (3 : Int32) rA rB rC rv ex nr cs hA hB hC em xc ee o v577 b577 h577 g577 z577 ws577 [xa.toInt] g_o gv577 ne577 V577 hz577 (by simp only [List.length_cons, List.length_nil]; omega) (by omega) mem0 (fun y hy => by simp at hy; omega) e_ex hgt re (Or.inr (by have := rf ekk; omega)) (s580.bound (cells' := 12) (slots' := 560) (by decide) (by decide))
      · have s587 : Sit p l e _ s m _ below meth c _ st n0 5 405 _ 404 #[.val (.int u0), .val (.long u1), .second, .val (.int u3), .val (.int u4), .val (.int u5), .val (.int (3 : Int32)), .val (.int xa), .val (.int xb), .val (.int xc), .val (.int g4), .val (.int rA), .val (.int rB), .val (.int rC), .val (.int rv), .val (.int ex), .val (.int nr), .val (.int cs), .val (.int hA), .val (.int hB), .val (.int hC), .val (.int em), .val (.int xc), .val (.int ee), .val (.ref o), .unset, .unset, .unset] [(.int xa), (.ref o)] := s548
          |>.ifN at_397 (eqF k_xa) rfl
          |>.aload at_400 rfl rfl
          |>.iload at_402 rfl rfl
        have er588 : [xc.toInt, xb.toInt, xa.toInt].erase xa.toInt = [xc.toInt, xb.toInt] := by rw [er_tl _ (by omega), er_tl _ (by omega), er_hd]
        obtain ⟨r590, s589⟩ := Sit.callV (C := "reenact/trace/IntBits") (y := (⟨"reenact/trace/IntBits", "remove", "(I)V"⟩ : MethodName)) (W := 0) (Q := fun rv_ hh => ∃ v588 : Addr, ∃ b588 : Int32, ∃ h588 : Int32, ∃ g588 : Int32, ∃ z588 : Int32, ∃ ws588 : List Int64, (rv_ = none ∧ (n0 ≤ v588 ∧ @Ne Nat o v588 ∧ z588.toInt = ([xc.toInt, xb.toInt].length : Int) ∧ Inv [xc.toInt, xb.toInt] b588.toInt h588.toInt g588.toInt ws588 ∧ (ws588.length ≤ ws538.length ∨ ws588.length ≤ 132) ∧ ([xc.toInt, xb.toInt] ≠ [] → g588 = xc))) ∧ (fun hh => Exa Z hh o "reenact/trace/IntBits" ∧ Fld Z hh o "reenact/trace/IntBits" "words" "[J" (.ref v588) ∧ Fld Z hh o "reenact/trace/IntBits" "greatest" "I" (.int g588) ∧ Fld Z hh o "reenact/trace/IntBits" "size" "I" (.int z588) ∧ Fld Z hh o "reenact/trace/IntBits" "base" "I" (.int b588) ∧ Fld Z hh o "reenact/trace/IntBits" "head" "I" (.int h588) ∧ AV Z hh v588 .long (ws588.map Value.long)) hh) [(.int xa)] [] s587 hZ hown (wi hw 32 rfl) (wi hw 33 rfl) (wi hw 35 rfl) (wi hw 34 rfl) (wi hw 36 rfl) (wi hw 4 rfl) (by decide) (fun hh q => q.1) (fun h1 hP hn => (rmR l Z a0 hw [] o xa v538 b538 h538 xc z538 ws538 [xc.toInt, xb.toInt, xa.toInt] 132 h1 n0 hn g_o gv538 ne538 V538 hz538 (by simp) (by simp) (by rw [er588]; exact Or.inr ⟨by decide, fun y hy => by simp at hy; omega⟩) (by omega) (by decide) hP).mono fun rv_ hh q => by
            rw [er588] at q
            obtain ⟨e1, v', b', h', g', z', ws', e2, e3⟩ := q
            exact ⟨v', b', h', g', z', ws', ⟨e1, e2⟩, e3⟩) hml rfl (lenOf pd_2 rfl) at_404 (Nat.le_of_eq rfl) (by decide) (by decide) (by decide) (by decide) (pc' := 407) rfl
        obtain ⟨v588, s592⟩ := s589.ex
        obtain ⟨b588, s593⟩ := s592.ex
        obtain ⟨h588, s594⟩ := s593.ex
        obtain ⟨g588, s595⟩ := s594.ex
        obtain ⟨z588, s596⟩ := s595.ex
        obtain ⟨ws588, s597⟩ := s596.ex
        obtain ⟨_, ⟨er590, spr590⟩, _⟩ := s597.facts
        subst er590
        have s591 : Sit p l e _ s m _ below meth c _ st n0 6 537 (fun hh => Exa Z hh o "reenact/trace/IntBits" ∧ Fld Z hh o "reenact/trace/IntBits" "words" "[J" (.ref v588) ∧ Fld Z hh o "reenact/trace/IntBits" "greatest" "I" (.int g588) ∧ Fld Z hh o "reenact/trace/IntBits" "size" "I" (.int z588) ∧ Fld Z hh o "reenact/trace/IntBits" "base" "I" (.int b588) ∧ Fld Z hh o "reenact/trace/IntBits" "head" "I" (.int h588) ∧ AV Z hh v588 .long (ws588.map Value.long)) 407 #[.val (.int u0), .val (.long u1), .second, .val (.int u3), .val (.int u4), .val (.int u5), .val (.int (3 : Int32)), .val (.int xa), .val (.int xb), .val (.int xc), .val (.int g4), .val (.int rA), .val (.int rB), .val (.int rC), .val (.int rv), .val (.int ex), .val (.int nr), .val (.int cs), .val (.int hA), .val (.int hB), .val (.int hC), .val (.int em), .val (.int xc), .val (.int ee), .val (.ref o), .unset, .unset, .unset] [] := s597.mono fun _ q => q.2
        obtain ⟨gv588, ne588, hz588, V588, hl588, hg588⟩ := spr590
        have s598 : Sit p l e _ s m _ below meth c _ st n0 6 537 _ 409 #[.val (.int u0), .val (.long u1), .second, .val (.int u3), .val (.int u4), .val (.int u5), .val (.int (3 : Int32)), .val (.int xa), .val (.int xb), .val (.int xc), .val (.int g4), .val (.int rA), .val (.int rB), .val (.int rC), .val (.int rv), .val (.int ex), .val (.int nr), .val (.int cs), .val (.int hA), .val (.int hB), .val (.int hC), .val (.int em), .val (.int xc), .val (.int ee), .val (.ref o), .unset, .unset, .unset] [(.int rB)] := s591
          |>.iload at_407 rfl rfl
        by_cases k_xb : rB = 0
        · have s599 : Sit p l e _ s m _ below meth c _ st n0 6 537 _ 421 #[.val (.int u0), .val (.long u1), .second, .val (.int u3), .val (.int u4), .val (.int u5), .val (.int (3 : Int32)), .val (.int xa), .val (.int xb), .val (.int xc), .val (.int g4), .val (.int rA), .val (.int rB), .val (.int rC), .val (.int rv), .val (.int ex), .val (.int nr), .val (.int cs), .val (.int hA), .val (.int hB), .val (.int hC), .val (.int em), .val (.int xc), .val (.int ee), .val (.ref o), .unset, .unset, .unset] [(.int rC)] := s598
            |>.ifY at_409 (eqT k_xb) (by decide) (by decide)
            |>.iload at_419 rfl rfl
          by_cases k_xc : rC = 0
          · have s600 : Sit p l e _ s m _ below meth c _ st n0 6 537 _ 431 #[.val (.int u0), .val (.long u1), .second, .val (.int u3), .val (.int u4), .val (.int u5), .val (.int (3 : Int32)), .val (.int xa), .val (.int xb), .val (.int xc), .val (.int g4), .val (.int rA), .val (.int rB), .val (.int rC), .val (.int rv), .val (.int ex), .val (.int nr), .val (.int cs), .val (.int hA), .val (.int hB), .val (.int hC), .val (.int em), .val (.int xc), .val (.int ee), .val (.ref o), .unset, .unset, .unset] [] := s599
              |>.ifY at_421 (eqT k_xc) (by decide) (by decide)
            have kx : hB = 1 := e_hB.elim (fun h => h.1) (fun h => absurd k_xb h.2)
            have ekk : em = 0 := e_em.elim (fun h => absurd (kx.symm.trans h.2.2.1) (by decide)) (fun h => h.1)
            have khA : hA = 0 := e_hA.elim (fun h => absurd h.2 k_xa) (fun h => h.1)
            have khB : hB = 1 := e_hB.elim (fun h => h.1) (fun h => absurd k_xb h.2)
            have khC : hC = 1 := e_hC.elim (fun h => h.1) (fun h => absurd k_xc h.2)
            have hgt : g588.toInt < ee.toInt := by
              rw [hg588 (by simp)]; have := rf ekk; omega
            have mem0 : ∀ y : Int32, y.toInt ∈ [xc.toInt, xb.toInt] ↔ ((¬ hA = 0 ∧ y = xa) ∨ (¬ hB = 0 ∧ y = xb) ∨ (¬ hC = 0 ∧ y = xc)) := fun y => by
              have d1 : ¬ (1 : Int32) = 0 := by decide
              rw [khA]
              rw [khB]
              rw [khC]
              simp only [List.mem_cons, List.not_mem_nil, or_false, false_or, Int32.toInt_inj, d1, not_true_eq_false, not_false_eq_true, true_and, false_and]
              exact Or.comm
            exact tail (3 : Int32) rA rB rC rv ex nr cs hA hB hC em xc ee o v588 b588 h588 g588 z588 ws588 [xc.toInt, xb.toInt] g_o gv588 ne588 V588 hz588 (by simp only [List.length_cons, List.length_nil]; omega) (by omega) mem0 (fun y hy => by simp at hy; omega) e_ex hgt re (Or.inr (by have := rf ekk; omega)) (s600.bound (cells' := 12) (slots' := 560) (by decide) (by decide))
          · have s601 : Sit p l e _ s m _ below meth c _ st n0 6 537 _ 428 #[.val (.int u0), .val (.long u1), .second, .val (.int u3), .val (.int u4), .val (.int u5), .val (.int (3 : Int32)), .val (.int xa), .val (.int xb), .val (.int xc), .val (.int g4), .val (.int rA), .val (.int rB), .val (.int rC), .val (.int rv), .val (.int ex), .val (.int nr), .val (.int cs), .val (.int hA), .val (.int hB), .val (.int hC), .val (.int em), .val (.int xc), .val (.int ee), .val (.ref o), .unset, .unset, .unset] [(.int xc), (.ref o)] := s599
              |>.ifN at_421 (eqF k_xc) rfl
              |>.aload at_424 rfl rfl
              |>.iload at_426 rfl rfl
            have er602 : [xc.toInt, xb.toInt].erase xc.toInt = [xb.toInt] := by rw [er_hd]
            obtain ⟨r604, s603⟩ := Sit.callV (C := "reenact/trace/IntBits") (y := (⟨"reenact/trace/IntBits", "remove", "(I)V"⟩ : MethodName)) (W := 0) (Q := fun rv_ hh => ∃ v602 : Addr, ∃ b602 : Int32, ∃ h602 : Int32, ∃ g602 : Int32, ∃ z602 : Int32, ∃ ws602 : List Int64, (rv_ = none ∧ (n0 ≤ v602 ∧ @Ne Nat o v602 ∧ z602.toInt = ([xb.toInt].length : Int) ∧ Inv [xb.toInt] b602.toInt h602.toInt g602.toInt ws602 ∧ (ws602.length ≤ ws588.length ∨ ws602.length ≤ 4) ∧ ([xb.toInt] ≠ [] → g602 = g588))) ∧ (fun hh => Exa Z hh o "reenact/trace/IntBits" ∧ Fld Z hh o "reenact/trace/IntBits" "words" "[J" (.ref v602) ∧ Fld Z hh o "reenact/trace/IntBits" "greatest" "I" (.int g602) ∧ Fld Z hh o "reenact/trace/IntBits" "size" "I" (.int z602) ∧ Fld Z hh o "reenact/trace/IntBits" "base" "I" (.int b602) ∧ Fld Z hh o "reenact/trace/IntBits" "head" "I" (.int h602) ∧ AV Z hh v602 .long (ws602.map Value.long)) hh) [(.int xc)] [] s601 hZ hown (wi hw 32 rfl) (wi hw 33 rfl) (wi hw 35 rfl) (wi hw 34 rfl) (wi hw 36 rfl) (wi hw 4 rfl) (by decide) (fun hh q => q.1) (fun h1 hP hn => (rmR l Z a0 hw [] o xc v588 b588 h588 g588 z588 ws588 [xc.toInt, xb.toInt] 4 h1 n0 hn g_o gv588 ne588 V588 hz588 (by simp) (by simp) (by rw [er602]; exact Or.inl ⟨xb.toInt, by simp, fun z hz => by simp at hz; omega⟩) (by omega) (by decide) hP).mono fun rv_ hh q => by
                rw [er602] at q
                obtain ⟨e1, v', b', h', g', z', ws', e2, e3⟩ := q
                exact ⟨v', b', h', g', z', ws', ⟨e1, e2⟩, e3⟩) hml rfl (lenOf pd_2 rfl) at_428 (Nat.le_of_eq rfl) (by decide) (by decide) (by decide) (by decide) (pc' := 431) rfl
            obtain ⟨v602, s606⟩ := s603.ex
            obtain ⟨b602, s607⟩ := s606.ex
            obtain ⟨h602, s608⟩ := s607.ex
            obtain ⟨g602, s609⟩ := s608.ex
            obtain ⟨z602, s610⟩ := s609.ex
            obtain ⟨ws602, s611⟩ := s610.ex
            obtain ⟨_, ⟨er604, spr604⟩, _⟩ := s611.facts
            subst er604
            have s605 : Sit p l e _ s m _ below meth c _ st n0 7 541 (fun hh => Exa Z hh o "reenact/trace/IntBits" ∧ Fld Z hh o "reenact/trace/IntBits" "words" "[J" (.ref v602) ∧ Fld Z hh o "reenact/trace/IntBits" "greatest" "I" (.int g602) ∧ Fld Z hh o "reenact/trace/IntBits" "size" "I" (.int z602) ∧ Fld Z hh o "reenact/trace/IntBits" "base" "I" (.int b602) ∧ Fld Z hh o "reenact/trace/IntBits" "head" "I" (.int h602) ∧ AV Z hh v602 .long (ws602.map Value.long)) 431 #[.val (.int u0), .val (.long u1), .second, .val (.int u3), .val (.int u4), .val (.int u5), .val (.int (3 : Int32)), .val (.int xa), .val (.int xb), .val (.int xc), .val (.int g4), .val (.int rA), .val (.int rB), .val (.int rC), .val (.int rv), .val (.int ex), .val (.int nr), .val (.int cs), .val (.int hA), .val (.int hB), .val (.int hC), .val (.int em), .val (.int xc), .val (.int ee), .val (.ref o), .unset, .unset, .unset] [] := s611.mono fun _ q => q.2
            obtain ⟨gv602, ne602, hz602, V602, hl602, hg602⟩ := spr604
            have kx : hB = 1 := e_hB.elim (fun h => h.1) (fun h => absurd k_xb h.2)
            have ekk : em = 0 := e_em.elim (fun h => absurd (kx.symm.trans h.2.2.1) (by decide)) (fun h => h.1)
            have khA : hA = 0 := e_hA.elim (fun h => absurd h.2 k_xa) (fun h => h.1)
            have khB : hB = 1 := e_hB.elim (fun h => h.1) (fun h => absurd k_xb h.2)
            have khC : hC = 0 := e_hC.elim (fun h => absurd h.2 k_xc) (fun h => h.1)
            have hgt : g602.toInt < ee.toInt := by
              rw [hg602 (by simp), hg588 (by simp)]; have := rf ekk; omega
            have mem0 : ∀ y : Int32, y.toInt ∈ [xb.toInt] ↔ ((¬ hA = 0 ∧ y = xa) ∨ (¬ hB = 0 ∧ y = xb) ∨ (¬ hC = 0 ∧ y = xc)) := fun y => by
              have d1 : ¬ (1 : Int32) = 0 := by decide
              rw [khA]
              rw [khB]
              rw [khC]
              simp only [List.mem_cons, List.not_mem_nil, or_false, false_or, Int32.toInt_inj, d1, not_true_eq_false, not_false_eq_true, true_and, false_and]
            exact tail (3 : Int32) rA rB rC rv ex nr cs hA hB hC em xc ee o v602 b602 h602 g602 z602 ws602 [xb.toInt] g_o gv602 ne602 V602 hz602 (by simp only [List.length_cons, List.length_nil]; omega) (by omega) mem0 (fun y hy => by simp at hy; omega) e_ex hgt re (Or.inr (by have := rf ekk; omega)) (s605.bound (cells' := 12) (slots' := 560) (by decide) (by decide))
        · have s612 : Sit p l e _ s m _ below meth c _ st n0 6 537 _ 416 #[.val (.int u0), .val (.long u1), .second, .val (.int u3), .val (.int u4), .val (.int u5), .val (.int (3 : Int32)), .val (.int xa), .val (.int xb), .val (.int xc), .val (.int g4), .val (.int rA), .val (.int rB), .val (.int rC), .val (.int rv), .val (.int ex), .val (.int nr), .val (.int cs), .val (.int hA), .val (.int hB), .val (.int hC), .val (.int em), .val (.int xc), .val (.int ee), .val (.ref o), .unset, .unset, .unset] [(.int xb), (.ref o)] := s598
            |>.ifN at_409 (eqF k_xb) rfl
            |>.aload at_412 rfl rfl
            |>.iload at_414 rfl rfl
          have er613 : [xc.toInt, xb.toInt].erase xb.toInt = [xc.toInt] := by rw [er_tl _ (by omega), er_hd]
          obtain ⟨r615, s614⟩ := Sit.callV (C := "reenact/trace/IntBits") (y := (⟨"reenact/trace/IntBits", "remove", "(I)V"⟩ : MethodName)) (W := 0) (Q := fun rv_ hh => ∃ v613 : Addr, ∃ b613 : Int32, ∃ h613 : Int32, ∃ g613 : Int32, ∃ z613 : Int32, ∃ ws613 : List Int64, (rv_ = none ∧ (n0 ≤ v613 ∧ @Ne Nat o v613 ∧ z613.toInt = ([xc.toInt].length : Int) ∧ Inv [xc.toInt] b613.toInt h613.toInt g613.toInt ws613 ∧ (ws613.length ≤ ws588.length ∨ ws613.length ≤ 4) ∧ ([xc.toInt] ≠ [] → g613 = g588))) ∧ (fun hh => Exa Z hh o "reenact/trace/IntBits" ∧ Fld Z hh o "reenact/trace/IntBits" "words" "[J" (.ref v613) ∧ Fld Z hh o "reenact/trace/IntBits" "greatest" "I" (.int g613) ∧ Fld Z hh o "reenact/trace/IntBits" "size" "I" (.int z613) ∧ Fld Z hh o "reenact/trace/IntBits" "base" "I" (.int b613) ∧ Fld Z hh o "reenact/trace/IntBits" "head" "I" (.int h613) ∧ AV Z hh v613 .long (ws613.map Value.long)) hh) [(.int xb)] [] s612 hZ hown (wi hw 32 rfl) (wi hw 33 rfl) (wi hw 35 rfl) (wi hw 34 rfl) (wi hw 36 rfl) (wi hw 4 rfl) (by decide) (fun hh q => q.1) (fun h1 hP hn => (rmR l Z a0 hw [] o xb v588 b588 h588 g588 z588 ws588 [xc.toInt, xb.toInt] 4 h1 n0 hn g_o gv588 ne588 V588 hz588 (by simp) (by simp) (by rw [er613]; exact Or.inr ⟨by decide, fun y hy => by simp at hy; rw [hg588 (by simp)]; omega⟩) (by omega) (by decide) hP).mono fun rv_ hh q => by
              rw [er613] at q
              obtain ⟨e1, v', b', h', g', z', ws', e2, e3⟩ := q
              exact ⟨v', b', h', g', z', ws', ⟨e1, e2⟩, e3⟩) hml rfl (lenOf pd_2 rfl) at_416 (Nat.le_of_eq rfl) (by decide) (by decide) (by decide) (by decide) (pc' := 419) rfl
          obtain ⟨v613, s617⟩ := s614.ex
          obtain ⟨b613, s618⟩ := s617.ex
          obtain ⟨h613, s619⟩ := s618.ex
          obtain ⟨g613, s620⟩ := s619.ex
          obtain ⟨z613, s621⟩ := s620.ex
          obtain ⟨ws613, s622⟩ := s621.ex
          obtain ⟨_, ⟨er615, spr615⟩, _⟩ := s622.facts
          subst er615
          have s616 : Sit p l e _ s m _ below meth c _ st n0 7 541 (fun hh => Exa Z hh o "reenact/trace/IntBits" ∧ Fld Z hh o "reenact/trace/IntBits" "words" "[J" (.ref v613) ∧ Fld Z hh o "reenact/trace/IntBits" "greatest" "I" (.int g613) ∧ Fld Z hh o "reenact/trace/IntBits" "size" "I" (.int z613) ∧ Fld Z hh o "reenact/trace/IntBits" "base" "I" (.int b613) ∧ Fld Z hh o "reenact/trace/IntBits" "head" "I" (.int h613) ∧ AV Z hh v613 .long (ws613.map Value.long)) 419 #[.val (.int u0), .val (.long u1), .second, .val (.int u3), .val (.int u4), .val (.int u5), .val (.int (3 : Int32)), .val (.int xa), .val (.int xb), .val (.int xc), .val (.int g4), .val (.int rA), .val (.int rB), .val (.int rC), .val (.int rv), .val (.int ex), .val (.int nr), .val (.int cs), .val (.int hA), .val (.int hB), .val (.int hC), .val (.int em), .val (.int xc), .val (.int ee), .val (.ref o), .unset, .unset, .unset] [] := s622.mono fun _ q => q.2
          obtain ⟨gv613, ne613, hz613, V613, hl613, hg613⟩ := spr615
          have s623 : Sit p l e _ s m _ below meth c _ st n0 7 541 _ 421 #[.val (.int u0), .val (.long u1), .second, .val (.int u3), .val (.int u4), .val (.int u5), .val (.int (3 : Int32)), .val (.int xa), .val (.int xb), .val (.int xc), .val (.int g4), .val (.int rA), .val (.int rB), .val (.int rC), .val (.int rv), .val (.int ex), .val (.int nr), .val (.int cs), .val (.int hA), .val (.int hB), .val (.int hC), .val (.int em), .val (.int xc), .val (.int ee), .val (.ref o), .unset, .unset, .unset] [(.int rC)] := s616
            |>.iload at_419 rfl rfl
          by_cases k_xc : rC = 0
          · have s624 : Sit p l e _ s m _ below meth c _ st n0 7 541 _ 431 #[.val (.int u0), .val (.long u1), .second, .val (.int u3), .val (.int u4), .val (.int u5), .val (.int (3 : Int32)), .val (.int xa), .val (.int xb), .val (.int xc), .val (.int g4), .val (.int rA), .val (.int rB), .val (.int rC), .val (.int rv), .val (.int ex), .val (.int nr), .val (.int cs), .val (.int hA), .val (.int hB), .val (.int hC), .val (.int em), .val (.int xc), .val (.int ee), .val (.ref o), .unset, .unset, .unset] [] := s623
              |>.ifY at_421 (eqT k_xc) (by decide) (by decide)
            have kx : hC = 1 := e_hC.elim (fun h => h.1) (fun h => absurd k_xc h.2)
            have ekk : em = 0 := e_em.elim (fun h => absurd (kx.symm.trans h.2.2.2) (by decide)) (fun h => h.1)
            have khA : hA = 0 := e_hA.elim (fun h => absurd h.2 k_xa) (fun h => h.1)
            have khB : hB = 0 := e_hB.elim (fun h => absurd h.2 k_xb) (fun h => h.1)
            have khC : hC = 1 := e_hC.elim (fun h => h.1) (fun h => absurd k_xc h.2)
            have hgt : g613.toInt < ee.toInt := by
              rw [hg613 (by simp), hg588 (by simp)]; have := rf ekk; omega
            have mem0 : ∀ y : Int32, y.toInt ∈ [xc.toInt] ↔ ((¬ hA = 0 ∧ y = xa) ∨ (¬ hB = 0 ∧ y = xb) ∨ (¬ hC = 0 ∧ y = xc)) := fun y => by
              have d1 : ¬ (1 : Int32) = 0 := by decide
              rw [khA]
              rw [khB]
              rw [khC]
              simp only [List.mem_cons, List.not_mem_nil, or_false, false_or, Int32.toInt_inj, d1, not_true_eq_false, not_false_eq_true, true_and, false_and]
            exact tail (3 : Int32) rA rB rC rv ex nr cs hA hB hC em xc ee o v613 b613 h613 g613 z613 ws613 [xc.toInt] g_o gv613 ne613 V613 hz613 (by simp only [List.length_cons, List.length_nil]; omega) (by omega) mem0 (fun y hy => by simp at hy; omega) e_ex hgt re (Or.inr (by have := rf ekk; omega)) (s624.bound (cells' := 12) (slots' := 560) (by decide) (by decide))
          · have s625 : Sit p l e _ s m _ below meth c _ st n0 7 541 _ 428 #[.val (.int u0), .val (.long u1), .second, .val (.int u3), .val (.int u4), .val (.int u5), .val (.int (3 : Int32)), .val (.int xa), .val (.int xb), .val (.int xc), .val (.int g4), .val (.int rA), .val (.int rB), .val (.int rC), .val (.int rv), .val (.int ex), .val (.int nr), .val (.int cs), .val (.int hA), .val (.int hB), .val (.int hC), .val (.int em), .val (.int xc), .val (.int ee), .val (.ref o), .unset, .unset, .unset] [(.int xc), (.ref o)] := s623
              |>.ifN at_421 (eqF k_xc) rfl
              |>.aload at_424 rfl rfl
              |>.iload at_426 rfl rfl
            have er626 : [xc.toInt].erase xc.toInt = [] := by rw [er_hd]
            obtain ⟨r628, s627⟩ := Sit.callV (C := "reenact/trace/IntBits") (y := (⟨"reenact/trace/IntBits", "remove", "(I)V"⟩ : MethodName)) (W := 0) (Q := fun rv_ hh => ∃ v626 : Addr, ∃ b626 : Int32, ∃ h626 : Int32, ∃ g626 : Int32, ∃ z626 : Int32, ∃ ws626 : List Int64, (rv_ = none ∧ (n0 ≤ v626 ∧ @Ne Nat o v626 ∧ z626.toInt = (([] : List Int).length : Int) ∧ Inv [] b626.toInt h626.toInt g626.toInt ws626 ∧ (ws626.length ≤ ws613.length ∨ ws626.length ≤ 4) ∧ (([] : List Int) ≠ [] → g626 = g613))) ∧ (fun hh => Exa Z hh o "reenact/trace/IntBits" ∧ Fld Z hh o "reenact/trace/IntBits" "words" "[J" (.ref v626) ∧ Fld Z hh o "reenact/trace/IntBits" "greatest" "I" (.int g626) ∧ Fld Z hh o "reenact/trace/IntBits" "size" "I" (.int z626) ∧ Fld Z hh o "reenact/trace/IntBits" "base" "I" (.int b626) ∧ Fld Z hh o "reenact/trace/IntBits" "head" "I" (.int h626) ∧ AV Z hh v626 .long (ws626.map Value.long)) hh) [(.int xc)] [] s625 hZ hown (wi hw 32 rfl) (wi hw 33 rfl) (wi hw 35 rfl) (wi hw 34 rfl) (wi hw 36 rfl) (wi hw 4 rfl) (by decide) (fun hh q => q.1) (fun h1 hP hn => (rmR l Z a0 hw [] o xc v613 b613 h613 g613 z613 ws613 [xc.toInt] 4 h1 n0 hn g_o gv613 ne613 V613 hz613 (by simp) (by simp) (by rw [er626]; exact Or.inr ⟨by decide, fun y hy => by simp at hy⟩) (by omega) (by decide) hP).mono fun rv_ hh q => by
                rw [er626] at q
                obtain ⟨e1, v', b', h', g', z', ws', e2, e3⟩ := q
                exact ⟨v', b', h', g', z', ws', ⟨e1, e2⟩, e3⟩) hml rfl (lenOf pd_2 rfl) at_428 (Nat.le_of_eq rfl) (by decide) (by decide) (by decide) (by decide) (pc' := 431) rfl
            obtain ⟨v626, s630⟩ := s627.ex
            obtain ⟨b626, s631⟩ := s630.ex
            obtain ⟨h626, s632⟩ := s631.ex
            obtain ⟨g626, s633⟩ := s632.ex
            obtain ⟨z626, s634⟩ := s633.ex
            obtain ⟨ws626, s635⟩ := s634.ex
            obtain ⟨_, ⟨er628, spr628⟩, _⟩ := s635.facts
            subst er628
            have s629 : Sit p l e _ s m _ below meth c _ st n0 8 545 (fun hh => Exa Z hh o "reenact/trace/IntBits" ∧ Fld Z hh o "reenact/trace/IntBits" "words" "[J" (.ref v626) ∧ Fld Z hh o "reenact/trace/IntBits" "greatest" "I" (.int g626) ∧ Fld Z hh o "reenact/trace/IntBits" "size" "I" (.int z626) ∧ Fld Z hh o "reenact/trace/IntBits" "base" "I" (.int b626) ∧ Fld Z hh o "reenact/trace/IntBits" "head" "I" (.int h626) ∧ AV Z hh v626 .long (ws626.map Value.long)) 431 #[.val (.int u0), .val (.long u1), .second, .val (.int u3), .val (.int u4), .val (.int u5), .val (.int (3 : Int32)), .val (.int xa), .val (.int xb), .val (.int xc), .val (.int g4), .val (.int rA), .val (.int rB), .val (.int rC), .val (.int rv), .val (.int ex), .val (.int nr), .val (.int cs), .val (.int hA), .val (.int hB), .val (.int hC), .val (.int em), .val (.int xc), .val (.int ee), .val (.ref o), .unset, .unset, .unset] [] := s635.mono fun _ q => q.2
            obtain ⟨gv626, ne626, hz626, V626, hl626, hg626⟩ := spr628
            have khA : hA = 0 := e_hA.elim (fun h => absurd h.2 k_xa) (fun h => h.1)
            have khB : hB = 0 := e_hB.elim (fun h => absurd h.2 k_xb) (fun h => h.1)
            have khC : hC = 0 := e_hC.elim (fun h => absurd h.2 k_xc) (fun h => h.1)
            have hgt : g626.toInt < ee.toInt := by
              have e := (V626).2.2.2.2.2.2.1 rfl; omega
            have mem0 : ∀ y : Int32, y.toInt ∈ ([] : List Int) ↔ ((¬ hA = 0 ∧ y = xa) ∨ (¬ hB = 0 ∧ y = xb) ∨ (¬ hC = 0 ∧ y = xc)) := fun y => by
              have d1 : ¬ (1 : Int32) = 0 := by decide
              rw [khA]
              rw [khB]
              rw [khC]
              simp only [List.mem_cons, List.not_mem_nil, or_false, false_or, Int32.toInt_inj, d1, not_true_eq_false, not_false_eq_true, true_and, false_and]
            exact tail (3 : Int32) rA rB rC rv ex nr cs hA hB hC em xc ee o v626 b626 h626 g626 z626 ws626 ([] : List Int) g_o gv626 ne626 V626 hz626 (by simp only [List.length_cons, List.length_nil]; omega) (by omega) mem0 (fun y hy => by simp at hy) e_ex hgt re (Or.inl rfl) (s629.bound (cells' := 12) (slots' := 560) (by decide) (by decide))
    · have s636 : Sit p l e _ s m _ below meth c _ st n0 5 405 _ 358 #[.val (.int u0), .val (.long u1), .second, .val (.int u3), .val (.int u4), .val (.int u5), .val (.int (3 : Int32)), .val (.int xa), .val (.int xb), .val (.int xc), .val (.int g4), .val (.int rA), .val (.int rB), .val (.int rC), .val (.int rv), .val (.int ex), .val (.int nr), .val (.int cs), .val (.int hA), .val (.int hB), .val (.int hC), .val (.int em), .val (.int xc), .val (.int ee), .val (.ref o), .unset, .unset, .unset] [(.int rC)] := s547
        |>.ifN at_353 (eqF crv) rfl
        |>.iload at_356 rfl rfl
      by_cases k_xc : rC = 0
      · have s637 : Sit p l e _ s m _ below meth c _ st n0 5 405 _ 370 #[.val (.int u0), .val (.long u1), .second, .val (.int u3), .val (.int u4), .val (.int u5), .val (.int (3 : Int32)), .val (.int xa), .val (.int xb), .val (.int xc), .val (.int g4), .val (.int rA), .val (.int rB), .val (.int rC), .val (.int rv), .val (.int ex), .val (.int nr), .val (.int cs), .val (.int hA), .val (.int hB), .val (.int hC), .val (.int em), .val (.int xc), .val (.int ee), .val (.ref o), .unset, .unset, .unset] [(.int rB)] := s636
          |>.ifY at_358 (eqT k_xc) (by decide) (by decide)
          |>.iload at_368 rfl rfl
        by_cases k_xb : rB = 0
        · have s638 : Sit p l e _ s m _ below meth c _ st n0 5 405 _ 382 #[.val (.int u0), .val (.long u1), .second, .val (.int u3), .val (.int u4), .val (.int u5), .val (.int (3 : Int32)), .val (.int xa), .val (.int xb), .val (.int xc), .val (.int g4), .val (.int rA), .val (.int rB), .val (.int rC), .val (.int rv), .val (.int ex), .val (.int nr), .val (.int cs), .val (.int hA), .val (.int hB), .val (.int hC), .val (.int em), .val (.int xc), .val (.int ee), .val (.ref o), .unset, .unset, .unset] [(.int rA)] := s637
            |>.ifY at_370 (eqT k_xb) (by decide) (by decide)
            |>.iload at_380 rfl rfl
          by_cases k_xa : rA = 0
          · have s639 : Sit p l e _ s m _ below meth c _ st n0 5 405 _ 431 #[.val (.int u0), .val (.long u1), .second, .val (.int u3), .val (.int u4), .val (.int u5), .val (.int (3 : Int32)), .val (.int xa), .val (.int xb), .val (.int xc), .val (.int g4), .val (.int rA), .val (.int rB), .val (.int rC), .val (.int rv), .val (.int ex), .val (.int nr), .val (.int cs), .val (.int hA), .val (.int hB), .val (.int hC), .val (.int em), .val (.int xc), .val (.int ee), .val (.ref o), .unset, .unset, .unset] [] := s638
              |>.ifY at_382 (eqT k_xa) (by decide) (by decide)
            have kx : hA = 1 := e_hA.elim (fun h => h.1) (fun h => absurd k_xa h.2)
            have ekk : em = 0 := e_em.elim (fun h => absurd (kx.symm.trans h.2.1) (by decide)) (fun h => h.1)
            have khA : hA = 1 := e_hA.elim (fun h => h.1) (fun h => absurd k_xa h.2)
            have khB : hB = 1 := e_hB.elim (fun h => h.1) (fun h => absurd k_xb h.2)
            have khC : hC = 1 := e_hC.elim (fun h => h.1) (fun h => absurd k_xc h.2)
            have hgt : xc.toInt < ee.toInt := by
              have := rf ekk; omega
            have mem0 : ∀ y : Int32, y.toInt ∈ [xc.toInt, xb.toInt, xa.toInt] ↔ ((¬ hA = 0 ∧ y = xa) ∨ (¬ hB = 0 ∧ y = xb) ∨ (¬ hC = 0 ∧ y = xc)) := fun y => by
              have d1 : ¬ (1 : Int32) = 0 := by decide
              rw [khA]
              rw [khB]
              rw [khC]
              simp only [List.mem_cons, List.not_mem_nil, or_false, false_or, Int32.toInt_inj, d1, not_true_eq_false, not_false_eq_true, true_and, false_and]
              exact ⟨fun h => h.elim (fun h => Or.inr (Or.inr h)) (fun h => h.elim (fun h => Or.inr (Or.inl h)) Or.inl), fun h => h.elim (fun h => Or.inr (Or.inr h)) (fun h => h.elim (fun h => Or.inr (Or.inl h)) Or.inl)⟩
            exact tail (3 : Int32) rA rB rC rv ex nr cs hA hB hC em xc ee o v538 b538 h538 xc z538 ws538 [xc.toInt, xb.toInt, xa.toInt] g_o gv538 ne538 V538 hz538 (by simp only [List.length_cons, List.length_nil]; omega) (by omega) mem0 (fun y hy => by simp at hy; omega) e_ex hgt re (Or.inr (by have := rf ekk; omega)) (s639.bound (cells' := 12) (slots' := 560) (by decide) (by decide))
          · have s640 : Sit p l e _ s m _ below meth c _ st n0 5 405 _ 389 #[.val (.int u0), .val (.long u1), .second, .val (.int u3), .val (.int u4), .val (.int u5), .val (.int (3 : Int32)), .val (.int xa), .val (.int xb), .val (.int xc), .val (.int g4), .val (.int rA), .val (.int rB), .val (.int rC), .val (.int rv), .val (.int ex), .val (.int nr), .val (.int cs), .val (.int hA), .val (.int hB), .val (.int hC), .val (.int em), .val (.int xc), .val (.int ee), .val (.ref o), .unset, .unset, .unset] [(.int xa), (.ref o)] := s638
              |>.ifN at_382 (eqF k_xa) rfl
              |>.aload at_385 rfl rfl
              |>.iload at_387 rfl rfl
            have er641 : [xc.toInt, xb.toInt, xa.toInt].erase xa.toInt = [xc.toInt, xb.toInt] := by rw [er_tl _ (by omega), er_tl _ (by omega), er_hd]
            obtain ⟨r643, s642⟩ := Sit.callV (C := "reenact/trace/IntBits") (y := (⟨"reenact/trace/IntBits", "remove", "(I)V"⟩ : MethodName)) (W := 0) (Q := fun rv_ hh => ∃ v641 : Addr, ∃ b641 : Int32, ∃ h641 : Int32, ∃ g641 : Int32, ∃ z641 : Int32, ∃ ws641 : List Int64, (rv_ = none ∧ (n0 ≤ v641 ∧ @Ne Nat o v641 ∧ z641.toInt = ([xc.toInt, xb.toInt].length : Int) ∧ Inv [xc.toInt, xb.toInt] b641.toInt h641.toInt g641.toInt ws641 ∧ (ws641.length ≤ ws538.length ∨ ws641.length ≤ 132) ∧ ([xc.toInt, xb.toInt] ≠ [] → g641 = xc))) ∧ (fun hh => Exa Z hh o "reenact/trace/IntBits" ∧ Fld Z hh o "reenact/trace/IntBits" "words" "[J" (.ref v641) ∧ Fld Z hh o "reenact/trace/IntBits" "greatest" "I" (.int g641) ∧ Fld Z hh o "reenact/trace/IntBits" "size" "I" (.int z641) ∧ Fld Z hh o "reenact/trace/IntBits" "base" "I" (.int b641) ∧ Fld Z hh o "reenact/trace/IntBits" "head" "I" (.int h641) ∧ AV Z hh v641 .long (ws641.map Value.long)) hh) [(.int xa)] [] s640 hZ hown (wi hw 32 rfl) (wi hw 33 rfl) (wi hw 35 rfl) (wi hw 34 rfl) (wi hw 36 rfl) (wi hw 4 rfl) (by decide) (fun hh q => q.1) (fun h1 hP hn => (rmR l Z a0 hw [] o xa v538 b538 h538 xc z538 ws538 [xc.toInt, xb.toInt, xa.toInt] 132 h1 n0 hn g_o gv538 ne538 V538 hz538 (by simp) (by simp) (by rw [er641]; exact Or.inr ⟨by decide, fun y hy => by simp at hy; omega⟩) (by omega) (by decide) hP).mono fun rv_ hh q => by
                rw [er641] at q
                obtain ⟨e1, v', b', h', g', z', ws', e2, e3⟩ := q
                exact ⟨v', b', h', g', z', ws', ⟨e1, e2⟩, e3⟩) hml rfl (lenOf pd_2 rfl) at_389 (Nat.le_of_eq rfl) (by decide) (by decide) (by decide) (by decide) (pc' := 392) rfl
            obtain ⟨v641, s645⟩ := s642.ex
            obtain ⟨b641, s646⟩ := s645.ex
            obtain ⟨h641, s647⟩ := s646.ex
            obtain ⟨g641, s648⟩ := s647.ex
            obtain ⟨z641, s649⟩ := s648.ex
            obtain ⟨ws641, s650⟩ := s649.ex
            obtain ⟨_, ⟨er643, spr643⟩, _⟩ := s650.facts
            subst er643
            have s644 : Sit p l e _ s m _ below meth c _ st n0 6 537 (fun hh => Exa Z hh o "reenact/trace/IntBits" ∧ Fld Z hh o "reenact/trace/IntBits" "words" "[J" (.ref v641) ∧ Fld Z hh o "reenact/trace/IntBits" "greatest" "I" (.int g641) ∧ Fld Z hh o "reenact/trace/IntBits" "size" "I" (.int z641) ∧ Fld Z hh o "reenact/trace/IntBits" "base" "I" (.int b641) ∧ Fld Z hh o "reenact/trace/IntBits" "head" "I" (.int h641) ∧ AV Z hh v641 .long (ws641.map Value.long)) 392 #[.val (.int u0), .val (.long u1), .second, .val (.int u3), .val (.int u4), .val (.int u5), .val (.int (3 : Int32)), .val (.int xa), .val (.int xb), .val (.int xc), .val (.int g4), .val (.int rA), .val (.int rB), .val (.int rC), .val (.int rv), .val (.int ex), .val (.int nr), .val (.int cs), .val (.int hA), .val (.int hB), .val (.int hC), .val (.int em), .val (.int xc), .val (.int ee), .val (.ref o), .unset, .unset, .unset] [] := s650.mono fun _ q => q.2
            obtain ⟨gv641, ne641, hz641, V641, hl641, hg641⟩ := spr643
            have s651 : Sit p l e _ s m _ below meth c _ st n0 6 537 _ 431 #[.val (.int u0), .val (.long u1), .second, .val (.int u3), .val (.int u4), .val (.int u5), .val (.int (3 : Int32)), .val (.int xa), .val (.int xb), .val (.int xc), .val (.int g4), .val (.int rA), .val (.int rB), .val (.int rC), .val (.int rv), .val (.int ex), .val (.int nr), .val (.int cs), .val (.int hA), .val (.int hB), .val (.int hC), .val (.int em), .val (.int xc), .val (.int ee), .val (.ref o), .unset, .unset, .unset] [] := s644
              |>.goto at_392 (by decide) (by decide)
            have kx : hB = 1 := e_hB.elim (fun h => h.1) (fun h => absurd k_xb h.2)
            have ekk : em = 0 := e_em.elim (fun h => absurd (kx.symm.trans h.2.2.1) (by decide)) (fun h => h.1)
            have khA : hA = 0 := e_hA.elim (fun h => absurd h.2 k_xa) (fun h => h.1)
            have khB : hB = 1 := e_hB.elim (fun h => h.1) (fun h => absurd k_xb h.2)
            have khC : hC = 1 := e_hC.elim (fun h => h.1) (fun h => absurd k_xc h.2)
            have hgt : g641.toInt < ee.toInt := by
              rw [hg641 (by simp)]; have := rf ekk; omega
            have mem0 : ∀ y : Int32, y.toInt ∈ [xc.toInt, xb.toInt] ↔ ((¬ hA = 0 ∧ y = xa) ∨ (¬ hB = 0 ∧ y = xb) ∨ (¬ hC = 0 ∧ y = xc)) := fun y => by
              have d1 : ¬ (1 : Int32) = 0 := by decide
              rw [khA]
              rw [khB]
              rw [khC]
              simp only [List.mem_cons, List.not_mem_nil, or_false, false_or, Int32.toInt_inj, d1, not_true_eq_false, not_false_eq_true, true_and, false_and]
              exact Or.comm
            exact tail (3 : Int32) rA rB rC rv ex nr cs hA hB hC em xc ee o v641 b641 h641 g641 z641 ws641 [xc.toInt, xb.toInt] g_o gv641 ne641 V641 hz641 (by simp only [List.length_cons, List.length_nil]; omega) (by omega) mem0 (fun y hy => by simp at hy; omega) e_ex hgt re (Or.inr (by have := rf ekk; omega)) (s651.bound (cells' := 12) (slots' := 560) (by decide) (by decide))
        · have s652 : Sit p l e _ s m _ below meth c _ st n0 5 405 _ 377 #[.val (.int u0), .val (.long u1), .second, .val (.int u3), .val (.int u4), .val (.int u5), .val (.int (3 : Int32)), .val (.int xa), .val (.int xb), .val (.int xc), .val (.int g4), .val (.int rA), .val (.int rB), .val (.int rC), .val (.int rv), .val (.int ex), .val (.int nr), .val (.int cs), .val (.int hA), .val (.int hB), .val (.int hC), .val (.int em), .val (.int xc), .val (.int ee), .val (.ref o), .unset, .unset, .unset] [(.int xb), (.ref o)] := s637
            |>.ifN at_370 (eqF k_xb) rfl
            |>.aload at_373 rfl rfl
            |>.iload at_375 rfl rfl
          have er653 : [xc.toInt, xb.toInt, xa.toInt].erase xb.toInt = [xc.toInt, xa.toInt] := by rw [er_tl _ (by omega), er_hd]
          obtain ⟨r655, s654⟩ := Sit.callV (C := "reenact/trace/IntBits") (y := (⟨"reenact/trace/IntBits", "remove", "(I)V"⟩ : MethodName)) (W := 0) (Q := fun rv_ hh => ∃ v653 : Addr, ∃ b653 : Int32, ∃ h653 : Int32, ∃ g653 : Int32, ∃ z653 : Int32, ∃ ws653 : List Int64, (rv_ = none ∧ (n0 ≤ v653 ∧ @Ne Nat o v653 ∧ z653.toInt = ([xc.toInt, xa.toInt].length : Int) ∧ Inv [xc.toInt, xa.toInt] b653.toInt h653.toInt g653.toInt ws653 ∧ (ws653.length ≤ ws538.length ∨ ws653.length ≤ 4) ∧ ([xc.toInt, xa.toInt] ≠ [] → g653 = xc))) ∧ (fun hh => Exa Z hh o "reenact/trace/IntBits" ∧ Fld Z hh o "reenact/trace/IntBits" "words" "[J" (.ref v653) ∧ Fld Z hh o "reenact/trace/IntBits" "greatest" "I" (.int g653) ∧ Fld Z hh o "reenact/trace/IntBits" "size" "I" (.int z653) ∧ Fld Z hh o "reenact/trace/IntBits" "base" "I" (.int b653) ∧ Fld Z hh o "reenact/trace/IntBits" "head" "I" (.int h653) ∧ AV Z hh v653 .long (ws653.map Value.long)) hh) [(.int xb)] [] s652 hZ hown (wi hw 32 rfl) (wi hw 33 rfl) (wi hw 35 rfl) (wi hw 34 rfl) (wi hw 36 rfl) (wi hw 4 rfl) (by decide) (fun hh q => q.1) (fun h1 hP hn => (rmR l Z a0 hw [] o xb v538 b538 h538 xc z538 ws538 [xc.toInt, xb.toInt, xa.toInt] 4 h1 n0 hn g_o gv538 ne538 V538 hz538 (by simp) (by simp) (by rw [er653]; exact Or.inl ⟨xa.toInt, by simp, fun z hz => by simp at hz; omega⟩) (by omega) (by decide) hP).mono fun rv_ hh q => by
              rw [er653] at q
              obtain ⟨e1, v', b', h', g', z', ws', e2, e3⟩ := q
              exact ⟨v', b', h', g', z', ws', ⟨e1, e2⟩, e3⟩) hml rfl (lenOf pd_2 rfl) at_377 (Nat.le_of_eq rfl) (by decide) (by decide) (by decide) (by decide) (pc' := 380) rfl
          obtain ⟨v653, s657⟩ := s654.ex
          obtain ⟨b653, s658⟩ := s657.ex
          obtain ⟨h653, s659⟩ := s658.ex
          obtain ⟨g653, s660⟩ := s659.ex
          obtain ⟨z653, s661⟩ := s660.ex
          obtain ⟨ws653, s662⟩ := s661.ex
          obtain ⟨_, ⟨er655, spr655⟩, _⟩ := s662.facts
          subst er655
          have s656 : Sit p l e _ s m _ below meth c _ st n0 6 409 (fun hh => Exa Z hh o "reenact/trace/IntBits" ∧ Fld Z hh o "reenact/trace/IntBits" "words" "[J" (.ref v653) ∧ Fld Z hh o "reenact/trace/IntBits" "greatest" "I" (.int g653) ∧ Fld Z hh o "reenact/trace/IntBits" "size" "I" (.int z653) ∧ Fld Z hh o "reenact/trace/IntBits" "base" "I" (.int b653) ∧ Fld Z hh o "reenact/trace/IntBits" "head" "I" (.int h653) ∧ AV Z hh v653 .long (ws653.map Value.long)) 380 #[.val (.int u0), .val (.long u1), .second, .val (.int u3), .val (.int u4), .val (.int u5), .val (.int (3 : Int32)), .val (.int xa), .val (.int xb), .val (.int xc), .val (.int g4), .val (.int rA), .val (.int rB), .val (.int rC), .val (.int rv), .val (.int ex), .val (.int nr), .val (.int cs), .val (.int hA), .val (.int hB), .val (.int hC), .val (.int em), .val (.int xc), .val (.int ee), .val (.ref o), .unset, .unset, .unset] [] := s662.mono fun _ q => q.2
          obtain ⟨gv653, ne653, hz653, V653, hl653, hg653⟩ := spr655
          have s663 : Sit p l e _ s m _ below meth c _ st n0 6 409 _ 382 #[.val (.int u0), .val (.long u1), .second, .val (.int u3), .val (.int u4), .val (.int u5), .val (.int (3 : Int32)), .val (.int xa), .val (.int xb), .val (.int xc), .val (.int g4), .val (.int rA), .val (.int rB), .val (.int rC), .val (.int rv), .val (.int ex), .val (.int nr), .val (.int cs), .val (.int hA), .val (.int hB), .val (.int hC), .val (.int em), .val (.int xc), .val (.int ee), .val (.ref o), .unset, .unset, .unset] [(.int rA)] := s656
            |>.iload at_380 rfl rfl
          by_cases k_xa : rA = 0
          · have s664 : Sit p l e _ s m _ below meth c _ st n0 6 409 _ 431 #[.val (.int u0), .val (.long u1), .second, .val (.int u3), .val (.int u4), .val (.int u5), .val (.int (3 : Int32)), .val (.int xa), .val (.int xb), .val (.int xc), .val (.int g4), .val (.int rA), .val (.int rB), .val (.int rC), .val (.int rv), .val (.int ex), .val (.int nr), .val (.int cs), .val (.int hA), .val (.int hB), .val (.int hC), .val (.int em), .val (.int xc), .val (.int ee), .val (.ref o), .unset, .unset, .unset] [] := s663
              |>.ifY at_382 (eqT k_xa) (by decide) (by decide)
            have kx : hA = 1 := e_hA.elim (fun h => h.1) (fun h => absurd k_xa h.2)
            have ekk : em = 0 := e_em.elim (fun h => absurd (kx.symm.trans h.2.1) (by decide)) (fun h => h.1)
            have khA : hA = 1 := e_hA.elim (fun h => h.1) (fun h => absurd k_xa h.2)
            have khB : hB = 0 := e_hB.elim (fun h => absurd h.2 k_xb) (fun h => h.1)
            have khC : hC = 1 := e_hC.elim (fun h => h.1) (fun h => absurd k_xc h.2)
            have hgt : g653.toInt < ee.toInt := by
              rw [hg653 (by simp)]; have := rf ekk; omega
            have mem0 : ∀ y : Int32, y.toInt ∈ [xc.toInt, xa.toInt] ↔ ((¬ hA = 0 ∧ y = xa) ∨ (¬ hB = 0 ∧ y = xb) ∨ (¬ hC = 0 ∧ y = xc)) := fun y => by
              have d1 : ¬ (1 : Int32) = 0 := by decide
              rw [khA]
              rw [khB]
              rw [khC]
              simp only [List.mem_cons, List.not_mem_nil, or_false, false_or, Int32.toInt_inj, d1, not_true_eq_false, not_false_eq_true, true_and, false_and]
              exact Or.comm
            exact tail (3 : Int32) rA rB rC rv ex nr cs hA hB hC em xc ee o v653 b653 h653 g653 z653 ws653 [xc.toInt, xa.toInt] g_o gv653 ne653 V653 hz653 (by simp only [List.length_cons, List.length_nil]; omega) (by omega) mem0 (fun y hy => by simp at hy; omega) e_ex hgt re (Or.inr (by have := rf ekk; omega)) (s664.bound (cells' := 12) (slots' := 560) (by decide) (by decide))
          · have s665 : Sit p l e _ s m _ below meth c _ st n0 6 409 _ 389 #[.val (.int u0), .val (.long u1), .second, .val (.int u3), .val (.int u4), .val (.int u5), .val (.int (3 : Int32)), .val (.int xa), .val (.int xb), .val (.int xc), .val (.int g4), .val (.int rA), .val (.int rB), .val (.int rC), .val (.int rv), .val (.int ex), .val (.int nr), .val (.int cs), .val (.int hA), .val (.int hB), .val (.int hC), .val (.int em), .val (.int xc), .val (.int ee), .val (.ref o), .unset, .unset, .unset] [(.int xa), (.ref o)] := s663
              |>.ifN at_382 (eqF k_xa) rfl
              |>.aload at_385 rfl rfl
              |>.iload at_387 rfl rfl
            have er666 : [xc.toInt, xa.toInt].erase xa.toInt = [xc.toInt] := by rw [er_tl _ (by omega), er_hd]
            obtain ⟨r668, s667⟩ := Sit.callV (C := "reenact/trace/IntBits") (y := (⟨"reenact/trace/IntBits", "remove", "(I)V"⟩ : MethodName)) (W := 0) (Q := fun rv_ hh => ∃ v666 : Addr, ∃ b666 : Int32, ∃ h666 : Int32, ∃ g666 : Int32, ∃ z666 : Int32, ∃ ws666 : List Int64, (rv_ = none ∧ (n0 ≤ v666 ∧ @Ne Nat o v666 ∧ z666.toInt = ([xc.toInt].length : Int) ∧ Inv [xc.toInt] b666.toInt h666.toInt g666.toInt ws666 ∧ (ws666.length ≤ ws653.length ∨ ws666.length ≤ 4) ∧ ([xc.toInt] ≠ [] → g666 = g653))) ∧ (fun hh => Exa Z hh o "reenact/trace/IntBits" ∧ Fld Z hh o "reenact/trace/IntBits" "words" "[J" (.ref v666) ∧ Fld Z hh o "reenact/trace/IntBits" "greatest" "I" (.int g666) ∧ Fld Z hh o "reenact/trace/IntBits" "size" "I" (.int z666) ∧ Fld Z hh o "reenact/trace/IntBits" "base" "I" (.int b666) ∧ Fld Z hh o "reenact/trace/IntBits" "head" "I" (.int h666) ∧ AV Z hh v666 .long (ws666.map Value.long)) hh) [(.int xa)] [] s665 hZ hown (wi hw 32 rfl) (wi hw 33 rfl) (wi hw 35 rfl) (wi hw 34 rfl) (wi hw 36 rfl) (wi hw 4 rfl) (by decide) (fun hh q => q.1) (fun h1 hP hn => (rmR l Z a0 hw [] o xa v653 b653 h653 g653 z653 ws653 [xc.toInt, xa.toInt] 4 h1 n0 hn g_o gv653 ne653 V653 hz653 (by simp) (by simp) (by rw [er666]; exact Or.inr ⟨by decide, fun y hy => by simp at hy; rw [hg653 (by simp)]; omega⟩) (by omega) (by decide) hP).mono fun rv_ hh q => by
                rw [er666] at q
                obtain ⟨e1, v', b', h', g', z', ws', e2, e3⟩ := q
                exact ⟨v', b', h', g', z', ws', ⟨e1, e2⟩, e3⟩) hml rfl (lenOf pd_2 rfl) at_389 (Nat.le_of_eq rfl) (by decide) (by decide) (by decide) (by decide) (pc' := 392) rfl
            obtain ⟨v666, s670⟩ := s667.ex
            obtain ⟨b666, s671⟩ := s670.ex
            obtain ⟨h666, s672⟩ := s671.ex
            obtain ⟨g666, s673⟩ := s672.ex
            obtain ⟨z666, s674⟩ := s673.ex
            obtain ⟨ws666, s675⟩ := s674.ex
            obtain ⟨_, ⟨er668, spr668⟩, _⟩ := s675.facts
            subst er668
            have s669 : Sit p l e _ s m _ below meth c _ st n0 7 413 (fun hh => Exa Z hh o "reenact/trace/IntBits" ∧ Fld Z hh o "reenact/trace/IntBits" "words" "[J" (.ref v666) ∧ Fld Z hh o "reenact/trace/IntBits" "greatest" "I" (.int g666) ∧ Fld Z hh o "reenact/trace/IntBits" "size" "I" (.int z666) ∧ Fld Z hh o "reenact/trace/IntBits" "base" "I" (.int b666) ∧ Fld Z hh o "reenact/trace/IntBits" "head" "I" (.int h666) ∧ AV Z hh v666 .long (ws666.map Value.long)) 392 #[.val (.int u0), .val (.long u1), .second, .val (.int u3), .val (.int u4), .val (.int u5), .val (.int (3 : Int32)), .val (.int xa), .val (.int xb), .val (.int xc), .val (.int g4), .val (.int rA), .val (.int rB), .val (.int rC), .val (.int rv), .val (.int ex), .val (.int nr), .val (.int cs), .val (.int hA), .val (.int hB), .val (.int hC), .val (.int em), .val (.int xc), .val (.int ee), .val (.ref o), .unset, .unset, .unset] [] := s675.mono fun _ q => q.2
            obtain ⟨gv666, ne666, hz666, V666, hl666, hg666⟩ := spr668
            have s676 : Sit p l e _ s m _ below meth c _ st n0 7 413 _ 431 #[.val (.int u0), .val (.long u1), .second, .val (.int u3), .val (.int u4), .val (.int u5), .val (.int (3 : Int32)), .val (.int xa), .val (.int xb), .val (.int xc), .val (.int g4), .val (.int rA), .val (.int rB), .val (.int rC), .val (.int rv), .val (.int ex), .val (.int nr), .val (.int cs), .val (.int hA), .val (.int hB), .val (.int hC), .val (.int em), .val (.int xc), .val (.int ee), .val (.ref o), .unset, .unset, .unset] [] := s669
              |>.goto at_392 (by decide) (by decide)
            have kx : hC = 1 := e_hC.elim (fun h => h.1) (fun h => absurd k_xc h.2)
            have ekk : em = 0 := e_em.elim (fun h => absurd (kx.symm.trans h.2.2.2) (by decide)) (fun h => h.1)
            have khA : hA = 0 := e_hA.elim (fun h => absurd h.2 k_xa) (fun h => h.1)
            have khB : hB = 0 := e_hB.elim (fun h => absurd h.2 k_xb) (fun h => h.1)
            have khC : hC = 1 := e_hC.elim (fun h => h.1) (fun h => absurd k_xc h.2)
            have hgt : g666.toInt < ee.toInt := by
              rw [hg666 (by simp), hg653 (by simp)]; have := rf ekk; omega
            have mem0 : ∀ y : Int32, y.toInt ∈ [xc.toInt] ↔ ((¬ hA = 0 ∧ y = xa) ∨ (¬ hB = 0 ∧ y = xb) ∨ (¬ hC = 0 ∧ y = xc)) := fun y => by
              have d1 : ¬ (1 : Int32) = 0 := by decide
              rw [khA]
              rw [khB]
              rw [khC]
              simp only [List.mem_cons, List.not_mem_nil, or_false, false_or, Int32.toInt_inj, d1, not_true_eq_false, not_false_eq_true, true_and, false_and]
            exact tail (3 : Int32) rA rB rC rv ex nr cs hA hB hC em xc ee o v666 b666 h666 g666 z666 ws666 [xc.toInt] g_o gv666 ne666 V666 hz666 (by simp only [List.length_cons, List.length_nil]; omega) (by omega) mem0 (fun y hy => by simp at hy; omega) e_ex hgt re (Or.inr (by have := rf ekk; omega)) (s676.bound (cells' := 12) (slots' := 560) (by decide) (by decide))
      · have s677 : Sit p l e _ s m _ below meth c _ st n0 5 405 _ 365 #[.val (.int u0), .val (.long u1), .second, .val (.int u3), .val (.int u4), .val (.int u5), .val (.int (3 : Int32)), .val (.int xa), .val (.int xb), .val (.int xc), .val (.int g4), .val (.int rA), .val (.int rB), .val (.int rC), .val (.int rv), .val (.int ex), .val (.int nr), .val (.int cs), .val (.int hA), .val (.int hB), .val (.int hC), .val (.int em), .val (.int xc), .val (.int ee), .val (.ref o), .unset, .unset, .unset] [(.int xc), (.ref o)] := s636
          |>.ifN at_358 (eqF k_xc) rfl
          |>.aload at_361 rfl rfl
          |>.iload at_363 rfl rfl
        have er678 : [xc.toInt, xb.toInt, xa.toInt].erase xc.toInt = [xb.toInt, xa.toInt] := by rw [er_hd]
        obtain ⟨r680, s679⟩ := Sit.callV (C := "reenact/trace/IntBits") (y := (⟨"reenact/trace/IntBits", "remove", "(I)V"⟩ : MethodName)) (W := 0) (Q := fun rv_ hh => ∃ v678 : Addr, ∃ b678 : Int32, ∃ h678 : Int32, ∃ g678 : Int32, ∃ z678 : Int32, ∃ ws678 : List Int64, (rv_ = none ∧ (n0 ≤ v678 ∧ @Ne Nat o v678 ∧ z678.toInt = ([xb.toInt, xa.toInt].length : Int) ∧ Inv [xb.toInt, xa.toInt] b678.toInt h678.toInt g678.toInt ws678 ∧ (ws678.length ≤ ws538.length ∨ ws678.length ≤ 4) ∧ ([xb.toInt, xa.toInt] ≠ [] → g678 = xc))) ∧ (fun hh => Exa Z hh o "reenact/trace/IntBits" ∧ Fld Z hh o "reenact/trace/IntBits" "words" "[J" (.ref v678) ∧ Fld Z hh o "reenact/trace/IntBits" "greatest" "I" (.int g678) ∧ Fld Z hh o "reenact/trace/IntBits" "size" "I" (.int z678) ∧ Fld Z hh o "reenact/trace/IntBits" "base" "I" (.int b678) ∧ Fld Z hh o "reenact/trace/IntBits" "head" "I" (.int h678) ∧ AV Z hh v678 .long (ws678.map Value.long)) hh) [(.int xc)] [] s677 hZ hown (wi hw 32 rfl) (wi hw 33 rfl) (wi hw 35 rfl) (wi hw 34 rfl) (wi hw 36 rfl) (wi hw 4 rfl) (by decide) (fun hh q => q.1) (fun h1 hP hn => (rmR l Z a0 hw [] o xc v538 b538 h538 xc z538 ws538 [xc.toInt, xb.toInt, xa.toInt] 4 h1 n0 hn g_o gv538 ne538 V538 hz538 (by simp) (by simp) (by rw [er678]; exact Or.inl ⟨xa.toInt, by simp, fun z hz => by simp at hz; omega⟩) (by omega) (by decide) hP).mono fun rv_ hh q => by
            rw [er678] at q
            obtain ⟨e1, v', b', h', g', z', ws', e2, e3⟩ := q
            exact ⟨v', b', h', g', z', ws', ⟨e1, e2⟩, e3⟩) hml rfl (lenOf pd_2 rfl) at_365 (Nat.le_of_eq rfl) (by decide) (by decide) (by decide) (by decide) (pc' := 368) rfl
        obtain ⟨v678, s682⟩ := s679.ex
        obtain ⟨b678, s683⟩ := s682.ex
        obtain ⟨h678, s684⟩ := s683.ex
        obtain ⟨g678, s685⟩ := s684.ex
        obtain ⟨z678, s686⟩ := s685.ex
        obtain ⟨ws678, s687⟩ := s686.ex
        obtain ⟨_, ⟨er680, spr680⟩, _⟩ := s687.facts
        subst er680
        have s681 : Sit p l e _ s m _ below meth c _ st n0 6 409 (fun hh => Exa Z hh o "reenact/trace/IntBits" ∧ Fld Z hh o "reenact/trace/IntBits" "words" "[J" (.ref v678) ∧ Fld Z hh o "reenact/trace/IntBits" "greatest" "I" (.int g678) ∧ Fld Z hh o "reenact/trace/IntBits" "size" "I" (.int z678) ∧ Fld Z hh o "reenact/trace/IntBits" "base" "I" (.int b678) ∧ Fld Z hh o "reenact/trace/IntBits" "head" "I" (.int h678) ∧ AV Z hh v678 .long (ws678.map Value.long)) 368 #[.val (.int u0), .val (.long u1), .second, .val (.int u3), .val (.int u4), .val (.int u5), .val (.int (3 : Int32)), .val (.int xa), .val (.int xb), .val (.int xc), .val (.int g4), .val (.int rA), .val (.int rB), .val (.int rC), .val (.int rv), .val (.int ex), .val (.int nr), .val (.int cs), .val (.int hA), .val (.int hB), .val (.int hC), .val (.int em), .val (.int xc), .val (.int ee), .val (.ref o), .unset, .unset, .unset] [] := s687.mono fun _ q => q.2
        obtain ⟨gv678, ne678, hz678, V678, hl678, hg678⟩ := spr680
        have s688 : Sit p l e _ s m _ below meth c _ st n0 6 409 _ 370 #[.val (.int u0), .val (.long u1), .second, .val (.int u3), .val (.int u4), .val (.int u5), .val (.int (3 : Int32)), .val (.int xa), .val (.int xb), .val (.int xc), .val (.int g4), .val (.int rA), .val (.int rB), .val (.int rC), .val (.int rv), .val (.int ex), .val (.int nr), .val (.int cs), .val (.int hA), .val (.int hB), .val (.int hC), .val (.int em), .val (.int xc), .val (.int ee), .val (.ref o), .unset, .unset, .unset] [(.int rB)] := s681
          |>.iload at_368 rfl rfl
        by_cases k_xb : rB = 0
        · have s689 : Sit p l e _ s m _ below meth c _ st n0 6 409 _ 382 #[.val (.int u0), .val (.long u1), .second, .val (.int u3), .val (.int u4), .val (.int u5), .val (.int (3 : Int32)), .val (.int xa), .val (.int xb), .val (.int xc), .val (.int g4), .val (.int rA), .val (.int rB), .val (.int rC), .val (.int rv), .val (.int ex), .val (.int nr), .val (.int cs), .val (.int hA), .val (.int hB), .val (.int hC), .val (.int em), .val (.int xc), .val (.int ee), .val (.ref o), .unset, .unset, .unset] [(.int rA)] := s688
            |>.ifY at_370 (eqT k_xb) (by decide) (by decide)
            |>.iload at_380 rfl rfl
          by_cases k_xa : rA = 0
          · have s690 : Sit p l e _ s m _ below meth c _ st n0 6 409 _ 431 #[.val (.int u0), .val (.long u1), .second, .val (.int u3), .val (.int u4), .val (.int u5), .val (.int (3 : Int32)), .val (.int xa), .val (.int xb), .val (.int xc), .val (.int g4), .val (.int rA), .val (.int rB), .val (.int rC), .val (.int rv), .val (.int ex), .val (.int nr), .val (.int cs), .val (.int hA), .val (.int hB), .val (.int hC), .val (.int em), .val (.int xc), .val (.int ee), .val (.ref o), .unset, .unset, .unset] [] := s689
              |>.ifY at_382 (eqT k_xa) (by decide) (by decide)
            have kx : hA = 1 := e_hA.elim (fun h => h.1) (fun h => absurd k_xa h.2)
            have ekk : em = 0 := e_em.elim (fun h => absurd (kx.symm.trans h.2.1) (by decide)) (fun h => h.1)
            have khA : hA = 1 := e_hA.elim (fun h => h.1) (fun h => absurd k_xa h.2)
            have khB : hB = 1 := e_hB.elim (fun h => h.1) (fun h => absurd k_xb h.2)
            have khC : hC = 0 := e_hC.elim (fun h => absurd h.2 k_xc) (fun h => h.1)
            have hgt : g678.toInt < ee.toInt := by
              rw [hg678 (by simp)]; have := rf ekk; omega
            have mem0 : ∀ y : Int32, y.toInt ∈ [xb.toInt, xa.toInt] ↔ ((¬ hA = 0 ∧ y = xa) ∨ (¬ hB = 0 ∧ y = xb) ∨ (¬ hC = 0 ∧ y = xc)) := fun y => by
              have d1 : ¬ (1 : Int32) = 0 := by decide
              rw [khA]
              rw [khB]
              rw [khC]
              simp only [List.mem_cons, List.not_mem_nil, or_false, false_or, Int32.toInt_inj, d1, not_true_eq_false, not_false_eq_true, true_and, false_and]
              exact Or.comm
            exact tail (3 : Int32) rA rB rC rv ex nr cs hA hB hC em xc ee o v678 b678 h678 g678 z678 ws678 [xb.toInt, xa.toInt] g_o gv678 ne678 V678 hz678 (by simp only [List.length_cons, List.length_nil]; omega) (by omega) mem0 (fun y hy => by simp at hy; omega) e_ex hgt re (Or.inr (by have := rf ekk; omega)) (s690.bound (cells' := 12) (slots' := 560) (by decide) (by decide))
          · have s691 : Sit p l e _ s m _ below meth c _ st n0 6 409 _ 389 #[.val (.int u0), .val (.long u1), .second, .val (.int u3), .val (.int u4), .val (.int u5), .val (.int (3 : Int32)), .val (.int xa), .val (.int xb), .val (.int xc), .val (.int g4), .val (.int rA), .val (.int rB), .val (.int rC), .val (.int rv), .val (.int ex), .val (.int nr), .val (.int cs), .val (.int hA), .val (.int hB), .val (.int hC), .val (.int em), .val (.int xc), .val (.int ee), .val (.ref o), .unset, .unset, .unset] [(.int xa), (.ref o)] := s689
              |>.ifN at_382 (eqF k_xa) rfl
              |>.aload at_385 rfl rfl
              |>.iload at_387 rfl rfl
            have er692 : [xb.toInt, xa.toInt].erase xa.toInt = [xb.toInt] := by rw [er_tl _ (by omega), er_hd]
            obtain ⟨r694, s693⟩ := Sit.callV (C := "reenact/trace/IntBits") (y := (⟨"reenact/trace/IntBits", "remove", "(I)V"⟩ : MethodName)) (W := 0) (Q := fun rv_ hh => ∃ v692 : Addr, ∃ b692 : Int32, ∃ h692 : Int32, ∃ g692 : Int32, ∃ z692 : Int32, ∃ ws692 : List Int64, (rv_ = none ∧ (n0 ≤ v692 ∧ @Ne Nat o v692 ∧ z692.toInt = ([xb.toInt].length : Int) ∧ Inv [xb.toInt] b692.toInt h692.toInt g692.toInt ws692 ∧ (ws692.length ≤ ws678.length ∨ ws692.length ≤ 132) ∧ ([xb.toInt] ≠ [] → g692 = g678))) ∧ (fun hh => Exa Z hh o "reenact/trace/IntBits" ∧ Fld Z hh o "reenact/trace/IntBits" "words" "[J" (.ref v692) ∧ Fld Z hh o "reenact/trace/IntBits" "greatest" "I" (.int g692) ∧ Fld Z hh o "reenact/trace/IntBits" "size" "I" (.int z692) ∧ Fld Z hh o "reenact/trace/IntBits" "base" "I" (.int b692) ∧ Fld Z hh o "reenact/trace/IntBits" "head" "I" (.int h692) ∧ AV Z hh v692 .long (ws692.map Value.long)) hh) [(.int xa)] [] s691 hZ hown (wi hw 32 rfl) (wi hw 33 rfl) (wi hw 35 rfl) (wi hw 34 rfl) (wi hw 36 rfl) (wi hw 4 rfl) (by decide) (fun hh q => q.1) (fun h1 hP hn => (rmR l Z a0 hw [] o xa v678 b678 h678 g678 z678 ws678 [xb.toInt, xa.toInt] 132 h1 n0 hn g_o gv678 ne678 V678 hz678 (by simp) (by simp) (by rw [er692]; exact Or.inr ⟨by decide, fun y hy => by simp at hy; rw [hg678 (by simp)]; omega⟩) (by omega) (by decide) hP).mono fun rv_ hh q => by
                rw [er692] at q
                obtain ⟨e1, v', b', h', g', z', ws', e2, e3⟩ := q
                exact ⟨v', b', h', g', z', ws', ⟨e1, e2⟩, e3⟩) hml rfl (lenOf pd_2 rfl) at_389 (Nat.le_of_eq rfl) (by decide) (by decide) (by decide) (by decide) (pc' := 392) rfl
            obtain ⟨v692, s696⟩ := s693.ex
            obtain ⟨b692, s697⟩ := s696.ex
            obtain ⟨h692, s698⟩ := s697.ex
            obtain ⟨g692, s699⟩ := s698.ex
            obtain ⟨z692, s700⟩ := s699.ex
            obtain ⟨ws692, s701⟩ := s700.ex
            obtain ⟨_, ⟨er694, spr694⟩, _⟩ := s701.facts
            subst er694
            have s695 : Sit p l e _ s m _ below meth c _ st n0 7 541 (fun hh => Exa Z hh o "reenact/trace/IntBits" ∧ Fld Z hh o "reenact/trace/IntBits" "words" "[J" (.ref v692) ∧ Fld Z hh o "reenact/trace/IntBits" "greatest" "I" (.int g692) ∧ Fld Z hh o "reenact/trace/IntBits" "size" "I" (.int z692) ∧ Fld Z hh o "reenact/trace/IntBits" "base" "I" (.int b692) ∧ Fld Z hh o "reenact/trace/IntBits" "head" "I" (.int h692) ∧ AV Z hh v692 .long (ws692.map Value.long)) 392 #[.val (.int u0), .val (.long u1), .second, .val (.int u3), .val (.int u4), .val (.int u5), .val (.int (3 : Int32)), .val (.int xa), .val (.int xb), .val (.int xc), .val (.int g4), .val (.int rA), .val (.int rB), .val (.int rC), .val (.int rv), .val (.int ex), .val (.int nr), .val (.int cs), .val (.int hA), .val (.int hB), .val (.int hC), .val (.int em), .val (.int xc), .val (.int ee), .val (.ref o), .unset, .unset, .unset] [] := s701.mono fun _ q => q.2
            obtain ⟨gv692, ne692, hz692, V692, hl692, hg692⟩ := spr694
            have s702 : Sit p l e _ s m _ below meth c _ st n0 7 541 _ 431 #[.val (.int u0), .val (.long u1), .second, .val (.int u3), .val (.int u4), .val (.int u5), .val (.int (3 : Int32)), .val (.int xa), .val (.int xb), .val (.int xc), .val (.int g4), .val (.int rA), .val (.int rB), .val (.int rC), .val (.int rv), .val (.int ex), .val (.int nr), .val (.int cs), .val (.int hA), .val (.int hB), .val (.int hC), .val (.int em), .val (.int xc), .val (.int ee), .val (.ref o), .unset, .unset, .unset] [] := s695
              |>.goto at_392 (by decide) (by decide)
            have kx : hB = 1 := e_hB.elim (fun h => h.1) (fun h => absurd k_xb h.2)
            have ekk : em = 0 := e_em.elim (fun h => absurd (kx.symm.trans h.2.2.1) (by decide)) (fun h => h.1)
            have khA : hA = 0 := e_hA.elim (fun h => absurd h.2 k_xa) (fun h => h.1)
            have khB : hB = 1 := e_hB.elim (fun h => h.1) (fun h => absurd k_xb h.2)
            have khC : hC = 0 := e_hC.elim (fun h => absurd h.2 k_xc) (fun h => h.1)
            have hgt : g692.toInt < ee.toInt := by
              rw [hg692 (by simp), hg678 (by simp)]; have := rf ekk; omega
            have mem0 : ∀ y : Int32, y.toInt ∈ [xb.toInt] ↔ ((¬ hA = 0 ∧ y = xa) ∨ (¬ hB = 0 ∧ y = xb) ∨ (¬ hC = 0 ∧ y = xc)) := fun y => by
              have d1 : ¬ (1 : Int32) = 0 := by decide
              rw [khA]
              rw [khB]
              rw [khC]
              simp only [List.mem_cons, List.not_mem_nil, or_false, false_or, Int32.toInt_inj, d1, not_true_eq_false, not_false_eq_true, true_and, false_and]
            exact tail (3 : Int32) rA rB rC rv ex nr cs hA hB hC em xc ee o v692 b692 h692 g692 z692 ws692 [xb.toInt] g_o gv692 ne692 V692 hz692 (by simp only [List.length_cons, List.length_nil]; omega) (by omega) mem0 (fun y hy => by simp at hy; omega) e_ex hgt re (Or.inr (by have := rf ekk; omega)) (s702.bound (cells' := 12) (slots' := 560) (by decide) (by decide))
        · have s703 : Sit p l e _ s m _ below meth c _ st n0 6 409 _ 377 #[.val (.int u0), .val (.long u1), .second, .val (.int u3), .val (.int u4), .val (.int u5), .val (.int (3 : Int32)), .val (.int xa), .val (.int xb), .val (.int xc), .val (.int g4), .val (.int rA), .val (.int rB), .val (.int rC), .val (.int rv), .val (.int ex), .val (.int nr), .val (.int cs), .val (.int hA), .val (.int hB), .val (.int hC), .val (.int em), .val (.int xc), .val (.int ee), .val (.ref o), .unset, .unset, .unset] [(.int xb), (.ref o)] := s688
            |>.ifN at_370 (eqF k_xb) rfl
            |>.aload at_373 rfl rfl
            |>.iload at_375 rfl rfl
          have er704 : [xb.toInt, xa.toInt].erase xb.toInt = [xa.toInt] := by rw [er_hd]
          obtain ⟨r706, s705⟩ := Sit.callV (C := "reenact/trace/IntBits") (y := (⟨"reenact/trace/IntBits", "remove", "(I)V"⟩ : MethodName)) (W := 0) (Q := fun rv_ hh => ∃ v704 : Addr, ∃ b704 : Int32, ∃ h704 : Int32, ∃ g704 : Int32, ∃ z704 : Int32, ∃ ws704 : List Int64, (rv_ = none ∧ (n0 ≤ v704 ∧ @Ne Nat o v704 ∧ z704.toInt = ([xa.toInt].length : Int) ∧ Inv [xa.toInt] b704.toInt h704.toInt g704.toInt ws704 ∧ (ws704.length ≤ ws678.length ∨ ws704.length ≤ 4) ∧ ([xa.toInt] ≠ [] → g704 = g678))) ∧ (fun hh => Exa Z hh o "reenact/trace/IntBits" ∧ Fld Z hh o "reenact/trace/IntBits" "words" "[J" (.ref v704) ∧ Fld Z hh o "reenact/trace/IntBits" "greatest" "I" (.int g704) ∧ Fld Z hh o "reenact/trace/IntBits" "size" "I" (.int z704) ∧ Fld Z hh o "reenact/trace/IntBits" "base" "I" (.int b704) ∧ Fld Z hh o "reenact/trace/IntBits" "head" "I" (.int h704) ∧ AV Z hh v704 .long (ws704.map Value.long)) hh) [(.int xb)] [] s703 hZ hown (wi hw 32 rfl) (wi hw 33 rfl) (wi hw 35 rfl) (wi hw 34 rfl) (wi hw 36 rfl) (wi hw 4 rfl) (by decide) (fun hh q => q.1) (fun h1 hP hn => (rmR l Z a0 hw [] o xb v678 b678 h678 g678 z678 ws678 [xb.toInt, xa.toInt] 4 h1 n0 hn g_o gv678 ne678 V678 hz678 (by simp) (by simp) (by rw [er704]; exact Or.inl ⟨xa.toInt, by simp, fun z hz => by simp at hz; omega⟩) (by omega) (by decide) hP).mono fun rv_ hh q => by
              rw [er704] at q
              obtain ⟨e1, v', b', h', g', z', ws', e2, e3⟩ := q
              exact ⟨v', b', h', g', z', ws', ⟨e1, e2⟩, e3⟩) hml rfl (lenOf pd_2 rfl) at_377 (Nat.le_of_eq rfl) (by decide) (by decide) (by decide) (by decide) (pc' := 380) rfl
          obtain ⟨v704, s708⟩ := s705.ex
          obtain ⟨b704, s709⟩ := s708.ex
          obtain ⟨h704, s710⟩ := s709.ex
          obtain ⟨g704, s711⟩ := s710.ex
          obtain ⟨z704, s712⟩ := s711.ex
          obtain ⟨ws704, s713⟩ := s712.ex
          obtain ⟨_, ⟨er706, spr706⟩, _⟩ := s713.facts
          subst er706
          have s707 : Sit p l e _ s m _ below meth c _ st n0 7 413 (fun hh => Exa Z hh o "reenact/trace/IntBits" ∧ Fld Z hh o "reenact/trace/IntBits" "words" "[J" (.ref v704) ∧ Fld Z hh o "reenact/trace/IntBits" "greatest" "I" (.int g704) ∧ Fld Z hh o "reenact/trace/IntBits" "size" "I" (.int z704) ∧ Fld Z hh o "reenact/trace/IntBits" "base" "I" (.int b704) ∧ Fld Z hh o "reenact/trace/IntBits" "head" "I" (.int h704) ∧ AV Z hh v704 .long (ws704.map Value.long)) 380 #[.val (.int u0), .val (.long u1), .second, .val (.int u3), .val (.int u4), .val (.int u5), .val (.int (3 : Int32)), .val (.int xa), .val (.int xb), .val (.int xc), .val (.int g4), .val (.int rA), .val (.int rB), .val (.int rC), .val (.int rv), .val (.int ex), .val (.int nr), .val (.int cs), .val (.int hA), .val (.int hB), .val (.int hC), .val (.int em), .val (.int xc), .val (.int ee), .val (.ref o), .unset, .unset, .unset] [] := s713.mono fun _ q => q.2
          obtain ⟨gv704, ne704, hz704, V704, hl704, hg704⟩ := spr706
          have s714 : Sit p l e _ s m _ below meth c _ st n0 7 413 _ 382 #[.val (.int u0), .val (.long u1), .second, .val (.int u3), .val (.int u4), .val (.int u5), .val (.int (3 : Int32)), .val (.int xa), .val (.int xb), .val (.int xc), .val (.int g4), .val (.int rA), .val (.int rB), .val (.int rC), .val (.int rv), .val (.int ex), .val (.int nr), .val (.int cs), .val (.int hA), .val (.int hB), .val (.int hC), .val (.int em), .val (.int xc), .val (.int ee), .val (.ref o), .unset, .unset, .unset] [(.int rA)] := s707
            |>.iload at_380 rfl rfl
          by_cases k_xa : rA = 0
          · have s715 : Sit p l e _ s m _ below meth c _ st n0 7 413 _ 431 #[.val (.int u0), .val (.long u1), .second, .val (.int u3), .val (.int u4), .val (.int u5), .val (.int (3 : Int32)), .val (.int xa), .val (.int xb), .val (.int xc), .val (.int g4), .val (.int rA), .val (.int rB), .val (.int rC), .val (.int rv), .val (.int ex), .val (.int nr), .val (.int cs), .val (.int hA), .val (.int hB), .val (.int hC), .val (.int em), .val (.int xc), .val (.int ee), .val (.ref o), .unset, .unset, .unset] [] := s714
              |>.ifY at_382 (eqT k_xa) (by decide) (by decide)
            have kx : hA = 1 := e_hA.elim (fun h => h.1) (fun h => absurd k_xa h.2)
            have ekk : em = 0 := e_em.elim (fun h => absurd (kx.symm.trans h.2.1) (by decide)) (fun h => h.1)
            have khA : hA = 1 := e_hA.elim (fun h => h.1) (fun h => absurd k_xa h.2)
            have khB : hB = 0 := e_hB.elim (fun h => absurd h.2 k_xb) (fun h => h.1)
            have khC : hC = 0 := e_hC.elim (fun h => absurd h.2 k_xc) (fun h => h.1)
            have hgt : g704.toInt < ee.toInt := by
              rw [hg704 (by simp), hg678 (by simp)]; have := rf ekk; omega
            have mem0 : ∀ y : Int32, y.toInt ∈ [xa.toInt] ↔ ((¬ hA = 0 ∧ y = xa) ∨ (¬ hB = 0 ∧ y = xb) ∨ (¬ hC = 0 ∧ y = xc)) := fun y => by
              have d1 : ¬ (1 : Int32) = 0 := by decide
              rw [khA]
              rw [khB]
              rw [khC]
              simp only [List.mem_cons, List.not_mem_nil, or_false, false_or, Int32.toInt_inj, d1, not_true_eq_false, not_false_eq_true, true_and, false_and]
            exact tail (3 : Int32) rA rB rC rv ex nr cs hA hB hC em xc ee o v704 b704 h704 g704 z704 ws704 [xa.toInt] g_o gv704 ne704 V704 hz704 (by simp only [List.length_cons, List.length_nil]; omega) (by omega) mem0 (fun y hy => by simp at hy; omega) e_ex hgt re (Or.inr (by have := rf ekk; omega)) (s715.bound (cells' := 12) (slots' := 560) (by decide) (by decide))
          · have s716 : Sit p l e _ s m _ below meth c _ st n0 7 413 _ 389 #[.val (.int u0), .val (.long u1), .second, .val (.int u3), .val (.int u4), .val (.int u5), .val (.int (3 : Int32)), .val (.int xa), .val (.int xb), .val (.int xc), .val (.int g4), .val (.int rA), .val (.int rB), .val (.int rC), .val (.int rv), .val (.int ex), .val (.int nr), .val (.int cs), .val (.int hA), .val (.int hB), .val (.int hC), .val (.int em), .val (.int xc), .val (.int ee), .val (.ref o), .unset, .unset, .unset] [(.int xa), (.ref o)] := s714
              |>.ifN at_382 (eqF k_xa) rfl
              |>.aload at_385 rfl rfl
              |>.iload at_387 rfl rfl
            have er717 : [xa.toInt].erase xa.toInt = [] := by rw [er_hd]
            obtain ⟨r719, s718⟩ := Sit.callV (C := "reenact/trace/IntBits") (y := (⟨"reenact/trace/IntBits", "remove", "(I)V"⟩ : MethodName)) (W := 0) (Q := fun rv_ hh => ∃ v717 : Addr, ∃ b717 : Int32, ∃ h717 : Int32, ∃ g717 : Int32, ∃ z717 : Int32, ∃ ws717 : List Int64, (rv_ = none ∧ (n0 ≤ v717 ∧ @Ne Nat o v717 ∧ z717.toInt = (([] : List Int).length : Int) ∧ Inv [] b717.toInt h717.toInt g717.toInt ws717 ∧ (ws717.length ≤ ws704.length ∨ ws717.length ≤ 4) ∧ (([] : List Int) ≠ [] → g717 = g704))) ∧ (fun hh => Exa Z hh o "reenact/trace/IntBits" ∧ Fld Z hh o "reenact/trace/IntBits" "words" "[J" (.ref v717) ∧ Fld Z hh o "reenact/trace/IntBits" "greatest" "I" (.int g717) ∧ Fld Z hh o "reenact/trace/IntBits" "size" "I" (.int z717) ∧ Fld Z hh o "reenact/trace/IntBits" "base" "I" (.int b717) ∧ Fld Z hh o "reenact/trace/IntBits" "head" "I" (.int h717) ∧ AV Z hh v717 .long (ws717.map Value.long)) hh) [(.int xa)] [] s716 hZ hown (wi hw 32 rfl) (wi hw 33 rfl) (wi hw 35 rfl) (wi hw 34 rfl) (wi hw 36 rfl) (wi hw 4 rfl) (by decide) (fun hh q => q.1) (fun h1 hP hn => (rmR l Z a0 hw [] o xa v704 b704 h704 g704 z704 ws704 [xa.toInt] 4 h1 n0 hn g_o gv704 ne704 V704 hz704 (by simp) (by simp) (by rw [er717]; exact Or.inr ⟨by decide, fun y hy => by simp at hy⟩) (by omega) (by decide) hP).mono fun rv_ hh q => by
                rw [er717] at q
                obtain ⟨e1, v', b', h', g', z', ws', e2, e3⟩ := q
                exact ⟨v', b', h', g', z', ws', ⟨e1, e2⟩, e3⟩) hml rfl (lenOf pd_2 rfl) at_389 (Nat.le_of_eq rfl) (by decide) (by decide) (by decide) (by decide) (pc' := 392) rfl
            obtain ⟨v717, s721⟩ := s718.ex
            obtain ⟨b717, s722⟩ := s721.ex
            obtain ⟨h717, s723⟩ := s722.ex
            obtain ⟨g717, s724⟩ := s723.ex
            obtain ⟨z717, s725⟩ := s724.ex
            obtain ⟨ws717, s726⟩ := s725.ex
            obtain ⟨_, ⟨er719, spr719⟩, _⟩ := s726.facts
            subst er719
            have s720 : Sit p l e _ s m _ below meth c _ st n0 8 417 (fun hh => Exa Z hh o "reenact/trace/IntBits" ∧ Fld Z hh o "reenact/trace/IntBits" "words" "[J" (.ref v717) ∧ Fld Z hh o "reenact/trace/IntBits" "greatest" "I" (.int g717) ∧ Fld Z hh o "reenact/trace/IntBits" "size" "I" (.int z717) ∧ Fld Z hh o "reenact/trace/IntBits" "base" "I" (.int b717) ∧ Fld Z hh o "reenact/trace/IntBits" "head" "I" (.int h717) ∧ AV Z hh v717 .long (ws717.map Value.long)) 392 #[.val (.int u0), .val (.long u1), .second, .val (.int u3), .val (.int u4), .val (.int u5), .val (.int (3 : Int32)), .val (.int xa), .val (.int xb), .val (.int xc), .val (.int g4), .val (.int rA), .val (.int rB), .val (.int rC), .val (.int rv), .val (.int ex), .val (.int nr), .val (.int cs), .val (.int hA), .val (.int hB), .val (.int hC), .val (.int em), .val (.int xc), .val (.int ee), .val (.ref o), .unset, .unset, .unset] [] := s726.mono fun _ q => q.2
            obtain ⟨gv717, ne717, hz717, V717, hl717, hg717⟩ := spr719
            have s727 : Sit p l e _ s m _ below meth c _ st n0 8 417 _ 431 #[.val (.int u0), .val (.long u1), .second, .val (.int u3), .val (.int u4), .val (.int u5), .val (.int (3 : Int32)), .val (.int xa), .val (.int xb), .val (.int xc), .val (.int g4), .val (.int rA), .val (.int rB), .val (.int rC), .val (.int rv), .val (.int ex), .val (.int nr), .val (.int cs), .val (.int hA), .val (.int hB), .val (.int hC), .val (.int em), .val (.int xc), .val (.int ee), .val (.ref o), .unset, .unset, .unset] [] := s720
              |>.goto at_392 (by decide) (by decide)
            have khA : hA = 0 := e_hA.elim (fun h => absurd h.2 k_xa) (fun h => h.1)
            have khB : hB = 0 := e_hB.elim (fun h => absurd h.2 k_xb) (fun h => h.1)
            have khC : hC = 0 := e_hC.elim (fun h => absurd h.2 k_xc) (fun h => h.1)
            have hgt : g717.toInt < ee.toInt := by
              have e := (V717).2.2.2.2.2.2.1 rfl; omega
            have mem0 : ∀ y : Int32, y.toInt ∈ ([] : List Int) ↔ ((¬ hA = 0 ∧ y = xa) ∨ (¬ hB = 0 ∧ y = xb) ∨ (¬ hC = 0 ∧ y = xc)) := fun y => by
              have d1 : ¬ (1 : Int32) = 0 := by decide
              rw [khA]
              rw [khB]
              rw [khC]
              simp only [List.mem_cons, List.not_mem_nil, or_false, false_or, Int32.toInt_inj, d1, not_true_eq_false, not_false_eq_true, true_and, false_and]
            exact tail (3 : Int32) rA rB rC rv ex nr cs hA hB hC em xc ee o v717 b717 h717 g717 z717 ws717 ([] : List Int) g_o gv717 ne717 V717 hz717 (by simp only [List.length_cons, List.length_nil]; omega) (by omega) mem0 (fun y hy => by simp at hy) e_ex hgt re (Or.inl rfl) (s727.bound (cells' := 12) (slots' := 560) (by decide) (by decide))
set_option maxRecDepth 65536 in
set_option maxHeartbeats 40000000 in
theorem comes_1 {Post : Tables → Env → Array Value → State → Outcome → State → Prop} (hpost : ∀ tb e args s v u, (limb_1_1.after args s (.returned v) u = true ∧ limb_1_2.after args s (.returned v) u = true ∧ True) → FrameEnd s (.returned v) u (Jvm.fieldLocs frame_1_writes args s ++ Jvm.arrayLocs frame_1_arrays args s ++ Jvm.staticLocs frame_1_statics s) 24 1024 → Post tb e args s (.returned v) u) :
    ArmFor flags0 classFile x code maxLocals ret World_1 tables_1 room_1 Calls_1 rest_1 Pre_1 Post := by
  intro l hfl _ _ p e ha hc hk s m args below hf hA hF happ hP
  obtain ⟨hcalls, hrest, hpre⟩ := hP
  obtain ⟨-, -, -, hnamed, -, -, -, hat⟩ := (Spec.applies_iff hf).mp happ
  obtain ⟨hg, hn⟩ := and_e (Cond.before_iff.mp (show (Jvm.Cond.and given_1 narrow_1).before args s = true from hpre))
  obtain ⟨g0, q0⟩ := and_e hg
  obtain ⟨g1, q1⟩ := and_e q0
  obtain ⟨g2, q2⟩ := and_e q1
  obtain ⟨g3, q3⟩ := and_e q2
  obtain ⟨g4, q4⟩ := and_e q3
  obtain ⟨w0, w1, w2, w3, w4, rfl⟩ : ∃ w0 w1 w2 w3 w4 : Value, args = #[w0, w1, w2, w3, w4] := by
    have hs : args.size = 5 := by simpa [Cond.value, given_1] using g0
    obtain ⟨L⟩ := args
    match L, hs with
    | [w0, w1, w2, w3, w4], _ => exact ⟨w0, w1, w2, w3, w4, rfl⟩
  have hw := fun d (hd : d ∈ tables_1) => atoms_spec (ws := Jvm.Cond.code x code maxLocals ret :: tables_1) hat d (List.mem_cons_of_mem _ hd)
  obtain ⟨i0, ei0⟩ := is_v g1
  obtain rfl : w0 = (.int i0) := Option.some.inj ei0
  obtain ⟨i1, ei1⟩ := isL_v g2
  obtain rfl : w1 = (.long i1) := Option.some.inj ei1
  obtain ⟨i2, ei2⟩ := is_v g3
  obtain rfl : w2 = (.int i2) := Option.some.inj ei2
  obtain ⟨i3, ei3⟩ := is_v g4
  obtain rfl : w3 = (.int i3) := Option.some.inj ei3
  obtain ⟨i4, ei4⟩ := is_v q4
  obtain rfl : w4 = (.int i4) := Option.some.inj ei4
  obtain ⟨n, o, h1, h2, h3, _, L, rfl, ⟨N, rfl⟩, hq⟩ := rm0 l s _ hw tables_1 i0 i1 i2 i3 i4 s.heap s.heap.size (Nat.le_refl _) p e ha hc hk s m _ below hf ((Spec.applies_iff_loose hf).mp happ).1 ⟨rfl, State.Warmed39.refl s, rfl⟩ trivial
  refine ⟨n, _, h1, h2, h3, hpost _ _ _ _ _ _ ⟨Cond.after_iff.mpr rfl, Cond.after_iff.mpr (eq_i res_at (Term.int_eval (1)) rfl), trivial⟩ ⟨hq.1, hq.2.1, (hq.2.2.sift fun y hy => Or.inr (N y hy)).mono (by decide) (by decide)⟩⟩
theorem main_1_1 : Claimed_1_1 := comes_1 fun _ _ _ _ _ _ h hF => ⟨h.1, hF⟩
theorem main_1_2 : Claimed_1_2 := comes_1 fun _ _ _ _ _ _ h hF => ⟨h.2.1, hF⟩
end Jvm.Pilot.@@N@@
namespace Jvm.Pilot.@@N@@
open Jvm Jvm.ClassFile Sem Op Lib Jvm.Free Jvm.Stand Jvm.Pilot.@@N@@.Jvm.D
/-! MADE BY PROGRAM (witnessworld.py) out of the Statement's table words and the real class files: 18 classes; the members and pool entries that the words name. The judged class is class 1, her method 1. -/
namespace start1
open Jvm.ClassFile
def u (s : String) : CpInfo := .utf8 (stringToUtf16 s)
/-- a pool by its gaps: so many unusable entries, then the entry; so many at the end -/
def gap : Nat → List CpInfo → List CpInfo
  | 0, r => r
  | n + 1, r => .unusable :: gap n r
def poolList (es : List (Nat × CpInfo)) (last : Nat) : List CpInfo := es.foldr (fun e r => gap e.1 (e.2 :: r)) (gap last [])
def pool (es : List (Nat × CpInfo)) (last : Nat) : Array CpInfo := ⟨poolList es last⟩
def fileOf (pool : Array CpInfo) (this : Nat) (attrs : Array Attribute := #[]) (ms : Array MethodInfo := #[]) (fl : Nat := 33) (sup : Nat := 0) (ifs : Array Nat := #[]) (fds : Array FieldInfo := #[]) : ClassFile where
  minorVersion := 0
  majorVersion := 65
  constantPool := pool
  accessFlags := fl
  thisClass := this
  superClass := sup
  interfaces := ifs
  fields := fds
  methods := ms
  attributes := attrs
def plain (name : String) (sup : Option ClassId) : Class where
  name := name
  kind := .ordinary
  loader := none
  accessFlags := 33
  super := sup
  interfaces := #[]
  cf := none
  fields := #[]
  methods := #[]
  instanceTypes := #[]
  staticTypes := #[]
  resolved := #[]
  callSites := []
  init := .initialized
  statics := none
  mirror := none

def pool0 : Array CpInfo := pool [(5, u "<init>"), (0, u "()V"), (1, .class_ 10), (1, u "java/lang/Object")] 113

def k0c0 : Code := { maxStack := 0, maxLocals := 1, code := object_method_1_code, exceptionTable := #[], attributes := #[] }
def k0m0 : Method := { name := "<init>", desc := "()V", sig := { parameters := [], returnType := none }, accessFlags := 1, code := some k0c0 }
/-- java/lang/Object -/
def k0 : Class := { plain "java/lang/Object" none with
  accessFlags := 33
  interfaces := #[]
  cf := some (fileOf pool0 8 #[] #[{ accessFlags := 1, nameIndex := 5, descriptorIndex := 6, attributes := #[] }] 33 0 #[] #[])
  fields := #[]
  methods := #[k0m0]
  instanceTypes := #[]
  staticTypes := #[]
  resolved := Array.replicate 124 none
  statics := none }

def pool1 : Array CpInfo := pool [(2, .class_ 4), (0, .nameAndType 5 6), (0, u "java/lang/Object"), (0, u "<init>"), (0, u "()V"), (0, .integer 1073741823), (0, .long 4095), (1, .class_ 11), (0, u "reenact/trace/IntBits"), (0, .methodref 10 3), (0, .methodref 10 14), (0, .nameAndType 15 16), (0, u "add"), (0, u "(I)V"), (0, .methodref 10 18), (0, .nameAndType 19 16), (0, u "remove"), (0, .methodref 10 21), (0, .nameAndType 22 23), (0, u "contains"), (0, u "(I)Z"), (0, .class_ 25), (0, u "reenact/trace/IntBitsContainsPinLaw"), (2, u "law"), (0, u "(IJIII)Z")] 3

def k1m0 : Method := { name := "<init>", desc := "()V", sig := { parameters := [], returnType := none }, accessFlags := 1, code := none }
def k1c1 : Code := { maxStack := 5, maxLocals := 28, code := code, exceptionTable := #[], attributes := #[] }
def k1m1 : Method := { name := "law", desc := "(IJIII)Z", sig := { parameters := [.int, .long, .int, .int, .int], returnType := some .boolean }, accessFlags := 9, code := some k1c1 }
/-- reenact/trace/IntBitsContainsPinLaw -/
def k1 : Class := { plain "reenact/trace/IntBitsContainsPinLaw" (some 0) with
  accessFlags := 49
  interfaces := #[]
  cf := some (fileOf pool1 24 #[] #[{ accessFlags := 1, nameIndex := 5, descriptorIndex := 6, attributes := #[] }, { accessFlags := 9, nameIndex := 28, descriptorIndex := 29, attributes := #[] }] 49 2 #[] #[])
  fields := #[]
  methods := #[k1m0, k1m1]
  instanceTypes := #[]
  staticTypes := #[]
  resolved := Array.replicate 33 none
  statics := none }

def pool2 : Array CpInfo := pool [(1, .methodref 2 3), (0, .class_ 4), (0, .nameAndType 5 6), (0, u "java/lang/Object"), (0, u "<init>"), (0, u "()V"), (0, .class_ 8), (0, u "reenact/trace/IntBits"), (0, .fieldref 7 10), (0, .nameAndType 11 12), (0, u "words"), (0, u "[J"), (0, .fieldref 7 14), (0, .nameAndType 15 16), (0, u "greatest"), (0, u "I"), (9, .fieldref 7 27), (0, .nameAndType 28 16), (0, u "size"), (2, .fieldref 7 32), (0, .nameAndType 33 16), (0, u "base"), (0, .fieldref 7 35), (0, .nameAndType 36 16), (0, u "head"), (0, .methodref 38 39), (0, .class_ 40), (0, .nameAndType 41 42), (0, u "java/lang/Integer"), (0, u "highestOneBit"), (0, u "(I)I"), (0, .methodref 44 45), (0, .class_ 46), (0, .nameAndType 47 48), (0, u "java/lang/Math"), (0, u "max"), (0, u "(II)I"), (0, .methodref 7 50), (0, .nameAndType 51 52), (0, u "moveDown"), (0, u "(I)V"), (0, .methodref 7 54), (0, .nameAndType 55 56), (0, u "contains"), (0, u "(I)Z"), (0, .long 18446744073709551615), (1, .methodref 60 61), (0, .class_ 62), (0, .nameAndType 63 64), (0, u "java/lang/System"), (0, u "arraycopy"), (0, u "(Ljava/lang/Object;ILjava/lang/Object;II)V"), (0, u "LEAST"), (4, u "add"), (1, u "remove")] 17

def k2c0 : Code := { maxStack := 2, maxLocals := 1, code := prog_149_method_1_code, exceptionTable := #[], attributes := #[] }
def k2m0 : Method := { name := "<init>", desc := "()V", sig := { parameters := [], returnType := none }, accessFlags := 0, code := some k2c0 }
def k2c1 : Code := { maxStack := 7, maxLocals := 3, code := prog_149_method_2_code, exceptionTable := #[], attributes := #[] }
def k2m1 : Method := { name := "add", desc := "(I)V", sig := { parameters := [.int], returnType := none }, accessFlags := 0, code := some k2c1 }
def k2c2 : Code := { maxStack := 5, maxLocals := 3, code := prog_149_method_3_code, exceptionTable := #[], attributes := #[] }
def k2m2 : Method := { name := "contains", desc := "(I)Z", sig := { parameters := [.int], returnType := some .boolean }, accessFlags := 0, code := some k2c2 }
def k2c3 : Code := { maxStack := 8, maxLocals := 3, code := prog_149_method_4_code, exceptionTable := #[], attributes := #[] }
def k2m3 : Method := { name := "remove", desc := "(I)V", sig := { parameters := [.int], returnType := none }, accessFlags := 0, code := some k2c3 }
def k2c4 : Code := { maxStack := 5, maxLocals := 4, code := prog_149_method_5_code, exceptionTable := #[], attributes := #[] }
def k2m4 : Method := { name := "moveDown", desc := "(I)V", sig := { parameters := [.int], returnType := none }, accessFlags := 2, code := some k2c4 }
/-- reenact/trace/IntBits -/
def k2 : Class := { plain "reenact/trace/IntBits" (some 0) with
  accessFlags := 48
  interfaces := #[]
  cf := some (fileOf pool2 7 #[] #[{ accessFlags := 0, nameIndex := 5, descriptorIndex := 6, attributes := #[] }, { accessFlags := 0, nameIndex := 70, descriptorIndex := 52, attributes := #[] }, { accessFlags := 0, nameIndex := 55, descriptorIndex := 56, attributes := #[] }, { accessFlags := 0, nameIndex := 72, descriptorIndex := 52, attributes := #[] }, { accessFlags := 2, nameIndex := 51, descriptorIndex := 52, attributes := #[] }] 48 2 #[] #[{ accessFlags := 26, nameIndex := 65, descriptorIndex := 16, attributes := #[] }, { accessFlags := 2, nameIndex := 11, descriptorIndex := 12, attributes := #[] }, { accessFlags := 2, nameIndex := 33, descriptorIndex := 16, attributes := #[] }, { accessFlags := 2, nameIndex := 36, descriptorIndex := 16, attributes := #[] }, { accessFlags := 2, nameIndex := 15, descriptorIndex := 16, attributes := #[] }, { accessFlags := 2, nameIndex := 28, descriptorIndex := 16, attributes := #[] }])
  fields := #[{ name := "LEAST", type := .int, accessFlags := 26, slot := 0, constantValue := 0 }, { name := "words", type := (.array .long), accessFlags := 2, slot := 0, constantValue := 0 }, { name := "base", type := .int, accessFlags := 2, slot := 1, constantValue := 0 }, { name := "head", type := .int, accessFlags := 2, slot := 2, constantValue := 0 }, { name := "greatest", type := .int, accessFlags := 2, slot := 3, constantValue := 0 }, { name := "size", type := .int, accessFlags := 2, slot := 4, constantValue := 0 }]
  methods := #[k2m0, k2m1, k2m2, k2m3, k2m4]
  instanceTypes := #[(.array .long), .int, .int, .int, .int]
  staticTypes := #[.int]
  resolved := Array.replicate 90 none
  statics := none }

def pool3 : Array CpInfo := pool [(1, .class_ 2), (0, u "java/io/Serializable"), (0, .class_ 4), (0, u "java/lang/Object")] 2

/-- java/io/Serializable -/
def k3 : Class := { plain "java/io/Serializable" (some 0) with
  accessFlags := 1537
  interfaces := #[]
  cf := some (fileOf pool3 1 #[] #[] 1537 3 #[] #[])
  fields := #[]
  methods := #[]
  instanceTypes := #[]
  staticTypes := #[]
  resolved := Array.replicate 7 none
  statics := none }

def pool4 : Array CpInfo := pool [(2, .class_ 4), (1, u "java/lang/Object"), (0, u "<init>"), (0, u "()V"), (1, .class_ 10), (1, u "java/lang/Number"), (2, .class_ 14), (0, u "java/io/Serializable"), (0, u "serialVersionUID"), (0, u "J")] 20

def k4m0 : Method := { name := "<init>", desc := "()V", sig := { parameters := [], returnType := none }, accessFlags := 1, code := none }
/-- java/lang/Number -/
def k4 : Class := { plain "java/lang/Number" (some 0) with
  accessFlags := 1057
  interfaces := #[3]
  cf := some (fileOf pool4 8 #[] #[{ accessFlags := 1, nameIndex := 5, descriptorIndex := 6, attributes := #[] }] 1057 2 #[13] #[{ accessFlags := 26, nameIndex := 15, descriptorIndex := 16, attributes := #[] }])
  fields := #[{ name := "serialVersionUID", type := .long, accessFlags := 26, slot := 0, constantValue := 0 }]
  methods := #[k4m0]
  instanceTypes := #[]
  staticTypes := #[.long]
  resolved := Array.replicate 37 none
  statics := none }

def pool5 : Array CpInfo := pool [(1, .class_ 2), (0, u "java/lang/Comparable"), (0, .class_ 4), (0, u "java/lang/Object")] 7

/-- java/lang/Comparable -/
def k5 : Class := { plain "java/lang/Comparable" (some 0) with
  accessFlags := 1537
  interfaces := #[]
  cf := some (fileOf pool5 1 #[] #[] 1537 3 #[] #[])
  fields := #[]
  methods := #[]
  instanceTypes := #[]
  staticTypes := #[]
  resolved := Array.replicate 12 none
  statics := none }

def pool6 : Array CpInfo := pool [(1, .class_ 2), (0, u "java/lang/constant/Constable"), (0, .class_ 4), (0, u "java/lang/Object")] 6

/-- java/lang/constant/Constable -/
def k6 : Class := { plain "java/lang/constant/Constable" (some 0) with
  accessFlags := 1537
  interfaces := #[]
  cf := some (fileOf pool6 1 #[] #[] 1537 3 #[] #[])
  fields := #[]
  methods := #[]
  instanceTypes := #[]
  staticTypes := #[]
  resolved := Array.replicate 11 none
  statics := none }

def pool7 : Array CpInfo := pool [(1, .class_ 2), (0, u "java/lang/constant/ConstantDesc"), (0, .class_ 4), (0, u "java/lang/Object")] 32

/-- java/lang/constant/ConstantDesc -/
def k7 : Class := { plain "java/lang/constant/ConstantDesc" (some 0) with
  accessFlags := 1537
  interfaces := #[]
  cf := some (fileOf pool7 1 #[] #[] 1537 3 #[] #[])
  fields := #[]
  methods := #[]
  instanceTypes := #[]
  staticTypes := #[]
  resolved := Array.replicate 37 none
  statics := none }

def pool8 : Array CpInfo := pool [(1, .class_ 2), (0, u "java/lang/Integer"), (16, u "digits"), (0, u "[C"), (30, .methodref 1 52), (0, .nameAndType 53 54), (0, u "numberOfLeadingZeros"), (0, u "(I)I"), (30, u "DigitOnes"), (0, u "[B"), (2, u "DigitTens"), (37, .integer 2147483648), (61, .class_ 190), (0, u "java/lang/Integer$IntegerCache"), (3, u "I"), (8, .class_ 204), (0, u "java/lang/Number"), (2, u "value"), (56, .integer 65536), (37, u "TYPE"), (0, u "Ljava/lang/Class;"), (0, .class_ 305), (0, u "java/lang/Comparable"), (0, .class_ 307), (0, u "java/lang/constant/Constable"), (0, .class_ 309), (0, u "java/lang/constant/ConstantDesc"), (0, u "MIN_VALUE"), (1, u "MAX_VALUE"), (3, u "SIZE"), (1, u "BYTES"), (1, u "serialVersionUID"), (0, u "J"), (81, u "highestOneBit")] 49

def k8c0 : Code := { maxStack := 3, maxLocals := 1, code := jdk_33_method_45_code, exceptionTable := #[], attributes := #[] }
def k8m0 : Method := { name := "highestOneBit", desc := "(I)I", sig := { parameters := [.int], returnType := some .int }, accessFlags := 9, code := some k8c0 }
def k8c1 : Code := { maxStack := 3, maxLocals := 2, code := jdk_33_method_47_code, exceptionTable := #[], attributes := #[] }
def k8m1 : Method := { name := "numberOfLeadingZeros", desc := "(I)I", sig := { parameters := [.int], returnType := some .int }, accessFlags := 9, code := some k8c1 }
/-- java/lang/Integer -/
def k8 : Class := { plain "java/lang/Integer" (some 4) with
  accessFlags := 49
  interfaces := #[5, 6, 7]
  cf := some (fileOf pool8 1 #[.nestMembers #[189]] #[{ accessFlags := 9, nameIndex := 403, descriptorIndex := 54, attributes := #[] }, { accessFlags := 9, nameIndex := 53, descriptorIndex := 54, attributes := #[] }] 49 203 #[304, 306, 308] #[{ accessFlags := 25, nameIndex := 310, descriptorIndex := 194, attributes := #[] }, { accessFlags := 25, nameIndex := 312, descriptorIndex := 194, attributes := #[] }, { accessFlags := 25, nameIndex := 302, descriptorIndex := 303, attributes := #[] }, { accessFlags := 24, nameIndex := 19, descriptorIndex := 20, attributes := #[] }, { accessFlags := 24, nameIndex := 89, descriptorIndex := 86, attributes := #[] }, { accessFlags := 24, nameIndex := 85, descriptorIndex := 86, attributes := #[] }, { accessFlags := 18, nameIndex := 207, descriptorIndex := 194, attributes := #[] }, { accessFlags := 25, nameIndex := 316, descriptorIndex := 194, attributes := #[] }, { accessFlags := 25, nameIndex := 318, descriptorIndex := 194, attributes := #[] }, { accessFlags := 26, nameIndex := 320, descriptorIndex := 321, attributes := #[] }])
  fields := #[{ name := "MIN_VALUE", type := .int, accessFlags := 25, slot := 0, constantValue := 0 }, { name := "MAX_VALUE", type := .int, accessFlags := 25, slot := 1, constantValue := 0 }, { name := "TYPE", type := (.object "java/lang/Class"), accessFlags := 25, slot := 2, constantValue := 0 }, { name := "digits", type := (.array .char), accessFlags := 24, slot := 3, constantValue := 0 }, { name := "DigitTens", type := (.array .byte), accessFlags := 24, slot := 4, constantValue := 0 }, { name := "DigitOnes", type := (.array .byte), accessFlags := 24, slot := 5, constantValue := 0 }, { name := "value", type := .int, accessFlags := 18, slot := 0, constantValue := 0 }, { name := "SIZE", type := .int, accessFlags := 25, slot := 6, constantValue := 0 }, { name := "BYTES", type := .int, accessFlags := 25, slot := 7, constantValue := 0 }, { name := "serialVersionUID", type := .long, accessFlags := 26, slot := 8, constantValue := 0 }]
  methods := #[k8m0, k8m1]
  instanceTypes := #[.int]
  staticTypes := #[.int, .int, (.object "java/lang/Class"), (.array .char), (.array .byte), (.array .byte), .int, .int, .long]
  resolved := Array.replicate 453 none
  statics := none }

def pool9 : Array CpInfo := pool [(1, .class_ 2), (0, u "java/lang/Math"), (1, .class_ 6), (1, u "java/lang/Object"), (0, u "<init>"), (0, u "()V"), (89, .class_ 100), (1, u "java/lang/Math$RandomNumberGeneratorHolder"), (71, u "negativeZeroFloatBits"), (0, u "J"), (2, u "negativeZeroDoubleBits"), (21, u "max"), (46, u "$assertionsDisabled"), (0, u "Z"), (88, u "(II)I"), (2, u "twoToTheDoubleScaleDown"), (0, u "D"), (4, u "twoToTheDoubleScaleUp"), (9, u "E"), (3, u "PI"), (2, u "TAU"), (2, u "DEGREES_TO_RADIANS"), (0, u "RADIANS_TO_DEGREES")] 94

def k9m0 : Method := { name := "<init>", desc := "()V", sig := { parameters := [], returnType := none }, accessFlags := 2, code := none }
def k9c1 : Code := { maxStack := 2, maxLocals := 2, code := jdk_29_method_65_code, exceptionTable := #[], attributes := #[] }
def k9m1 : Method := { name := "max", desc := "(II)I", sig := { parameters := [.int, .int], returnType := some .int }, accessFlags := 9, code := some k9c1 }
/-- java/lang/Math -/
def k9 : Class := { plain "java/lang/Math" (some 0) with
  accessFlags := 49
  interfaces := #[]
  cf := some (fileOf pool9 1 #[.nestMembers #[98]] #[{ accessFlags := 2, nameIndex := 7, descriptorIndex := 8, attributes := #[] }, { accessFlags := 9, nameIndex := 198, descriptorIndex := 335, attributes := #[] }] 49 4 #[] #[{ accessFlags := 25, nameIndex := 354, descriptorIndex := 339, attributes := #[] }, { accessFlags := 25, nameIndex := 358, descriptorIndex := 339, attributes := #[] }, { accessFlags := 25, nameIndex := 361, descriptorIndex := 339, attributes := #[] }, { accessFlags := 26, nameIndex := 364, descriptorIndex := 339, attributes := #[] }, { accessFlags := 26, nameIndex := 365, descriptorIndex := 339, attributes := #[] }, { accessFlags := 26, nameIndex := 172, descriptorIndex := 173, attributes := #[] }, { accessFlags := 26, nameIndex := 176, descriptorIndex := 173, attributes := #[] }, { accessFlags := 8, nameIndex := 344, descriptorIndex := 339, attributes := #[] }, { accessFlags := 8, nameIndex := 338, descriptorIndex := 339, attributes := #[] }, { accessFlags := 4120, nameIndex := 245, descriptorIndex := 246, attributes := #[] }])
  fields := #[{ name := "E", type := .double, accessFlags := 25, slot := 0, constantValue := 0 }, { name := "PI", type := .double, accessFlags := 25, slot := 1, constantValue := 0 }, { name := "TAU", type := .double, accessFlags := 25, slot := 2, constantValue := 0 }, { name := "DEGREES_TO_RADIANS", type := .double, accessFlags := 26, slot := 3, constantValue := 0 }, { name := "RADIANS_TO_DEGREES", type := .double, accessFlags := 26, slot := 4, constantValue := 0 }, { name := "negativeZeroFloatBits", type := .long, accessFlags := 26, slot := 5, constantValue := 0 }, { name := "negativeZeroDoubleBits", type := .long, accessFlags := 26, slot := 6, constantValue := 0 }, { name := "twoToTheDoubleScaleUp", type := .double, accessFlags := 8, slot := 7, constantValue := 0 }, { name := "twoToTheDoubleScaleDown", type := .double, accessFlags := 8, slot := 8, constantValue := 0 }, { name := "$assertionsDisabled", type := .boolean, accessFlags := 4120, slot := 9, constantValue := 0 }]
  methods := #[k9m0, k9m1]
  instanceTypes := #[]
  staticTypes := #[.double, .double, .double, .double, .double, .long, .long, .double, .double, .boolean]
  resolved := Array.replicate 460 none
  statics := none }

def pool10 : Array CpInfo := pool [(2, .class_ 4), (1, u "java/lang/Object"), (0, u "<init>"), (0, u "()V"), (1, .class_ 10), (1, u "java/lang/System"), (0, u "allowSecurityManager"), (0, u "I"), (16, u "cons"), (0, u "Ljava/io/Console;"), (77, .class_ 110), (1, u "java/lang/System$CallersHolder"), (43, u "initialErrStream"), (0, u "Ljava/io/PrintStream;"), (19, u "security"), (0, u "Ljava/lang/SecurityManager;"), (31, .class_ 209), (0, u "java/lang/System$1"), (7, u "props"), (0, u "Ljava/util/Properties;"), (2, u "lineSeparator"), (0, u "Ljava/lang/String;"), (96, .class_ 321), (1, u "java/lang/System$LoggerFinder"), (5, .class_ 328), (0, u "java/lang/System$Logger"), (67, u "err"), (2, u "out"), (91, u "notSupportedJnuEncoding"), (15, u "in"), (17, u "initialIn"), (0, u "Ljava/io/InputStream;"), (35, u "bootLayer"), (0, u "Ljava/lang/ModuleLayer;"), (99, .class_ 664), (0, u "java/lang/System$2"), (9, u "NEVER"), (2, u "MAYBE"), (49, u "arraycopy"), (0, u "(Ljava/lang/Object;ILjava/lang/Object;II)V"), (72, .class_ 802), (0, u "java/lang/System$Logger$Level")] 31

def k10m0 : Method := { name := "<init>", desc := "()V", sig := { parameters := [], returnType := none }, accessFlags := 2, code := none }
def k10m1 : Method := { name := "arraycopy", desc := "(Ljava/lang/Object;ILjava/lang/Object;II)V", sig := { parameters := [(.object "java/lang/Object"), .int, (.object "java/lang/Object"), .int, .int], returnType := none }, accessFlags := 265, code := none }
/-- java/lang/System -/
def k10 : Class := { plain "java/lang/System" (some 0) with
  accessFlags := 49
  interfaces := #[]
  cf := some (fileOf pool10 8 #[.nestMembers #[319, 327, 801, 108, 663, 208]] #[{ accessFlags := 2, nameIndex := 5, descriptorIndex := 6, attributes := #[] }, { accessFlags := 265, nameIndex := 727, descriptorIndex := 728, attributes := #[] }] 49 2 #[] #[{ accessFlags := 25, nameIndex := 507, descriptorIndex := 526, attributes := #[] }, { accessFlags := 25, nameIndex := 399, descriptorIndex := 155, attributes := #[] }, { accessFlags := 25, nameIndex := 396, descriptorIndex := 155, attributes := #[] }, { accessFlags := 10, nameIndex := 525, descriptorIndex := 526, attributes := #[] }, { accessFlags := 26, nameIndex := 674, descriptorIndex := 12, attributes := #[] }, { accessFlags := 26, nameIndex := 677, descriptorIndex := 12, attributes := #[] }, { accessFlags := 10, nameIndex := 11, descriptorIndex := 12, attributes := #[] }, { accessFlags := 74, nameIndex := 175, descriptorIndex := 176, attributes := #[] }, { accessFlags := 10, nameIndex := 491, descriptorIndex := 222, attributes := #[] }, { accessFlags := 74, nameIndex := 29, descriptorIndex := 30, attributes := #[] }, { accessFlags := 74, nameIndex := 154, descriptorIndex := 155, attributes := #[] }, { accessFlags := 10, nameIndex := 217, descriptorIndex := 218, attributes := #[] }, { accessFlags := 10, nameIndex := 221, descriptorIndex := 222, attributes := #[] }, { accessFlags := 8, nameIndex := 562, descriptorIndex := 563, attributes := #[] }])
  fields := #[{ name := "in", type := (.object "java/io/InputStream"), accessFlags := 25, slot := 0, constantValue := 0 }, { name := "out", type := (.object "java/io/PrintStream"), accessFlags := 25, slot := 1, constantValue := 0 }, { name := "err", type := (.object "java/io/PrintStream"), accessFlags := 25, slot := 2, constantValue := 0 }, { name := "initialIn", type := (.object "java/io/InputStream"), accessFlags := 10, slot := 3, constantValue := 0 }, { name := "NEVER", type := .int, accessFlags := 26, slot := 4, constantValue := 0 }, { name := "MAYBE", type := .int, accessFlags := 26, slot := 5, constantValue := 0 }, { name := "allowSecurityManager", type := .int, accessFlags := 10, slot := 6, constantValue := 0 }, { name := "security", type := (.object "java/lang/SecurityManager"), accessFlags := 74, slot := 7, constantValue := 0 }, { name := "notSupportedJnuEncoding", type := (.object "java/lang/String"), accessFlags := 10, slot := 8, constantValue := 0 }, { name := "cons", type := (.object "java/io/Console"), accessFlags := 74, slot := 9, constantValue := 0 }, { name := "initialErrStream", type := (.object "java/io/PrintStream"), accessFlags := 74, slot := 10, constantValue := 0 }, { name := "props", type := (.object "java/util/Properties"), accessFlags := 10, slot := 11, constantValue := 0 }, { name := "lineSeparator", type := (.object "java/lang/String"), accessFlags := 10, slot := 12, constantValue := 0 }, { name := "bootLayer", type := (.object "java/lang/ModuleLayer"), accessFlags := 8, slot := 13, constantValue := 0 }]
  methods := #[k10m0, k10m1]
  instanceTypes := #[]
  staticTypes := #[(.object "java/io/InputStream"), (.object "java/io/PrintStream"), (.object "java/io/PrintStream"), (.object "java/io/InputStream"), .int, .int, .int, (.object "java/lang/SecurityManager"), (.object "java/lang/String"), (.object "java/io/Console"), (.object "java/io/PrintStream"), (.object "java/util/Properties"), (.object "java/lang/String"), (.object "java/lang/ModuleLayer")]
  resolved := Array.replicate 834 none
  statics := none }

def pool11 : Array CpInfo := pool [(1, u "java/lang/Cloneable"), (0, .class_ 1), (0, u "java/lang/Object"), (0, .class_ 3)] 3

/-- java/lang/Cloneable -/
def k11 : Class := { plain "java/lang/Cloneable" (some 0) with
  accessFlags := 1537
  interfaces := #[]
  cf := some (fileOf pool11 2 #[] #[] 1537 4 #[] #[])
  fields := #[]
  methods := #[]
  instanceTypes := #[]
  staticTypes := #[]
  resolved := Array.replicate 8 none
  statics := none }

/-- the primitive byte -/
def k12 : Class := { plain "byte" none with kind := .primitive 'B', accessFlags := 0x411 }
/-- [B -/
def k13 : Class := { plain "[B" (some 0) with kind := .array 12 .byte, interfaces := #[11, 3], accessFlags := 1041 }

/-- the primitive int -/
def k14 : Class := { plain "int" none with kind := .primitive 'I', accessFlags := 0x411 }
/-- [I -/
def k15 : Class := { plain "[I" (some 0) with kind := .array 14 .int, interfaces := #[11, 3], accessFlags := 1041 }

/-- the primitive long -/
def k16 : Class := { plain "long" none with kind := .primitive 'J', accessFlags := 0x411 }
/-- [J -/
def k17 : Class := { plain "[J" (some 0) with kind := .array 16 .long, interfaces := #[11, 3], accessFlags := 1041 }

def heap : Heap := #[]
def classes : Array Class := #[k0, k1, k2, k3, k4, k5, k6, k7, k8, k9, k10, k11, k12, k13, k14, k15, k16, k17]
def interned : List (Array UInt16 × Addr) := []
def slotsUsed : Nat := 0
def theMethod : MethodId := ⟨1, 1⟩
def args0 : Array Value := #[.int 5, .long 7, .int 2, .int 9, .int 3]
def aboutOver (below : List Frame) : State where
  vm := { classes := classes, interned := interned.toArray }
  heap := heap
  slotsUsed := slotsUsed
  threads := #[{ frames := .invoking theMethod args0 :: below }]
def below0 : List Frame := [.native { method := ⟨0, 0⟩, args := #[] }]
def about1 : State := aboutOver below0
def p0 : Program := .bare "" "" ""
def e0 : Env := launch0.env 0 0 0
theorem w_frames : about1.frames = Frame.invoking theMethod args0 :: below0 := rfl
set_option maxRecDepth 65536 in
theorem w_args : argsFit about1.vm theMethod args0 = true := by decide +kernel
set_option maxRecDepth 65536 in
theorem w_heap : heapFits about1 = true := by decide +kernel
set_option maxRecDepth 65536 in
theorem w_runnable : about1.curStatus? = some .runnable := by decide +kernel
set_option maxRecDepth 65536 in
theorem w_alone : about1.alone = true := by decide +kernel
set_option maxRecDepth 65536 in
theorem w_named : about1.methodNamed? x = some theMethod := by decide +kernel
set_option maxRecDepth 65536 in
theorem w_hears : about1.hears theMethod below0 = true := by decide +kernel
set_option maxRecDepth 65536 in
theorem w_ripe : about1.ripe theMethod args0 below0 = true := by decide +kernel
theorem w_running : about1.status = .running := rfl
set_option maxRecDepth 65536 in
theorem w_room : about1.hasRoom e0.platform room_1 = true :=
  launch0.hasRoom_least _ room_1 (by decide +kernel) (by decide +kernel) (by decide +kernel) (by decide +kernel) (by decide +kernel) (by decide +kernel)
theorem allAtoms_all (ts : List Jvm.Cond) (a : Array Jvm.Value) (st : Jvm.State) : (allAtoms ts).before a st = ts.all (fun c => c.before a st) := by
  induction ts with
  | nil => rfl
  | cons c t ih =>
    show (Jvm.Cond.and c (allAtoms t)).before a st = _
    rw [Jvm.Cond.before_and, ih, List.all_cons]
def words1 : List Jvm.Cond := Jvm.Cond.code x code maxLocals ret :: tables_1
/-- a 'code' word, met by the world's own term for the bytes: nothing is compared byte by byte -/
theorem code_word {y : MethodName} {bytes : ByteArray} {mx : Nat} {rt : Option FieldType} {a : Array Value} {s : State} {m : MethodId} {meth : Method} {c : Code} (h1 : s.methodNamed? y = some m) (h2 : s.vm.method? m = some meth) (h3 : meth.code = some c) (h4 : c.code = bytes)
    (h5 : (c.maxLocals == mx && c.exceptionTable.isEmpty && decide (c.maxStack ≤ mostOperands) && decide (meth.sig.returnType = rt) && !meth.locks && decide (parseMethodDescriptor y.desc = some meth.sig)) = true) : (Jvm.Cond.code y bytes mx rt).before a s = true := by
  simp only [Bool.and_eq_true, beq_iff_eq, Bool.not_eq_true', decide_eq_true_eq] at h5
  obtain ⟨⟨⟨⟨⟨g1, g2⟩, g3⟩, g4⟩, g5⟩, g6⟩ := h5
  simp [Cond.before, Cond.holds, Cond.value, h1, h2, h3, h4, g1, g2, g3, g4, g5, g6]
def isCode : Jvm.Cond → Bool
  | .code _ _ _ _ => true
  | _ => false
theorem all_split {L : List Jvm.Cond} {P : Jvm.Cond → Bool} (h1 : L.all (fun c => isCode c || P c) = true) (h2 : ∀ c ∈ L.filter isCode, P c = true) : L.all P = true := by
  refine List.all_eq_true.mpr fun c hc => ?_
  have h := List.all_eq_true.mp h1 c hc
  rcases Bool.eq_false_or_eq_true (isCode c) with hi | hi
  · exact h2 c (List.mem_filter.mpr ⟨hc, hi⟩)
  · simpa [hi] using h
set_option maxRecDepth 65536 in
theorem w_c0 : (Jvm.Cond.code x code maxLocals ret).before args0 about1 = true := code_word (m := ⟨1, 1⟩) (meth := k1m1) (c := k1c1) (by decide +kernel) rfl rfl rfl (by decide +kernel)
set_option maxRecDepth 65536 in
theorem w_c1 : (Jvm.Cond.code ({ cls := "reenact/trace/IntBits", name := "<init>", desc := "()V" } : Jvm.MethodName) prog_149_method_1_code (1 : Nat) (Option.none : Option Jvm.ClassFile.FieldType)).before args0 about1 = true := code_word (m := ⟨2, 0⟩) (meth := k2m0) (c := k2c0) (by decide +kernel) rfl rfl rfl (by decide +kernel)
set_option maxRecDepth 65536 in
theorem w_c2 : (Jvm.Cond.code ({ cls := "java/lang/Object", name := "<init>", desc := "()V" } : Jvm.MethodName) object_method_1_code (1 : Nat) (Option.none : Option Jvm.ClassFile.FieldType)).before args0 about1 = true := code_word (m := ⟨0, 0⟩) (meth := k0m0) (c := k0c0) (by decide +kernel) rfl rfl rfl (by decide +kernel)
set_option maxRecDepth 65536 in
theorem w_c3 : (Jvm.Cond.code ({ cls := "reenact/trace/IntBits", name := "add", desc := "(I)V" } : Jvm.MethodName) prog_149_method_2_code (3 : Nat) (Option.none : Option Jvm.ClassFile.FieldType)).before args0 about1 = true := code_word (m := ⟨2, 1⟩) (meth := k2m1) (c := k2c1) (by decide +kernel) rfl rfl rfl (by decide +kernel)
set_option maxRecDepth 65536 in
theorem w_c4 : (Jvm.Cond.code ({ cls := "reenact/trace/IntBits", name := "contains", desc := "(I)Z" } : Jvm.MethodName) prog_149_method_3_code (3 : Nat) (Option.some Jvm.ClassFile.FieldType.boolean)).before args0 about1 = true := code_word (m := ⟨2, 2⟩) (meth := k2m2) (c := k2c2) (by decide +kernel) rfl rfl rfl (by decide +kernel)
set_option maxRecDepth 65536 in
theorem w_c5 : (Jvm.Cond.code ({ cls := "reenact/trace/IntBits", name := "remove", desc := "(I)V" } : Jvm.MethodName) prog_149_method_4_code (3 : Nat) (Option.none : Option Jvm.ClassFile.FieldType)).before args0 about1 = true := code_word (m := ⟨2, 3⟩) (meth := k2m3) (c := k2c3) (by decide +kernel) rfl rfl rfl (by decide +kernel)
set_option maxRecDepth 65536 in
theorem w_c6 : (Jvm.Cond.code ({ cls := "java/lang/Integer", name := "highestOneBit", desc := "(I)I" } : Jvm.MethodName) jdk_33_method_45_code (1 : Nat) (Option.some Jvm.ClassFile.FieldType.int)).before args0 about1 = true := code_word (m := ⟨8, 0⟩) (meth := k8m0) (c := k8c0) (by decide +kernel) rfl rfl rfl (by decide +kernel)
set_option maxRecDepth 65536 in
theorem w_c7 : (Jvm.Cond.code ({ cls := "java/lang/Integer", name := "numberOfLeadingZeros", desc := "(I)I" } : Jvm.MethodName) jdk_33_method_47_code (2 : Nat) (Option.some Jvm.ClassFile.FieldType.int)).before args0 about1 = true := code_word (m := ⟨8, 1⟩) (meth := k8m1) (c := k8c1) (by decide +kernel) rfl rfl rfl (by decide +kernel)
set_option maxRecDepth 65536 in
theorem w_c8 : (Jvm.Cond.code ({ cls := "java/lang/Math", name := "max", desc := "(II)I" } : Jvm.MethodName) jdk_29_method_65_code (2 : Nat) (Option.some Jvm.ClassFile.FieldType.int)).before args0 about1 = true := code_word (m := ⟨9, 1⟩) (meth := k9m1) (c := k9c1) (by decide +kernel) rfl rfl rfl (by decide +kernel)
set_option maxRecDepth 65536 in
theorem w_c9 : (Jvm.Cond.code ({ cls := "reenact/trace/IntBits", name := "moveDown", desc := "(I)V" } : Jvm.MethodName) prog_149_method_5_code (4 : Nat) (Option.none : Option Jvm.ClassFile.FieldType)).before args0 about1 = true := code_word (m := ⟨2, 4⟩) (meth := k2m4) (c := k2c4) (by decide +kernel) rfl rfl rfl (by decide +kernel)
def codes1 : List Jvm.Cond := [Jvm.Cond.code x code maxLocals ret, Jvm.Cond.code ({ cls := "reenact/trace/IntBits", name := "<init>", desc := "()V" } : Jvm.MethodName) prog_149_method_1_code (1 : Nat) (Option.none : Option Jvm.ClassFile.FieldType), Jvm.Cond.code ({ cls := "java/lang/Object", name := "<init>", desc := "()V" } : Jvm.MethodName) object_method_1_code (1 : Nat) (Option.none : Option Jvm.ClassFile.FieldType), Jvm.Cond.code ({ cls := "reenact/trace/IntBits", name := "add", desc := "(I)V" } : Jvm.MethodName) prog_149_method_2_code (3 : Nat) (Option.none : Option Jvm.ClassFile.FieldType), Jvm.Cond.code ({ cls := "reenact/trace/IntBits", name := "contains", desc := "(I)Z" } : Jvm.MethodName) prog_149_method_3_code (3 : Nat) (Option.some Jvm.ClassFile.FieldType.boolean), Jvm.Cond.code ({ cls := "reenact/trace/IntBits", name := "remove", desc := "(I)V" } : Jvm.MethodName) prog_149_method_4_code (3 : Nat) (Option.none : Option Jvm.ClassFile.FieldType), Jvm.Cond.code ({ cls := "java/lang/Integer", name := "highestOneBit", desc := "(I)I" } : Jvm.MethodName) jdk_33_method_45_code (1 : Nat) (Option.some Jvm.ClassFile.FieldType.int), Jvm.Cond.code ({ cls := "java/lang/Integer", name := "numberOfLeadingZeros", desc := "(I)I" } : Jvm.MethodName) jdk_33_method_47_code (2 : Nat) (Option.some Jvm.ClassFile.FieldType.int), Jvm.Cond.code ({ cls := "java/lang/Math", name := "max", desc := "(II)I" } : Jvm.MethodName) jdk_29_method_65_code (2 : Nat) (Option.some Jvm.ClassFile.FieldType.int), Jvm.Cond.code ({ cls := "reenact/trace/IntBits", name := "moveDown", desc := "(I)V" } : Jvm.MethodName) prog_149_method_5_code (4 : Nat) (Option.none : Option Jvm.ClassFile.FieldType)]
set_option maxRecDepth 65536 in
theorem codes_eq : words1.filter isCode = codes1 := rfl
theorem w_codes : ∀ c ∈ words1.filter isCode, c.before args0 about1 = true := by
  rw [codes_eq]
  intro c hc
  simp only [codes1, List.mem_cons, List.not_mem_nil, or_false] at hc
  rcases hc with rfl | rfl | rfl | rfl | rfl | rfl | rfl | rfl | rfl | rfl
  · exact w_c0
  · exact w_c1
  · exact w_c2
  · exact w_c3
  · exact w_c4
  · exact w_c5
  · exact w_c6
  · exact w_c7
  · exact w_c8
  · exact w_c9
set_option maxRecDepth 65536 in
theorem w_t1 : (words1.take 24).all (fun c => isCode c || c.before args0 about1) = true := by decide +kernel
set_option maxRecDepth 65536 in
theorem w_t2 : ((words1.drop 24).take 24).all (fun c => isCode c || c.before args0 about1) = true := by decide +kernel
set_option maxRecDepth 65536 in
theorem w_t3 : ((words1.drop 24).drop 24).all (fun c => isCode c || c.before args0 about1) = true := by decide +kernel
theorem w_tables : (allAtoms (Jvm.Cond.code x code maxLocals ret :: tables_1)).before args0 about1 = true := by
  rw [allAtoms_all]
  show words1.all (fun c => c.before args0 about1) = true
  refine all_split ?_ w_codes
  rw [← List.take_append_drop 24 words1, List.all_append, w_t1, ← List.take_append_drop 24 (words1.drop 24), List.all_append, w_t2, w_t3]
  rfl
set_option maxRecDepth 65536 in
theorem w_case : (Jvm.Cond.and given_1 narrow_1).before args0 about1 = true := by decide +kernel
theorem w_applies : (headSpec (Jvm.Cond.code x code maxLocals ret :: tables_1) room_1).applies x e0.platform about1 = true :=
  (Spec.applies_iff w_frames).mpr ⟨w_running, w_runnable, w_alone, w_named, w_hears, w_ripe, w_room, w_tables⟩
theorem atStart : AtStart classFile x code maxLocals ret World_1 tables_1 room_1 Calls_1 rest_1 Pre_1 launch0 p0 e0 about1 theMethod args0 below0 :=
  ⟨lists_1, trivial, launch0.admits_env _ _ _, launch0.least_env, fairChoices_fair.cas, fairChoices_fair.clock, w_frames, w_args, w_heap, w_applies, trivial, trivial, w_case⟩
end start1
theorem witness_1 : WitnessClaimed_1 := ⟨start1.p0, start1.e0, start1.about1, start1.theMethod, start1.args0, start1.below0, start1.atStart⟩
end Jvm.Pilot.@@N@@
