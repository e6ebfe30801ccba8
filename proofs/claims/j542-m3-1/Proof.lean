import JvmDerived
import JvmDerived.Pilot.@@N@@Statement
import JvmDerived.Pilot.@@N@@Code
set_option linter.unusedVariables false
set_option linter.unusedSimpArgs false
namespace Jvm.RoadKit
open Sem ClassFile Op Lib Jvm.Stand Jvm.Free Jvm.LawKit
section New
variable {p : Program} {l : Launch} {e : Env} {R : Room} {s : State} {m : MethodId} {args : Array Value} {below : List Frame} {meth : Method} {c : Code} {T : State} {locs : List Loc} {cells slots : Nat}
theorem retI (X : Stand p l e R s m args below meth c T locs cells slots) (hx : p.tables.exec = Jvm.exec) {pc : Nat} {Ls : Array Slot} {z : Int32} {rest : List Value} (hret : meth.sig.returnType = some .int) (hd : decode c.code pc = .ok (.ireturn, 1)) {fs : List Frame}
    (hl : ∀ (f : JFrame) (acts : List Action), f.method = m → f.locked = none → f.entered = [] → (doReturn e (T.setTop f) acts (some (.int z))).1 = T.setFrames fs) : Steps p.tables e below (T.setTop (mkF m pc Ls (.int z :: rest))) (T.setFrames fs) := by
  have hm' : T.vm.method? m = some meth := X.method'
  have hn : narrow .int (.int z) = .int z := rfl
  show Steps p.tables e below (T.setTop { method := m, pc := pc, locals := Ls, stack := _ :: rest, locked := none }) _
  jvm_step X.here [X.here.top, hx, hd, hm', hret, hn]
  first | (intro acts; rw [hl _ acts rfl rfl rfl]) | rw [hl _ _ rfl rfl rfl]
  exact Steps.refl _
end New
end Jvm.RoadKit
namespace Jvm.Pilot.@@N@@
open Jvm Jvm.ClassFile Sem Op Lib Jvm.Free Jvm.Stand Jvm.LawKit Jvm.RoadKit Bundle Jvm.Pilot.@@N@@.Jvm.D

theorem wi {Z : State} {a0 : Array Value} (hw : ∀ d ∈ tables_1, d.before a0 Z = true) (i : Nat) {d : Jvm.Cond} (h : tables_1[i]? = some d) : d.before a0 Z = true := hw d (List.mem_of_getElem? h)
section OwnKit
variable {p : Program} {l : Launch} {e : Env} {R : Room} {s : State} {m : MethodId} {args : Array Value} {below : List Frame} {meth : Method} {c : Code} {bs : ByteArray} {st : State} {n0 cells slots : Nat} {P P' : Heap → Prop} {pc pc' : Nat} {L L' : Array Slot} {S S' : List Value} {Z : State} {a0 : Array Value} {own : String}
/-- where a walk stands: some state T reached from st, with what is known of its heap -/
def Sit (p : Program) (l : Launch) (e : Env) (R : Room) (s : State) (m : MethodId) (args : Array Value) (below : List Frame) (meth : Method) (c : Code) (bs : ByteArray) (st : State) (n0 cells slots : Nat) (P : Heap → Prop) (pc : Nat) (L : Array Slot) (S : List Value) : Prop :=
  ∃ (T : State) (locs : List Loc) (k n : Nat), Stand p l e R s m args below meth c T locs k n ∧ k ≤ cells ∧ n ≤ slots ∧ Fr n0 locs ∧ n0 ≤ s.heap.size ∧ P T.heap ∧ p.tables.exec = Jvm.exec ∧ c.code = bs ∧ ∀ t, Steps p.tables e below (T.setTop (mkF m pc L S)) t → Steps p.tables e below st t
theorem Sit.go (h : Sit p l e R s m args below meth c bs st n0 cells slots P pc L S)
    (f : ∀ T locs k n, Stand p l e R s m args below meth c T locs k n → p.tables.exec = Jvm.exec → c.code = bs → P T.heap → ∀ t, Steps p.tables e below (T.setTop (mkF m pc' L' S')) t → Steps p.tables e below (T.setTop (mkF m pc L S)) t) :
    Sit p l e R s m args below meth c bs st n0 cells slots P pc' L' S' := by
  obtain ⟨T, locs, k, n, X, q1, q2, q3, q4, q5, hx, hby, q⟩ := h
  exact ⟨T, locs, k, n, X, q1, q2, q3, q4, q5, hx, hby, fun t z => q t (f T locs k n X hx hby q5 t z)⟩
theorem Sit.mono (h : Sit p l e R s m args below meth c bs st n0 cells slots P pc L S) (f : ∀ hh, P hh → P' hh) : Sit p l e R s m args below meth c bs st n0 cells slots P' pc L S := by
  obtain ⟨T, locs, k, n, X, q1, q2, q3, q4, q5, r⟩ := h
  exact ⟨T, locs, k, n, X, q1, q2, q3, q4, f _ q5, r⟩
theorem Sit.bound {cells' slots' : Nat} (h : Sit p l e R s m args below meth c bs st n0 cells slots P pc L S) (h1 : cells ≤ cells') (h2 : slots ≤ slots') : Sit p l e R s m args below meth c bs st n0 cells' slots' P pc L S := by
  obtain ⟨T, locs, k, n, X, q1, q2, r⟩ := h
  exact ⟨T, locs, k, n, X, Nat.le_trans q1 h1, Nat.le_trans q2 h2, r⟩
theorem Sit.facts (h : Sit p l e R s m args below meth c bs st n0 cells slots P pc L S) : ∃ hh, P hh := by
  obtain ⟨T, locs, k, n, X, q1, q2, q3, q4, q5, r⟩ := h
  exact ⟨_, q5⟩
theorem Sit.ex {α : Type} {Q : α → Heap → Prop} (h : Sit p l e R s m args below meth c bs st n0 cells slots (fun hh => ∃ x, Q x hh) pc L S) : ∃ x, Sit p l e R s m args below meth c bs st n0 cells slots (Q x) pc L S := by
  obtain ⟨T, locs, k, n, X, q1, q2, q3, q4, ⟨x, q5⟩, r⟩ := h
  exact ⟨x, T, locs, k, n, X, q1, q2, q3, q4, q5, r⟩
theorem Sit.size (h : Sit p l e R s m args below meth c bs st n0 cells slots P pc L S) : Sit p l e R s m args below meth c bs st n0 cells slots (fun hh => P hh ∧ n0 ≤ hh.size) pc L S := by
  obtain ⟨T, locs, k, n, X, q1, q2, q3, q4, q5, r⟩ := h
  exact ⟨T, locs, k, n, X, q1, q2, q3, q4, ⟨q5, Nat.le_trans q4 X.same.2.1⟩, r⟩
/-! plain steps -/
theorem Sit.iload {k : Nat} {v : Int32} (h : Sit p l e R s m args below meth c bs st n0 cells slots P pc L S) (hd : decode bs pc = .ok (.iload k, 2)) (hl : L[k]? = some (.val (.int v))) (hp : pc + 2 = pc') : Sit p l e R s m args below meth c bs st n0 cells slots P pc' L (.int v :: S) := by
  subst hp; exact h.go fun T _ _ _ X hx hby _ t z => XS.iload X.here hx rfl (hb hby hd) hl z
theorem Sit.iloadN {k : Fin 4} {v : Int32} (h : Sit p l e R s m args below meth c bs st n0 cells slots P pc L S) (hd : decode bs pc = .ok (.iload_n k, 1)) (hl : L[k.val]? = some (.val (.int v))) (hp : pc + 1 = pc') : Sit p l e R s m args below meth c bs st n0 cells slots P pc' L (.int v :: S) := by
  subst hp; exact h.go fun T _ _ _ X hx hby _ t z => XS.iloadN X.here hx rfl (hb hby hd) hl z
theorem Sit.lload {k : Nat} {v : Int64} (h : Sit p l e R s m args below meth c bs st n0 cells slots P pc L S) (hd : decode bs pc = .ok (.lload k, 2)) (hl : L[k]? = some (.val (.long v))) (hp : pc + 2 = pc') : Sit p l e R s m args below meth c bs st n0 cells slots P pc' L (.long v :: S) := by
  subst hp; exact h.go fun T _ _ _ X hx hby _ t z => XS.lload X.here hx rfl (hb hby hd) hl z
theorem Sit.lloadN {k : Fin 4} {v : Int64} (h : Sit p l e R s m args below meth c bs st n0 cells slots P pc L S) (hd : decode bs pc = .ok (.lload_n k, 1)) (hl : L[k.val]? = some (.val (.long v))) (hp : pc + 1 = pc') : Sit p l e R s m args below meth c bs st n0 cells slots P pc' L (.long v :: S) := by
  subst hp; exact h.go fun T _ _ _ X hx hby _ t z => XS.lloadN X.here hx rfl (hb hby hd) hl z
theorem Sit.aload {k : Nat} {v : Addr} (h : Sit p l e R s m args below meth c bs st n0 cells slots P pc L S) (hd : decode bs pc = .ok (.aload k, 2)) (hl : L[k]? = some (.val (.ref v))) (hp : pc + 2 = pc') : Sit p l e R s m args below meth c bs st n0 cells slots P pc' L (.ref v :: S) := by
  subst hp; exact h.go fun T _ _ _ X hx hby _ t z => XS.aload X.here hx rfl (hb hby hd) hl rfl z
theorem Sit.aloadN {k : Fin 4} {v : Addr} (h : Sit p l e R s m args below meth c bs st n0 cells slots P pc L S) (hd : decode bs pc = .ok (.aload_n k, 1)) (hl : L[k.val]? = some (.val (.ref v))) (hp : pc + 1 = pc') : Sit p l e R s m args below meth c bs st n0 cells slots P pc' L (.ref v :: S) := by
  subst hp; exact h.go fun T _ _ _ X hx hby _ t z => XS.aloadN X.here hx rfl (hb hby hd) hl rfl z
theorem Sit.istore {k : Nat} {v : Int32} (L' : Array Slot) (h : Sit p l e R s m args below meth c bs st n0 cells slots P pc L (.int v :: S)) (hd : decode bs pc = .ok (.istore k, 2)) (hl : storeLocals L k (.int v) = some L') (hp : pc + 2 = pc') : Sit p l e R s m args below meth c bs st n0 cells slots P pc' L' S := by
  subst hp; exact h.go fun T _ _ _ X hx hby _ t z => XS.istore X.here hx rfl (hb hby hd) rfl hl z
theorem Sit.istoreN {k : Fin 4} {v : Int32} (L' : Array Slot) (h : Sit p l e R s m args below meth c bs st n0 cells slots P pc L (.int v :: S)) (hd : decode bs pc = .ok (.istore_n k, 1)) (hl : storeLocals L k.val (.int v) = some L') (hp : pc + 1 = pc') : Sit p l e R s m args below meth c bs st n0 cells slots P pc' L' S := by
  subst hp; exact h.go fun T _ _ _ X hx hby _ t z => XS.istoreN X.here hx rfl (hb hby hd) rfl hl z
theorem Sit.lstore {k : Nat} {v : Int64} (L' : Array Slot) (h : Sit p l e R s m args below meth c bs st n0 cells slots P pc L (.long v :: S)) (hd : decode bs pc = .ok (.lstore k, 2)) (hl : storeLocals L k (.long v) = some L') (hp : pc + 2 = pc') : Sit p l e R s m args below meth c bs st n0 cells slots P pc' L' S := by
  subst hp; exact h.go fun T _ _ _ X hx hby _ t z => XS.lstore X.here hx rfl (hb hby hd) rfl hl z
theorem Sit.lstoreN {k : Fin 4} {v : Int64} (L' : Array Slot) (h : Sit p l e R s m args below meth c bs st n0 cells slots P pc L (.long v :: S)) (hd : decode bs pc = .ok (.lstore_n k, 1)) (hl : storeLocals L k.val (.long v) = some L') (hp : pc + 1 = pc') : Sit p l e R s m args below meth c bs st n0 cells slots P pc' L' S := by
  subst hp; exact h.go fun T _ _ _ X hx hby _ t z => XS.lstoreN X.here hx rfl (hb hby hd) rfl hl z
theorem Sit.astore {k : Nat} {v : Addr} (L' : Array Slot) (h : Sit p l e R s m args below meth c bs st n0 cells slots P pc L (.ref v :: S)) (hd : decode bs pc = .ok (.astore k, 2)) (hl : storeLocals L k (.ref v) = some L') (hp : pc + 2 = pc') : Sit p l e R s m args below meth c bs st n0 cells slots P pc' L' S := by
  subst hp; exact h.go fun T _ _ _ X hx hby _ t z => XS.astore X.here hx rfl (hb hby hd) rfl rfl hl z
theorem Sit.astoreN {k : Fin 4} {v : Addr} (L' : Array Slot) (h : Sit p l e R s m args below meth c bs st n0 cells slots P pc L (.ref v :: S)) (hd : decode bs pc = .ok (.astore_n k, 1)) (hl : storeLocals L k.val (.ref v) = some L') (hp : pc + 1 = pc') : Sit p l e R s m args below meth c bs st n0 cells slots P pc' L' S := by
  subst hp; exact h.go fun T _ _ _ X hx hby _ t z => XS.astoreN X.here hx rfl (hb hby hd) rfl rfl hl z
theorem Sit.iconst {i : Int} (v : Int32) (h : Sit p l e R s m args below meth c bs st n0 cells slots P pc L S) (hd : decode bs pc = .ok (.iconst i, 1)) (hv : Int32.ofInt i = v) (hp : pc + 1 = pc') : Sit p l e R s m args below meth c bs st n0 cells slots P pc' L (.int v :: S) := by
  subst hp hv; exact h.go fun T _ _ _ X hx hby _ t z => XS.iconst X.here hx rfl (hb hby hd) z
theorem Sit.bipush {i : Int} (v : Int32) (h : Sit p l e R s m args below meth c bs st n0 cells slots P pc L S) (hd : decode bs pc = .ok (.bipush i, 2)) (hv : (Int8.ofInt i).toInt32 = v) (hp : pc + 2 = pc') : Sit p l e R s m args below meth c bs st n0 cells slots P pc' L (.int v :: S) := by
  subst hp hv; exact h.go fun T _ _ _ X hx hby _ t z => XS.bipush X.here hx rfl (hb hby hd) z
theorem Sit.sipush {i : Int} (v : Int32) (h : Sit p l e R s m args below meth c bs st n0 cells slots P pc L S) (hd : decode bs pc = .ok (.sipush i, 3)) (hv : (Int16.ofInt i).toInt32 = v) (hp : pc + 3 = pc') : Sit p l e R s m args below meth c bs st n0 cells slots P pc' L (.int v :: S) := by
  subst hp hv; exact h.go fun T _ _ _ X hx hby _ t z => XS.sipush X.here hx rfl (hb hby hd) z
theorem Sit.lconst {k : Fin 2} (v : Int64) (h : Sit p l e R s m args below meth c bs st n0 cells slots P pc L S) (hd : decode bs pc = .ok (.lconst k, 1)) (hv : Int64.ofNat k = v) (hp : pc + 1 = pc') : Sit p l e R s m args below meth c bs st n0 cells slots P pc' L (.long v :: S) := by
  subst hp hv; exact h.go fun T _ _ _ X hx hby _ t z => XS.lconst X.here hx rfl (hb hby hd) z
theorem Sit.ldc {index : Nat} {v : Int32} (h : Sit p l e R s m args below meth c bs st n0 cells slots P pc L S) (hZ : Z.Warmed39 s.vm) (hown : s.vm.findClass own = some m.cls) (w : (Cond.constant own index v).before a0 Z = true) (hd : decode bs pc = .ok (.ldc index, 2)) (hp : pc + 2 = pc') : Sit p l e R s m args below meth c bs st n0 cells slots P pc' L (.int v :: S) := by
  subst hp; exact h.go fun T _ _ _ X hx hby _ t z => X.ldcInt hx hown (mvT hZ w) (g := mkF m pc L S) rfl (hb hby hd) t z
theorem Sit.ldcw {index : Nat} {v : Int32} (h : Sit p l e R s m args below meth c bs st n0 cells slots P pc L S) (hZ : Z.Warmed39 s.vm) (hown : s.vm.findClass own = some m.cls) (w : (Cond.constant own index v).before a0 Z = true) (hd : decode bs pc = .ok (.ldc_w index, 3)) (hp : pc + 3 = pc') : Sit p l e R s m args below meth c bs st n0 cells slots P pc' L (.int v :: S) := by
  subst hp; exact h.go fun T _ _ _ X hx hby _ t z => X.ldcwInt hx hown (mvT hZ w) (g := mkF m pc L S) rfl (hb hby hd) t z
theorem Sit.ldc2 {index : Nat} {v : Int64} (h : Sit p l e R s m args below meth c bs st n0 cells slots P pc L S) (hZ : Z.Warmed39 s.vm) (hown : s.vm.findClass own = some m.cls) (w : (Cond.constantLong own index v).before a0 Z = true) (hd : decode bs pc = .ok (.ldc2_w index, 3)) (hp : pc + 3 = pc') : Sit p l e R s m args below meth c bs st n0 cells slots P pc' L (.long v :: S) := by
  subst hp; exact h.go fun T _ _ _ X hx hby _ t z => X.ldc2Long hx hown (mvT hZ w) (g := mkF m pc L S) rfl (hb hby hd) t z
/-! Java's shifts on longs and >>> on ints -/
def ushr32 (x y : Int32) : Int32 := (x.toUInt32 >>> (y &&& 31).toUInt32).toInt32
def shl64 (x : Int64) (y : Int32) : Int64 := x <<< (y &&& 0x3f).toInt64
def ushr64 (x : Int64) (y : Int32) : Int64 := (x.toUInt64 >>> (y &&& 0x3f).toInt64.toUInt64).toInt64
def lcmp3 (x y : Int64) : Int32 := if x > y then 1 else if x = y then 0 else -1
theorem Sit.iadd {x : Int32} {y : Int32} (h : Sit p l e R s m args below meth c bs st n0 cells slots P pc L (.int y :: .int x :: S)) (hd : decode bs pc = .ok (.iadd, 1)) (hp : pc + 1 = pc') : Sit p l e R s m args below meth c bs st n0 cells slots P pc' L (.int (x + y) :: S) := by
  subst hp; exact h.go fun T _ _ _ X hx hby _ t z => XS.iadd X.here hx rfl (hb hby hd) rfl z
theorem Sit.isub {x : Int32} {y : Int32} (h : Sit p l e R s m args below meth c bs st n0 cells slots P pc L (.int y :: .int x :: S)) (hd : decode bs pc = .ok (.isub, 1)) (hp : pc + 1 = pc') : Sit p l e R s m args below meth c bs st n0 cells slots P pc' L (.int (x - y) :: S) := by
  subst hp; exact h.go fun T _ _ _ X hx hby _ t z => XS.isub X.here hx rfl (hb hby hd) rfl z
theorem Sit.imul {x : Int32} {y : Int32} (h : Sit p l e R s m args below meth c bs st n0 cells slots P pc L (.int y :: .int x :: S)) (hd : decode bs pc = .ok (.imul, 1)) (hp : pc + 1 = pc') : Sit p l e R s m args below meth c bs st n0 cells slots P pc' L (.int (x * y) :: S) := by
  subst hp; exact h.go fun T _ _ _ X hx hby _ t z => XS.imul X.here hx rfl (hb hby hd) rfl z
theorem Sit.iand {x : Int32} {y : Int32} (h : Sit p l e R s m args below meth c bs st n0 cells slots P pc L (.int y :: .int x :: S)) (hd : decode bs pc = .ok (.iand, 1)) (hp : pc + 1 = pc') : Sit p l e R s m args below meth c bs st n0 cells slots P pc' L (.int (x &&& y) :: S) := by
  subst hp; exact h.go fun T _ _ _ X hx hby _ t z => XS.iand X.here hx rfl (hb hby hd) rfl z
theorem Sit.ior {x : Int32} {y : Int32} (h : Sit p l e R s m args below meth c bs st n0 cells slots P pc L (.int y :: .int x :: S)) (hd : decode bs pc = .ok (.ior, 1)) (hp : pc + 1 = pc') : Sit p l e R s m args below meth c bs st n0 cells slots P pc' L (.int (x ||| y) :: S) := by
  subst hp; exact h.go fun T _ _ _ X hx hby _ t z => XS.ior X.here hx rfl (hb hby hd) rfl z
theorem Sit.ixor {x : Int32} {y : Int32} (h : Sit p l e R s m args below meth c bs st n0 cells slots P pc L (.int y :: .int x :: S)) (hd : decode bs pc = .ok (.ixor, 1)) (hp : pc + 1 = pc') : Sit p l e R s m args below meth c bs st n0 cells slots P pc' L (.int (x ^^^ y) :: S) := by
  subst hp; exact h.go fun T _ _ _ X hx hby _ t z => XS.ixor X.here hx rfl (hb hby hd) rfl z
theorem Sit.ishl {x : Int32} {y : Int32} (h : Sit p l e R s m args below meth c bs st n0 cells slots P pc L (.int y :: .int x :: S)) (hd : decode bs pc = .ok (.ishl, 1)) (hp : pc + 1 = pc') : Sit p l e R s m args below meth c bs st n0 cells slots P pc' L (.int (x <<< (y &&& 31)) :: S) := by
  subst hp; exact h.go fun T _ _ _ X hx hby _ t z => XS.ishl X.here hx rfl (hb hby hd) rfl z
theorem Sit.ishr {x : Int32} {y : Int32} (h : Sit p l e R s m args below meth c bs st n0 cells slots P pc L (.int y :: .int x :: S)) (hd : decode bs pc = .ok (.ishr, 1)) (hp : pc + 1 = pc') : Sit p l e R s m args below meth c bs st n0 cells slots P pc' L (.int (x >>> (y &&& 31)) :: S) := by
  subst hp; exact h.go fun T _ _ _ X hx hby _ t z => XS.ishr X.here hx rfl (hb hby hd) rfl z
theorem Sit.iushr {x : Int32} {y : Int32} (h : Sit p l e R s m args below meth c bs st n0 cells slots P pc L (.int y :: .int x :: S)) (hd : decode bs pc = .ok (.iushr, 1)) (hp : pc + 1 = pc') : Sit p l e R s m args below meth c bs st n0 cells slots P pc' L (.int (ushr32 x y) :: S) := by
  subst hp; exact h.go fun T _ _ _ X hx hby _ t z => XS.iushr X.here hx rfl (hb hby hd) rfl z
theorem Sit.ladd {x : Int64} {y : Int64} (h : Sit p l e R s m args below meth c bs st n0 cells slots P pc L (.long y :: .long x :: S)) (hd : decode bs pc = .ok (.ladd, 1)) (hp : pc + 1 = pc') : Sit p l e R s m args below meth c bs st n0 cells slots P pc' L (.long (x + y) :: S) := by
  subst hp; exact h.go fun T _ _ _ X hx hby _ t z => XS.ladd X.here hx rfl (hb hby hd) rfl z
theorem Sit.lsub {x : Int64} {y : Int64} (h : Sit p l e R s m args below meth c bs st n0 cells slots P pc L (.long y :: .long x :: S)) (hd : decode bs pc = .ok (.lsub, 1)) (hp : pc + 1 = pc') : Sit p l e R s m args below meth c bs st n0 cells slots P pc' L (.long (x - y) :: S) := by
  subst hp; exact h.go fun T _ _ _ X hx hby _ t z => XS.lsub X.here hx rfl (hb hby hd) rfl z
theorem Sit.lmul {x : Int64} {y : Int64} (h : Sit p l e R s m args below meth c bs st n0 cells slots P pc L (.long y :: .long x :: S)) (hd : decode bs pc = .ok (.lmul, 1)) (hp : pc + 1 = pc') : Sit p l e R s m args below meth c bs st n0 cells slots P pc' L (.long (x * y) :: S) := by
  subst hp; exact h.go fun T _ _ _ X hx hby _ t z => XS.lmul X.here hx rfl (hb hby hd) rfl z
theorem Sit.land {x : Int64} {y : Int64} (h : Sit p l e R s m args below meth c bs st n0 cells slots P pc L (.long y :: .long x :: S)) (hd : decode bs pc = .ok (.land, 1)) (hp : pc + 1 = pc') : Sit p l e R s m args below meth c bs st n0 cells slots P pc' L (.long (x &&& y) :: S) := by
  subst hp; exact h.go fun T _ _ _ X hx hby _ t z => XS.land X.here hx rfl (hb hby hd) rfl z
theorem Sit.lor {x : Int64} {y : Int64} (h : Sit p l e R s m args below meth c bs st n0 cells slots P pc L (.long y :: .long x :: S)) (hd : decode bs pc = .ok (.lor, 1)) (hp : pc + 1 = pc') : Sit p l e R s m args below meth c bs st n0 cells slots P pc' L (.long (x ||| y) :: S) := by
  subst hp; exact h.go fun T _ _ _ X hx hby _ t z => XS.lor X.here hx rfl (hb hby hd) rfl z
theorem Sit.lxor {x : Int64} {y : Int64} (h : Sit p l e R s m args below meth c bs st n0 cells slots P pc L (.long y :: .long x :: S)) (hd : decode bs pc = .ok (.lxor, 1)) (hp : pc + 1 = pc') : Sit p l e R s m args below meth c bs st n0 cells slots P pc' L (.long (x ^^^ y) :: S) := by
  subst hp; exact h.go fun T _ _ _ X hx hby _ t z => XS.lxor X.here hx rfl (hb hby hd) rfl z
theorem Sit.lshl {x : Int64} {y : Int32} (h : Sit p l e R s m args below meth c bs st n0 cells slots P pc L (.int y :: .long x :: S)) (hd : decode bs pc = .ok (.lshl, 1)) (hp : pc + 1 = pc') : Sit p l e R s m args below meth c bs st n0 cells slots P pc' L (.long (shl64 x y) :: S) := by
  subst hp; exact h.go fun T _ _ _ X hx hby _ t z => XS.lshl X.here hx rfl (hb hby hd) rfl z
theorem Sit.lushr {x : Int64} {y : Int32} (h : Sit p l e R s m args below meth c bs st n0 cells slots P pc L (.int y :: .long x :: S)) (hd : decode bs pc = .ok (.lushr, 1)) (hp : pc + 1 = pc') : Sit p l e R s m args below meth c bs st n0 cells slots P pc' L (.long (ushr64 x y) :: S) := by
  subst hp; exact h.go fun T _ _ _ X hx hby _ t z => XS.lushr X.here hx rfl (hb hby hd) rfl z
theorem Sit.lcmp {x : Int64} {y : Int64} (h : Sit p l e R s m args below meth c bs st n0 cells slots P pc L (.long y :: .long x :: S)) (hd : decode bs pc = .ok (.lcmp, 1)) (hp : pc + 1 = pc') : Sit p l e R s m args below meth c bs st n0 cells slots P pc' L (.int (lcmp3 x y) :: S) := by
  subst hp; exact h.go fun T _ _ _ X hx hby _ t z => XS.lcmp X.here hx rfl (hb hby hd) rfl z
theorem Sit.i2l {x : Int32} (h : Sit p l e R s m args below meth c bs st n0 cells slots P pc L (.int x :: S)) (hd : decode bs pc = .ok (.i2l, 1)) (hp : pc + 1 = pc') : Sit p l e R s m args below meth c bs st n0 cells slots P pc' L (.long (x.toInt64) :: S) := by
  subst hp; exact h.go fun T _ _ _ X hx hby _ t z => XS.i2l X.here hx rfl (hb hby hd) rfl z
theorem Sit.l2i {x : Int64} (h : Sit p l e R s m args below meth c bs st n0 cells slots P pc L (.long x :: S)) (hd : decode bs pc = .ok (.l2i, 1)) (hp : pc + 1 = pc') : Sit p l e R s m args below meth c bs st n0 cells slots P pc' L (.int (x.toInt32) :: S) := by
  subst hp; exact h.go fun T _ _ _ X hx hby _ t z => XS.l2i X.here hx rfl (hb hby hd) rfl z
theorem Sit.i2b {x : Int32} (h : Sit p l e R s m args below meth c bs st n0 cells slots P pc L (.int x :: S)) (hd : decode bs pc = .ok (.i2b, 1)) (hp : pc + 1 = pc') : Sit p l e R s m args below meth c bs st n0 cells slots P pc' L (.int (x.toInt8.toInt32) :: S) := by
  subst hp; exact h.go fun T _ _ _ X hx hby _ t z => XS.i2b X.here hx rfl (hb hby hd) rfl z
theorem Sit.ineg {x : Int32} (h : Sit p l e R s m args below meth c bs st n0 cells slots P pc L (.int x :: S)) (hd : decode bs pc = .ok (.ineg, 1)) (hp : pc + 1 = pc') : Sit p l e R s m args below meth c bs st n0 cells slots P pc' L (.int (-x) :: S) := by
  subst hp; exact h.go fun T _ _ _ X hx hby _ t z => XS.ineg X.here hx rfl (hb hby hd) rfl z
theorem Sit.idiv {x y : Int32} (h : Sit p l e R s m args below meth c bs st n0 cells slots P pc L (.int y :: .int x :: S)) (hd : decode bs pc = .ok (.idiv, 1)) (hy : y ≠ 0) (hp : pc + 1 = pc') : Sit p l e R s m args below meth c bs st n0 cells slots P pc' L (.int (x / y) :: S) := by
  subst hp; exact h.go fun T _ _ _ X hx hby _ t z => XS.idiv X.here hx rfl (hb hby hd) rfl hy z
theorem Sit.irem {x y : Int32} (h : Sit p l e R s m args below meth c bs st n0 cells slots P pc L (.int y :: .int x :: S)) (hd : decode bs pc = .ok (.irem, 1)) (hy : y ≠ 0) (hp : pc + 1 = pc') : Sit p l e R s m args below meth c bs st n0 cells slots P pc' L (.int (x % y) :: S) := by
  subst hp; exact h.go fun T _ _ _ X hx hby _ t z => iremM X hx rfl (hb hby hd) rfl hy z
theorem Sit.lrem {x y : Int64} (h : Sit p l e R s m args below meth c bs st n0 cells slots P pc L (.long y :: .long x :: S)) (hd : decode bs pc = .ok (.lrem, 1)) (hy : y ≠ 0) (hp : pc + 1 = pc') : Sit p l e R s m args below meth c bs st n0 cells slots P pc' L (.long (x % y) :: S) := by
  subst hp; rw [← lrem_mod]; exact h.go fun T _ _ _ X hx hby _ t z => XS.lrem X.here hx rfl (hb hby hd) rfl hy z
theorem Sit.iinc {k : Nat} {i : Int} {x : Int32} (v : Int32) (L' : Array Slot) (h : Sit p l e R s m args below meth c bs st n0 cells slots P pc L S) (hd : decode bs pc = .ok (.iinc k i, 3)) (hl : L[k]? = some (.val (.int x))) (hv : x + Int32.ofInt i = v) (hl' : storeLocals L k (.int v) = some L') (hp : pc + 3 = pc') : Sit p l e R s m args below meth c bs st n0 cells slots P pc' L' S := by
  subst hp hv; exact h.go fun T _ _ _ X hx hby _ t z => XS.iinc X.here hx rfl (hb hby hd) hl hl' z
theorem Sit.dup {x : Value} (h : Sit p l e R s m args below meth c bs st n0 cells slots P pc L (x :: S)) (hd : decode bs pc = .ok (.dup, 1)) (hc : x.category = 1) (hp : pc + 1 = pc') : Sit p l e R s m args below meth c bs st n0 cells slots P pc' L (x :: x :: S) := by
  subst hp; exact h.go fun T _ _ _ X hx hby _ t z => XS.dup X.here hx rfl (hb hby hd) rfl hc z
theorem Sit.dupX1 {x y : Value} (h : Sit p l e R s m args below meth c bs st n0 cells slots P pc L (x :: y :: S)) (hd : decode bs pc = .ok (.dup_x1, 1)) (hc : x.category = 1) (hc' : y.category = 1) (hp : pc + 1 = pc') : Sit p l e R s m args below meth c bs st n0 cells slots P pc' L (x :: y :: x :: S) := by
  subst hp; exact h.go fun T _ _ _ X hx hby _ t z => XS.dupX1 X.here hx rfl (hb hby hd) rfl hc hc' z
theorem Sit.dup2 {x y : Value} (h : Sit p l e R s m args below meth c bs st n0 cells slots P pc L (x :: y :: S)) (hd : decode bs pc = .ok (.dup2, 1)) (hc : x.category = 1) (hc' : y.category = 1) (hp : pc + 1 = pc') : Sit p l e R s m args below meth c bs st n0 cells slots P pc' L (x :: y :: x :: y :: S) := by
  subst hp; exact h.go fun T _ _ _ X hx hby _ t z => Jvm.Free.XT.dup2 X.here hx rfl (hb hby hd) rfl hc hc' z
theorem Sit.pop {x : Value} (h : Sit p l e R s m args below meth c bs st n0 cells slots P pc L (x :: S)) (hd : decode bs pc = .ok (.pop, 1)) (hc : x.category = 1) (hp : pc + 1 = pc') : Sit p l e R s m args below meth c bs st n0 cells slots P pc' L S := by
  subst hp; exact h.go fun T _ _ _ X hx hby _ t z => XS.pop X.here hx rfl (hb hby hd) rfl hc z
theorem Sit.goto {o : Int} (h : Sit p l e R s m args below meth c bs st n0 cells slots P pc L S) (hd : decode bs pc = .ok (.goto o, 3)) (ho : 0 ≤ (pc : Int) + o) (hp : ((pc : Int) + o).toNat = pc') : Sit p l e R s m args below meth c bs st n0 cells slots P pc' L S :=
  h.go fun T _ _ _ X hx hby _ t z => XS.goto X.here hx rfl (pc0 := pc) rfl (hb hby hd) ho hp z
theorem Sit.ifY {cd : ClassFile.Cond} {x : Int32} {o : Int} (h : Sit p l e R s m args below meth c bs st n0 cells slots P pc L (.int x :: S)) (hd : decode bs pc = .ok (.ifCond cd o, 3)) (hc : if_icmp.holds cd x 0 = true) (ho : 0 ≤ (pc : Int) + o) (hp : ((pc : Int) + o).toNat = pc') : Sit p l e R s m args below meth c bs st n0 cells slots P pc' L S :=
  h.go fun T _ _ _ X hx hby _ t z => XS.ifYes X.here hx rfl (pc0 := pc) rfl (hb hby hd) rfl ((if0 _ _).trans hc) ho hp z
theorem Sit.ifN {cd : ClassFile.Cond} {x : Int32} {o : Int} (h : Sit p l e R s m args below meth c bs st n0 cells slots P pc L (.int x :: S)) (hd : decode bs pc = .ok (.ifCond cd o, 3)) (hc : if_icmp.holds cd x 0 = false) (hp : pc + 3 = pc') : Sit p l e R s m args below meth c bs st n0 cells slots P pc' L S := by
  subst hp; exact h.go fun T _ _ _ X hx hby _ t z => XS.ifNo X.here hx rfl (hb hby hd) rfl ((if0 _ _).trans hc) z
theorem Sit.icmpY {cd : ClassFile.Cond} {x y : Int32} {o : Int} (h : Sit p l e R s m args below meth c bs st n0 cells slots P pc L (.int y :: .int x :: S)) (hd : decode bs pc = .ok (.if_icmp cd o, 3)) (hc : if_icmp.holds cd x y = true) (ho : 0 ≤ (pc : Int) + o) (hp : ((pc : Int) + o).toNat = pc') : Sit p l e R s m args below meth c bs st n0 cells slots P pc' L S :=
  h.go fun T _ _ _ X hx hby _ t z => XS.icmpYes X.here hx rfl (pc0 := pc) rfl (hb hby hd) rfl hc ho hp z
theorem Sit.icmpN {cd : ClassFile.Cond} {x y : Int32} {o : Int} (h : Sit p l e R s m args below meth c bs st n0 cells slots P pc L (.int y :: .int x :: S)) (hd : decode bs pc = .ok (.if_icmp cd o, 3)) (hc : if_icmp.holds cd x y = false) (hp : pc + 3 = pc') : Sit p l e R s m args below meth c bs st n0 cells slots P pc' L S := by
  subst hp; exact h.go fun T _ _ _ X hx hby _ t z => XS.icmpNo X.here hx rfl (hb hby hd) rfl hc z
/-! comparisons as facts on whole numbers -/
def cmpP : ClassFile.Cond → Int32 → Int32 → Prop
  | .eq, x, y => x.toInt = y.toInt
  | .ne, x, y => x.toInt ≠ y.toInt
  | .lt, x, y => x.toInt < y.toInt
  | .ge, x, y => y.toInt ≤ x.toInt
  | .gt, x, y => y.toInt < x.toInt
  | .le, x, y => x.toInt ≤ y.toInt
theorem cmpP_holds (cd : ClassFile.Cond) (x y : Int32) : if_icmp.holds cd x y = true ↔ cmpP cd x y := by
  cases cd <;> simp [if_icmp.holds, cmpP, Int32.lt_iff_toInt_lt, Int32.le_iff_toInt_le, Int32.toInt_inj]
theorem cmpT {cd : ClassFile.Cond} {x y : Int32} (h : cmpP cd x y) : if_icmp.holds cd x y = true := (cmpP_holds cd x y).mpr h
theorem cmpF {cd : ClassFile.Cond} {x y : Int32} (h : ¬ cmpP cd x y) : if_icmp.holds cd x y = false := by
  rw [← Bool.not_eq_true, cmpP_holds]; exact h
def cmpZ : ClassFile.Cond → Int32 → Prop
  | .eq, x => x.toInt = 0
  | .ne, x => x.toInt ≠ 0
  | .lt, x => x.toInt < 0
  | .ge, x => 0 ≤ x.toInt
  | .gt, x => 0 < x.toInt
  | .le, x => x.toInt ≤ 0
theorem cmpT0 {cd : ClassFile.Cond} {x : Int32} (h : cmpZ cd x) : if_icmp.holds cd x 0 = true := cmpT (by cases cd <;> exact h)
theorem cmpF0 {cd : ClassFile.Cond} {x : Int32} (h : ¬ cmpZ cd x) : if_icmp.holds cd x 0 = false := cmpF (by cases cd <;> exact h)
def cmpJ : ClassFile.Cond → Int64 → Int64 → Prop
  | .eq, x, y => x = y
  | .ne, x, y => ¬ x = y
  | .lt, x, y => x.toInt < y.toInt
  | .ge, x, y => y.toInt ≤ x.toInt
  | .gt, x, y => y.toInt < x.toInt
  | .le, x, y => x.toInt ≤ y.toInt
theorem lc_iff (cd : ClassFile.Cond) (x y : Int64) : if_icmp.holds cd (lcmp3 x y) 0 = true ↔ cmpJ cd x y := by
  rw [cmpP_holds]
  obtain ⟨h1, h2, h3⟩ := c_lcmp x y
  have e : lcmp3 x y = lcmpW x y := rfl
  rw [e]
  have z : (0 : Int32).toInt = 0 := rfl
  have q : x = y ↔ x.toInt = y.toInt := Int64.toInt_inj.symm
  rcases Int.lt_trichotomy x.toInt y.toInt with h | h | h
  · have := h1 h; cases cd <;> simp only [cmpP, cmpJ, z, q] <;> omega
  · have := h2 h; cases cd <;> simp only [cmpP, cmpJ, z, q] <;> omega
  · have := h3 h; cases cd <;> simp only [cmpP, cmpJ, z, q] <;> omega
theorem lcT {cd : ClassFile.Cond} {x y : Int64} (h : cmpJ cd x y) : if_icmp.holds cd (lcmp3 x y) 0 = true := (lc_iff cd x y).mpr h
theorem lcF {cd : ClassFile.Cond} {x y : Int64} (h : ¬ cmpJ cd x y) : if_icmp.holds cd (lcmp3 x y) 0 = false := by
  rw [← Bool.not_eq_true, lc_iff]; exact h
theorem eqT {x y : Int32} (h : x = y) : if_icmp.holds .eq x y = true := (teq h).1
theorem eqF {x y : Int32} (h : ¬ x = y) : if_icmp.holds .eq x y = false := (feq h).1
theorem neT {x y : Int32} (h : ¬ x = y) : if_icmp.holds .ne x y = true := (feq h).2
theorem neF {x y : Int32} (h : x = y) : if_icmp.holds .ne x y = false := (teq h).2
/-! leaving -/
def Out (p : Program) (e : Env) (below : List Frame) (s st : State) (n0 cells slots : Nat) (Q : Option Value → Heap → Prop) : Prop :=
  ∃ s₂ o, Steps p.tables e below st s₂ ∧ s₂.status = .running ∧ Ended s₂ below o ∧ ∃ v L, o = .returned v ∧ (Fr n0 L ∧ Q v s₂.heap) ∧ FrameEnd s o s₂ L cells slots
theorem Out.mk {T : State} {locs : List Loc} {k n : Nat} {v : Option Value} {Q : Option Value → Heap → Prop} (X : Stand p l e R s m args below meth c T locs k n) (q1 : k ≤ cells) (q2 : n ≤ slots) (q3 : Fr n0 locs) (hQ : Q v T.heap) (hv : meth.sig.returnType = none → v = none) (hlk : meth.locks = false)
    (hst : ∀ fs : List Frame, (∀ (f : JFrame) (acts : List Action), f.method = m → f.locked = none → f.entered = [] → (doReturn e (T.setTop f) acts v).1 = T.setFrames fs) → Steps p.tables e below st (T.setFrames fs)) : Out p e below s st n0 cells slots Q := by
  obtain ⟨fs, hr, hrun, hended, hW, hsame⟩ := X.leave (v := v) hv hlk
  exact ⟨_, _, hst fs hr, hrun, hended, _, _, rfl, ⟨q3, hQ⟩, ⟨_, rfl⟩, hW, hsame.mono q1 q2⟩
theorem Sit.retI {z : Int32} {Q : Option Value → Heap → Prop} (h : Sit p l e R s m args below meth c bs st n0 cells slots P pc L (.int z :: S)) (hd : decode bs pc = .ok (.ireturn, 1)) (hret : meth.sig.returnType = some .int) (hlk : meth.locks = false) (hQ : ∀ hh, P hh → Q (some (.int z)) hh) : Out p e below s st n0 cells slots Q := by
  obtain ⟨T, locs, k, n, X, q1, q2, q3, q4, q5, hx, hby, q⟩ := h
  exact Out.mk X q1 q2 q3 (hQ _ q5) (fun h => by rw [hret] at h; cases h) hlk fun fs hr => q _ (Jvm.RoadKit.retI X hx hret (hb hby hd) hr)
theorem Sit.retZ {z : Int32} {Q : Option Value → Heap → Prop} (h : Sit p l e R s m args below meth c bs st n0 cells slots P pc L (.int z :: S)) (hd : decode bs pc = .ok (.ireturn, 1)) (hret : meth.sig.returnType = some .boolean) (hlk : meth.locks = false) (hQ : ∀ hh, P hh → Q (some (.int (z &&& 1))) hh) : Out p e below s st n0 cells slots Q := by
  obtain ⟨T, locs, k, n, X, q1, q2, q3, q4, q5, hx, hby, q⟩ := h
  exact Out.mk X q1 q2 q3 (hQ _ q5) (fun h => by rw [hret] at h; cases h) hlk fun fs hr => q _ (retN X hx (t := .boolean) hret (by simp) (hb hby hd) hr)
theorem Sit.retJ {z : Int64} {Q : Option Value → Heap → Prop} (h : Sit p l e R s m args below meth c bs st n0 cells slots P pc L [.long z]) (hd : decode bs pc = .ok (.lreturn, 1)) (hret : meth.sig.returnType = some .long) (hlk : meth.locks = false) (hQ : ∀ hh, P hh → Q (some (.long z)) hh) : Out p e below s st n0 cells slots Q := by
  obtain ⟨T, locs, k, n, X, q1, q2, q3, q4, q5, hx, hby, q⟩ := h
  exact Out.mk X q1 q2 q3 (hQ _ q5) (fun h => by rw [hret] at h; cases h) hlk fun fs hr => q _ (X.lreturnOut hx hret (hb hby hd) hr)
theorem Sit.retV {Q : Option Value → Heap → Prop} (h : Sit p l e R s m args below meth c bs st n0 cells slots P pc L []) (hd : decode bs pc = .ok (.return_, 1)) (hret : meth.sig.returnType = none) (hlk : meth.locks = false) (hQ : ∀ hh, P hh → Q none hh) : Out p e below s st n0 cells slots Q := by
  obtain ⟨T, locs, k, n, X, q1, q2, q3, q4, q5, hx, hby, q⟩ := h
  exact Out.mk X q1 q2 q3 (hQ _ q5) (fun _ => rfl) hlk fun fs hr => q _ (X.returnOut hx hret (hb hby hd) hr)
theorem Sit.retA {z : Addr} {t : FieldType} {Q : Option Value → Heap → Prop} (h : Sit p l e R s m args below meth c bs st n0 cells slots P pc L [.ref z]) (hd : decode bs pc = .ok (.areturn, 1)) (hret : meth.sig.returnType = some t) (ht : t.isReference = true) (hlk : meth.locks = false) (hQ : ∀ hh, P hh → Q (some (.ref z)) hh) : Out p e below s st n0 cells slots Q := by
  obtain ⟨T, locs, k, n, X, q1, q2, q3, q4, q5, hx, hby, q⟩ := h
  exact Out.mk X q1 q2 q3 (hQ _ q5) (fun h => by rw [hret] at h; cases h) hlk fun fs hr => q _ (X.areturnOut hx rfl hret ht (hb hby hd) hr)
/-! a method's contract -/
abbrev Met1 (l : Launch) (y : MethodName) (bytes : ByteArray) (maxL : Nat) (ret : Option FieldType) (ws : List Jvm.Cond) (rm : Room) (Z : State) (as : Array Value) (h0 : Heap) (n0 : Nat) (Q : Option Value → Heap → Prop) : Prop :=
  MetFree l y (head1 (Jvm.Cond.code y bytes maxL ret :: ws) rm) (fun a U => a = as ∧ Z.Warmed39 U.vm ∧ U.heap = h0) (fun _ _ _ _ _ => True) (fun _ U o U' => ∃ v L, o = .returned v ∧ (Fr n0 L ∧ Q v U'.heap) ∧ FrameEnd U o U' L rm.cells rm.slots)
theorem Met1.of {y : MethodName} {bytes : ByteArray} {maxL : Nat} {ret : Option FieldType} {ws : List Jvm.Cond} {rm : Room} {as : Array Value} {h0 : Heap} {Q : Option Value → Heap → Prop} {L0 : Array Slot} (hpn : plainFor y = true) (hef : ∀ m, entryFrame m as maxL = mkF m 0 L0 []) (Z0 : n0 ≤ h0.size)
    (body : ∀ p e s m below meth c st, Sit p l e rm s m as below meth c bytes st n0 0 0 (fun h => h = h0) 0 L0 [] → Z.Warmed39 s.vm → s.vm.findClass y.cls = some m.cls → meth.sig.returnType = ret → meth.locks = false → meth.name = y.name → c.maxLocals = maxL → Out p e below s st n0 rm.cells rm.slots Q) : Met1 l y bytes maxL ret ws rm Z as h0 n0 Q := by
  refine MetFree.of_bodySF hpn hisR ?_
  intro p e s m args below meth c s₁ Bd hml0 hP hK
  obtain ⟨rfl, hZ, hh⟩ := hP
  have e0 : s₁.heap = h0 := by rw [← hh, Bd.state]; rfl
  exact body p e s m below meth c _ ⟨s₁, [], 0, 0, Stand.of_body Bd, Nat.le_refl _, Nat.le_refl _, Fr.nil n0, by rw [hh]; exact Z0, e0, Bd.exec, Bd.bytes, fun t k => castTop (hef m) k⟩ hZ (findClass_of_methodNamed Bd.named) Bd.returns Bd.notSynchronized (name_of_methodNamed Bd.named Bd.method).1 hml0
theorem Met1.mono {y : MethodName} {bytes : ByteArray} {maxL : Nat} {ret : Option FieldType} {ws : List Jvm.Cond} {rm : Room} {as : Array Value} {h0 : Heap} {Q Q' : Option Value → Heap → Prop} (h : Met1 l y bytes maxL ret ws rm Z as h0 n0 Q) (f : ∀ v hh, Q v hh → Q' v hh) : Met1 l y bytes maxL ret ws rm Z as h0 n0 Q' := by
  intro p e ha hc hk s m args below hf happ hP hK
  obtain ⟨n, o, h1, h2, h3, v, L, h4, ⟨h5, h6⟩, h7⟩ := h p e ha hc hk s m args below hf happ hP hK
  exact ⟨n, o, h1, h2, h3, v, L, h4, ⟨h5, f _ _ h6⟩, h7⟩
/-! a static call by its contract -/
theorem Sit.callS {index : Nat} {y : MethodName} {bytes : ByteArray} {maxL maxO : Nat} {ret : Option FieldType} {rm : Room} {Q : Option Value → Heap → Prop} {W : Nat} (argsL rest : List Value) (h : Sit p l e R s m args below meth c bs st n0 cells slots P pc L (argsL.reverse ++ rest)) (hZ : Z.Warmed39 s.vm) (hown : s.vm.findClass own = some m.cls)
    (w1 : (Cond.methodLink own index y).before a0 Z = true) (w2 : (Cond.static y).before a0 Z = true) (w3 : (Cond.initialized y.cls).before a0 Z = true) (w4 : (Cond.code y bytes maxL ret).before a0 Z = true) (hy : y.cls ≠ "java/lang/invoke/MethodHandle" ∧ y.cls ≠ "java/lang/invoke/VarHandle")
    (hM : ∀ h0, P h0 → n0 ≤ h0.size → Met1 l y bytes maxL ret [] rm Z argsL.toArray h0 n0 Q) (hml : c.maxLocals = maxO) (hsz : L.size = maxO) (hlen : ∀ sig, parseMethodDescriptor y.desc = some sig → argsL.length = sig.parameters.length) (hd : decode bs pc = .ok (.invokestatic index, 3)) (hW : 2 * 0 + (rest.map fun v => v.category).sum ≤ W)
    (hf : rm.frames + 1 ≤ R.frames) (hl : W + (maxL + 11) + rm.locals ≤ R.locals) (hcl : cells + rm.cells ≤ R.cells) (hsl : slots + rm.slots ≤ R.slots) (hp : pc + 3 = pc') :
    ∃ v : Option Value, Sit p l e R s m args below meth c bs st n0 (cells + rm.cells) (slots + rm.slots) (fun hh => Q v hh) pc' L (v.toList ++ rest) := by
  subst hp
  obtain ⟨T, locs, k, n, X, q1, q2, q3, q4, q5, hx, hby, q⟩ := h
  obtain ⟨v, _, ⟨T2, L2, k2, n2⟩, -, X2, ⟨Lc2, ⟨hN2, hQ2⟩, l2, y2, z2⟩, st2⟩ := Jvm.LawKit.callS X hx (y := y) hown (mvT hZ w1) (mvT hZ w2) (mvT hZ w3) (mvT hZ w4) hy (backOf (W := W) (Q := fun v hh L => Fr n0 L ∧ Q v hh) (hM T.heap q5 (Nat.le_trans q4 X.same.2.1)) hZ w4 w3 hf hl) (g := mkF m pc L (argsL.reverse ++ rest)) rfl (by rw [hml]; exact hsz) (argsL := argsL) (rest := rest) hlen rfl hW (hb hby hd) (fun _ _ => ⟨rfl, rfl, Nat.le_trans (Nat.add_le_add_right q1 _) hcl, Nat.le_trans (Nat.add_le_add_right q2 _) hsl⟩)
  dsimp only [Pt.U, Pt.locs, Pt.cells, Pt.slots] at X2 l2 y2 z2 st2 hQ2
  subst l2 y2 z2
  exact ⟨v, T2, _, _, _, X2, Nat.add_le_add_right q1 _, Nat.add_le_add_right q2 _, Fr.app q3 hN2, q4, hQ2, hx, hby, fun t z => q t (st2 t z)⟩
end OwnKit

section OwnBits
theorem ushr64_bv (x : Int64) (y : Int32) : (ushr64 x y).toBitVec = x.toBitVec >>> (y.toBitVec.toNat % 64) := by
  have h1 : (y &&& 0x3f).toBitVec.toNat = y.toBitVec.toNat % 64 := by
    show (y.toBitVec &&& (0x3f : Int32).toBitVec).toNat = _
    rw [BitVec.toNat_and]
    show y.toBitVec.toNat &&& 63 = _
    exact Nat.and_two_pow_sub_one_eq_mod _ 6
  have h2 : (y &&& 0x3f).toInt64.toBitVec.toNat = y.toBitVec.toNat % 64 := by
    show ((y &&& 0x3f).toBitVec.signExtend 64).toNat = _
    have hm : (y &&& 0x3f).toBitVec.msb = false := by
      rw [BitVec.msb_eq_false_iff_two_mul_lt, h1]; omega
    rw [BitVec.signExtend_eq_setWidth_of_msb_false hm, BitVec.toNat_setWidth, h1]; omega
  show x.toBitVec >>> ((y &&& 0x3f).toInt64.toBitVec % 64) = _
  rw [BitVec.ushiftRight_eq', BitVec.toNat_umod, h2]
  show x.toBitVec >>> (y.toBitVec.toNat % 64 % 64) = _
  rw [Nat.mod_mod]
theorem shl64_bv (x : Int64) (y : Int32) : (shl64 x y).toBitVec = x.toBitVec <<< (y.toBitVec.toNat % 64) := by
  have h1 : (y &&& 0x3f).toBitVec.toNat = y.toBitVec.toNat % 64 := by
    show (y.toBitVec &&& (0x3f : Int32).toBitVec).toNat = _
    rw [BitVec.toNat_and]
    show y.toBitVec.toNat &&& 63 = _
    exact Nat.and_two_pow_sub_one_eq_mod _ 6
  have hm : (y &&& 0x3f).toBitVec.msb = false := by
    rw [BitVec.msb_eq_false_iff_two_mul_lt, h1]; omega
  have h2 : (y &&& 0x3f).toInt64.toBitVec.toNat = y.toBitVec.toNat % 64 := by
    show ((y &&& 0x3f).toBitVec.signExtend 64).toNat = _
    rw [BitVec.signExtend_eq_setWidth_of_msb_false hm, BitVec.toNat_setWidth, h1]; omega
  have h3 : (y &&& 0x3f).toInt64.toBitVec.msb = false := by
    rw [BitVec.msb_eq_false_iff_two_mul_lt, h2]; omega
  have h4 : ((y &&& 0x3f).toInt64.toBitVec.smod 64).toNat = y.toBitVec.toNat % 64 := by
    rw [BitVec.smod_eq, h3]
    show ((y &&& 0x3f).toInt64.toBitVec.umod 64).toNat = _
    rw [BitVec.umod_eq, BitVec.toNat_umod, h2]
    show y.toBitVec.toNat % 64 % 64 = _
    rw [Nat.mod_mod]
  show x.toBitVec <<< ((y &&& 0x3f).toInt64.toBitVec.smod 64) = _
  rw [BitVec.shiftLeft_eq', h4]
theorem ushr32_bv (x y : Int32) : (ushr32 x y).toBitVec = x.toBitVec >>> (y.toBitVec.toNat % 32) := by
  have h1 : (y &&& 31).toBitVec.toNat = y.toBitVec.toNat % 32 := by
    show (y.toBitVec &&& (31 : Int32).toBitVec).toNat = _
    rw [BitVec.toNat_and]
    show y.toBitVec.toNat &&& 31 = _
    exact Nat.and_two_pow_sub_one_eq_mod _ 5
  show x.toBitVec >>> ((y &&& 31).toBitVec % 32) = _
  rw [BitVec.ushiftRight_eq', BitVec.toNat_umod, h1]
  show x.toBitVec >>> (y.toBitVec.toNat % 32 % 32) = _
  rw [Nat.mod_mod]
theorem shl32_bv (x y : Int32) : (x <<< (y &&& 31)).toBitVec = x.toBitVec <<< (y.toBitVec.toNat % 32) := by
  show x.toBitVec <<< ((y &&& 31).toBitVec.smod 32) = _
  rw [BitVec.shiftLeft_eq', sm32 y _ rfl]
end OwnBits

section OwnHeap
variable {p : Program} {l : Launch} {e : Env} {R : Room} {s : State} {m : MethodId} {args : Array Value} {below : List Frame} {meth : Method} {c : Code} {bs : ByteArray} {st : State} {n0 cells slots : Nat} {P P' : Heap → Prop} {pc pc' : Nat} {L L' : Array Slot} {S S' : List Value} {Z : State} {a0 : Array Value} {own : String} {hh hh' : Heap} {a b : Addr} {ty : FieldType} {vs : List Value} {v w : Value} {j : Nat}
/-- an array and its components -/
def AV (Z : State) (h : Heap) (a : Addr) (ty : FieldType) (vs : List Value) : Prop := ∃ cl : Cell, Arr Z h a cl ty ∧ cl.slots.toList = vs
theorem AV.lt (A : AV Z hh a ty vs) : a < hh.size := by obtain ⟨cl, A, -⟩ := A; exact A.lt
theorem AV.ext (A : AV Z hh a ty vs) (E : Ext hh hh') : AV Z hh' a ty vs := by obtain ⟨cl, A, r⟩ := A; exact ⟨cl, A.ext E, r⟩
theorem AV.other (A : AV Z hh a ty vs) (X : Wr hh hh' b j v) (q : a ≠ b) : AV Z hh' a ty vs := by obtain ⟨cl, A, r⟩ := A; exact ⟨cl, A.other X q, r⟩
theorem AV.keep {ws : List Addr} (A : AV Z hh a ty vs) (K : Keep hh hh' ws) (q : a ∉ ws) : AV Z hh' a ty vs := by obtain ⟨cl, A, r⟩ := A; exact ⟨cl, ⟨K.2.1 a cl A.1 q, A.2⟩, r⟩
theorem AV.set (A : AV Z hh a ty vs) (X : Wr hh hh' a j v) : AV Z hh' a ty (vs.set j v) := by
  obtain ⟨cl, A, rfl⟩ := A
  exact ⟨_, A.same X, by simp [Cell.setSlot]⟩
theorem AV.new {k : ClassId} {n : Int32} (A : Arr Z hh a (newA k ty n) ty) : AV Z hh a ty (List.replicate n.toNatClampNeg (defaultValue ty)) := ⟨_, A, by simp [newA]⟩
theorem AV.uniq {us : List Value} (A : AV Z hh a ty vs) (B : AV Z hh a ty us) : vs = us := by
  obtain ⟨c1, A, rfl⟩ := A
  obtain ⟨c2, B, rfl⟩ := B
  cases A.1.symm.trans B.1; rfl
theorem clamp_of {x : Int32} {i : Nat} (h : x.toInt = (i : Int)) : x.toNatClampNeg = i := by
  show x.toInt.toNat = i
  omega
theorem nlt0 {x : Int32} (h : 0 ≤ x.toInt) : ¬ x < 0 := by rw [Int32.lt_iff_toInt_lt]; show ¬ x.toInt < 0; omega
theorem AV.inb {cl : Cell} {x : Int32} (hx : 0 ≤ x.toInt) (r : cl.slots.toList = vs) (h : x.toNatClampNeg < vs.length) : ¬ (x < 0 ∨ cl.slots.size ≤ x.toNatClampNeg) := by
  rintro (q | q)
  · exact nlt0 hx q
  · subst r; simp at h; omega
theorem Sit.alen {n : Nat} (v : Int32) (h : Sit p l e R s m args below meth c bs st n0 cells slots P pc L (.ref a :: S)) (hZ : Z.Warmed39 s.vm) (hP : ∀ hh, P hh → ∃ vs, AV Z hh a ty vs ∧ vs.length = n) (hd : decode bs pc = .ok (.arraylength, 1)) (hv : n.toInt32 = v) (hp : pc + 1 = pc') : Sit p l e R s m args below meth c bs st n0 cells slots P pc' L (.int v :: S) := by
  subst hp hv
  refine h.go fun T _ _ _ X hx hby hT t z => ?_
  obtain ⟨vs, ⟨cl, A, r⟩, rfl⟩ := hP _ hT
  refine X.arraylength hx A.1 (State.isArrayOf_alike hZ.alike A.2.1) (g := mkF m pc L (.ref a :: S)) rfl rfl (hb hby hd) t ?_
  have e : cl.slots.size = vs.length := by rw [← r]; simp
  rw [e]; exact z
theorem Sit.iaload {x v : Int32} (h : Sit p l e R s m args below meth c bs st n0 cells slots P pc L (.int x :: .ref a :: S)) (hZ : Z.Warmed39 s.vm) (hx0 : 0 ≤ x.toInt) (hP : ∀ hh, P hh → ∃ vs, AV Z hh a .int vs ∧ vs[x.toNatClampNeg]? = some (.int v)) (hd : decode bs pc = .ok (.iaload, 1)) (hp : pc + 1 = pc') : Sit p l e R s m args below meth c bs st n0 cells slots P pc' L (.int v :: S) := by
  subst hp
  refine h.go fun T _ _ _ X hx hby hT t z => ?_
  obtain ⟨vs, ⟨cl, A, r⟩, q⟩ := hP _ hT
  exact X.iaload hx A.1 (State.isArrayOf_alike hZ.alike A.2.1) A.2.2 (AV.inb hx0 r (List.getElem?_eq_some_iff.mp q).1) (by subst r; simpa using q) (g := mkF m pc L (.int x :: .ref a :: S)) rfl rfl (hb hby hd) t z
theorem Sit.laload {x : Int32} {v : Int64} (h : Sit p l e R s m args below meth c bs st n0 cells slots P pc L (.int x :: .ref a :: S)) (hZ : Z.Warmed39 s.vm) (hx0 : 0 ≤ x.toInt) (hP : ∀ hh, P hh → ∃ vs, AV Z hh a .long vs ∧ vs[x.toNatClampNeg]? = some (.long v)) (hd : decode bs pc = .ok (.laload, 1)) (hp : pc + 1 = pc') : Sit p l e R s m args below meth c bs st n0 cells slots P pc' L (.long v :: S) := by
  subst hp
  refine h.go fun T _ _ _ X hx hby hT t z => ?_
  obtain ⟨vs, ⟨cl, A, r⟩, q⟩ := hP _ hT
  exact X.laload hx A.1 (State.isArrayOf_alike hZ.alike A.2.1) A.2.2 (AV.inb hx0 r (List.getElem?_eq_some_iff.mp q).1) (by subst r; simpa using q) (g := mkF m pc L (.int x :: .ref a :: S)) rfl rfl (hb hby hd) t z
theorem Sit.baload {x v : Int32} (h : Sit p l e R s m args below meth c bs st n0 cells slots P pc L (.int x :: .ref a :: S)) (hZ : Z.Warmed39 s.vm) (hx0 : 0 ≤ x.toInt) (hP : ∀ hh, P hh → ∃ vs, AV Z hh a .byte vs ∧ vs[x.toNatClampNeg]? = some (.int v)) (hd : decode bs pc = .ok (.baload, 1)) (hp : pc + 1 = pc') : Sit p l e R s m args below meth c bs st n0 cells slots P pc' L (.int v :: S) := by
  subst hp
  refine h.go fun T _ _ _ X hx hby hT t z => ?_
  obtain ⟨vs, ⟨cl, A, r⟩, q⟩ := hP _ hT
  exact X.baloadBytes hx A.1 (State.isArrayOf_alike hZ.alike A.2.1) A.2.2 (AV.inb hx0 r (List.getElem?_eq_some_iff.mp q).1) (by subst r; simpa using q) (g := mkF m pc L (.int x :: .ref a :: S)) rfl rfl (hb hby hd) t z
/-- a step that writes one slot of a new cell -/
theorem Sit.wr {sl : Nat} (h : Sit p l e R s m args below meth c bs st n0 cells slots P pc L S) (ha : n0 ≤ a) (hP' : ∀ hh hh', P hh → Wr hh hh' a sl v → P' hh')
    (f : ∀ T locs k n, Stand p l e R s m args below meth c T locs k n → p.tables.exec = Jvm.exec → c.code = bs → P T.heap → ∃ T' h', Stand p l e R s m args below meth c T' (locs ++ [⟨a, sl⟩]) k n ∧ T'.heap = h' ∧ Wr T.heap h' a sl v ∧ ∀ t, Steps p.tables e below (T'.setTop (mkF m pc' L' S')) t → Steps p.tables e below (T.setTop (mkF m pc L S)) t) :
    Sit p l e R s m args below meth c bs st n0 cells slots P' pc' L' S' := by
  obtain ⟨T, locs, k, n, X, q1, q2, q3, q4, q5, hx, hby, q⟩ := h
  obtain ⟨T', h', X', rfl, hW, stp⟩ := f T locs k n X hx hby q5
  exact ⟨T', _, k, n, X', q1, q2, Fr.snoc X' q3 ha, q4, hP' _ _ q5 hW, hx, hby, fun t z => q t (stp t z)⟩
theorem Sit.iastore {x i : Int32} (h : Sit p l e R s m args below meth c bs st n0 cells slots P pc L (.int x :: .int i :: .ref a :: S)) (hZ : Z.Warmed39 s.vm) (ha : n0 ≤ a) (hx0 : 0 ≤ i.toInt) (hP : ∀ hh, P hh → ∃ vs, AV Z hh a .int vs ∧ i.toNatClampNeg < vs.length) (hP' : ∀ hh hh', P hh → Wr hh hh' a i.toNatClampNeg (.int x) → P' hh') (hd : decode bs pc = .ok (.iastore, 1)) (hp : pc + 1 = pc') : Sit p l e R s m args below meth c bs st n0 cells slots P' pc' L S := by
  subst hp
  refine h.wr ha hP' fun T _ _ _ X hx hby hT => ?_
  obtain ⟨vs, ⟨cl, A, r⟩, q⟩ := hP _ hT
  exact stI X hx hZ rfl A (j := i) (AV.inb hx0 r q) (g := mkF m pc L (.int x :: .int i :: .ref a :: S)) rfl rfl (hb hby hd)
theorem Sit.lastore {x : Int64} {i : Int32} (h : Sit p l e R s m args below meth c bs st n0 cells slots P pc L (.long x :: .int i :: .ref a :: S)) (hZ : Z.Warmed39 s.vm) (ha : n0 ≤ a) (hx0 : 0 ≤ i.toInt) (hP : ∀ hh, P hh → ∃ vs, AV Z hh a .long vs ∧ i.toNatClampNeg < vs.length) (hP' : ∀ hh hh', P hh → Wr hh hh' a i.toNatClampNeg (.long x) → P' hh') (hd : decode bs pc = .ok (.lastore, 1)) (hp : pc + 1 = pc') : Sit p l e R s m args below meth c bs st n0 cells slots P' pc' L S := by
  subst hp
  refine h.wr ha hP' fun T _ _ _ X hx hby hT => ?_
  obtain ⟨vs, ⟨cl, A, r⟩, q⟩ := hP _ hT
  exact stJ X hx hZ rfl A (j := i) (AV.inb hx0 r q) (g := mkF m pc L (.long x :: .int i :: .ref a :: S)) rfl rfl (hb hby hd)
theorem Sit.bastore {x i : Int32} (h : Sit p l e R s m args below meth c bs st n0 cells slots P pc L (.int x :: .int i :: .ref a :: S)) (hZ : Z.Warmed39 s.vm) (ha : n0 ≤ a) (hx0 : 0 ≤ i.toInt) (hP : ∀ hh, P hh → ∃ vs, AV Z hh a .byte vs ∧ i.toNatClampNeg < vs.length) (hP' : ∀ hh hh', P hh → Wr hh hh' a i.toNatClampNeg (.int x.toInt8.toInt32) → P' hh') (hd : decode bs pc = .ok (.bastore, 1)) (hp : pc + 1 = pc') : Sit p l e R s m args below meth c bs st n0 cells slots P' pc' L S := by
  subst hp
  refine h.wr ha hP' fun T _ _ _ X hx hby hT => ?_
  obtain ⟨vs, ⟨cl, A, r⟩, q⟩ := hP _ hT
  exact stB X hx hZ rfl A (j := i) (AV.inb hx0 r q) (g := mkF m pc L (.int x :: .int i :: .ref a :: S)) rfl rfl (hb hby hd)
/-- a step that makes one cell -/
theorem Sit.mk1 {d : Nat} {F : Addr → Heap → Heap → Prop} {P' : Addr → Heap → Prop} {S' : Addr → List Value} (h : Sit p l e R s m args below meth c bs st n0 cells slots P pc L S) (hP' : ∀ hh hh' a, P hh → a = hh.size → Ext hh hh' → F a hh hh' → P' a hh')
    (f : ∀ T locs k n, Stand p l e R s m args below meth c T locs k n → k ≤ cells → n ≤ slots → p.tables.exec = Jvm.exec → c.code = bs → P T.heap → ∃ T' h', Stand p l e R s m args below meth c T' locs (k + 1) (n + d) ∧ T'.heap = h' ∧ Ext T.heap h' ∧ F T.heap.size T.heap h' ∧ ∀ t, Steps p.tables e below (T'.setTop (mkF m pc' L' (S' T.heap.size))) t → Steps p.tables e below (T.setTop (mkF m pc L S)) t) :
    ∃ a, n0 ≤ a ∧ Sit p l e R s m args below meth c bs st n0 (cells + 1) (slots + d) (P' a) pc' L' (S' a) := by
  obtain ⟨T, locs, k, n, X, q1, q2, q3, q4, q5, hx, hby, q⟩ := h
  obtain ⟨T', h', X', rfl, hE, hF, stp⟩ := f T locs k n X q1 q2 hx hby q5
  exact ⟨T.heap.size, Nat.le_trans q4 X.same.2.1, T', _, _, _, X', Nat.add_le_add_right q1 _, Nat.add_le_add_right q2 _, q3, q4, hP' _ _ _ q5 rfl hE hF, hx, hby, fun t z => q t (stp t z)⟩
theorem Sit.newarr {n : Int32} {aty : ArrayType} {P' : Addr → Heap → Prop} (cap : Nat) (h : Sit p l e R s m args below meth c bs st n0 cells slots P pc L (.int n :: S)) (hZ : Z.Warmed39 s.vm) (w : (Cond.arrayClass (newarray.typeOf aty)).before a0 Z = true) (hn : 0 ≤ n.toInt) (hcap : n.toNatClampNeg ≤ cap) (hB : cap * 8 ≤ 536870912) (hc : cells + 1 ≤ R.cells) (hl : slots + cap ≤ R.slots)
    (hP' : ∀ hh hh' a, P hh → a = hh.size → Ext hh hh' → AV Z hh' a (newarray.typeOf aty) (List.replicate n.toNatClampNeg (defaultValue (newarray.typeOf aty))) → P' a hh') (hd : decode bs pc = .ok (.newarray aty, 2)) (hp : pc + 2 = pc') : ∃ a, n0 ≤ a ∧ Sit p l e R s m args below meth c bs st n0 (cells + 1) (slots + cap) (P' a) pc' L (.ref a :: S) := by
  subst hp
  refine h.mk1 (F := fun a _ hh' => AV Z hh' a (newarray.typeOf aty) (List.replicate n.toNatClampNeg (defaultValue (newarray.typeOf aty)))) (S' := fun a => .ref a :: S) hP' fun T locs k i X q1 q2 hx hby hT => ?_
  obtain ⟨T', h', cA, X', e', E', A', st'⟩ := newP X hx hZ w rfl (g := mkF m pc L (.int n :: S)) rfl (hb hby hd) rfl (nlt0 hn) hcap hB (Nat.le_trans (Nat.add_le_add_right q1 1) hc) (Nat.le_trans (Nat.add_le_add_right q2 cap) hl)
  exact ⟨T', h', X', e', E', AV.new A', st'⟩
theorem neN {a b : Nat} (h : a ≠ b) : a ≠ b := h
end OwnHeap

section OwnObj
variable {p : Program} {l : Launch} {e : Env} {R : Room} {s : State} {m : MethodId} {args : Array Value} {below : List Frame} {meth : Method} {c : Code} {bs : ByteArray} {st : State} {n0 cells slots : Nat} {P P' : Heap → Prop} {pc pc' : Nat} {L L' : Array Slot} {S S' : List Value} {Z : State} {a0 : Array Value} {own : String} {hh hh' : Heap} {a b : Addr} {ty : FieldType} {vs vd : List Value} {v w : Value} {j : Nat}
theorem Sit.go2 (h : Sit p l e R s m args below meth c bs st n0 cells slots P pc L S)
    (f : ∀ T locs k n, Stand p l e R s m args below meth c T locs k n → p.tables.exec = Jvm.exec → c.code = bs → P T.heap → ∃ T', Stand p l e R s m args below meth c T' locs k n ∧ T'.heap = T.heap ∧ ∀ t, Steps p.tables e below (T'.setTop (mkF m pc' L' S')) t → Steps p.tables e below (T.setTop (mkF m pc L S)) t) :
    Sit p l e R s m args below meth c bs st n0 cells slots P pc' L' S' := by
  obtain ⟨T, locs, k, n, X, q1, q2, q3, q4, q5, hx, hby, q⟩ := h
  obtain ⟨T', X', e', f'⟩ := f T locs k n X hx hby q5
  exact ⟨T', locs, k, n, X', q1, q2, q3, q4, by rw [e']; exact q5, hx, hby, fun t z => q t (f' t z)⟩
theorem Sit.getf {O n d : String} {index : Nat} (v : Value) (h : Sit p l e R s m args below meth c bs st n0 cells slots P pc L (.ref a :: S)) (hZ : Z.Warmed39 s.vm) (hown : s.vm.findClass own = some m.cls) (w : (Cond.fieldLink own index O n d).before a0 Z = true) (hF : ∀ hh, P hh → Fld Z hh a O n d v) (hd : decode bs pc = .ok (.getfield index, 3)) (hp : pc + 3 = pc') : Sit p l e R s m args below meth c bs st n0 cells slots P pc' L (v :: S) := by
  subst hp
  exact h.go2 fun T locs k n X hx hby hT => getF X hx hZ hown (host := "") (Or.inl w) Via.refl rfl (hF _ hT) (g := mkF m pc L (.ref a :: S)) rfl rfl (hb hby hd)
theorem Sit.putf {C O n d : String} {index kk : Nat} {old : Value} (ty : FieldType) (h : Sit p l e R s m args below meth c bs st n0 cells slots P pc L (v :: .ref a :: S)) (hZ : Z.Warmed39 s.vm) (hown : s.vm.findClass own = some m.cls) (w : (Cond.fieldLink own index O n d).before a0 Z = true) (ha : n0 ≤ a) (hF : ∀ hh, P hh → Fld Z hh a O n d old ∧ Exa Z hh a C) (hL : (Cond.lays C O n d).before a0 Z = true ∨ ((Cond.laysFinal C O n d).before a0 Z = true ∧ own = O ∧ meth.name = "<init>")) (wi : (Cond.instantiable C kk).before a0 Z = true)
    (hty : parseFieldDescriptor d = some ty) (hn : narrow ty v = v) (hf : fits ty v = true) (hP' : ∀ hh hh', P hh → Wr hh hh' a (Jvm.RoadKit.slotOf Z O n d) v → P' hh') (hd : decode bs pc = .ok (.putfield index, 3)) (hp : pc + 3 = pc') : Sit p l e R s m args below meth c bs st n0 cells slots P' pc' L S := by
  subst hp
  exact h.wr ha hP' fun T locs k i X hx hby hT => putF X hx hZ hown (host := "") (Or.inl w) Via.refl rfl (hF _ hT).1 (hF _ hT).2 hL wi hty hn hf (g := mkF m pc L (v :: .ref a :: S)) rfl rfl (hb hby hd)
theorem Sit.newo {C : String} {index d : Nat} {P' : Addr → Heap → Prop} (h : Sit p l e R s m args below meth c bs st n0 cells slots P pc L S) (hZ : Z.Warmed39 s.vm) (hown : s.vm.findClass own = some m.cls) (w1 : (Cond.classLink own index C).before a0 Z = true) (w2 : (Cond.instantiable C d).before a0 Z = true) (w3 : (Cond.initialized C).before a0 Z = true) (hc : cells + 1 ≤ R.cells) (hl : slots + d ≤ R.slots)
    (hP' : ∀ hh hh' a, P hh → a = hh.size → Ext hh hh' → (Exa Z hh' a C ∧ ∀ {O nm d : String} {ty : FieldType}, Laid Z a0 C O nm d → parseFieldDescriptor d = some ty → Fld Z hh' a O nm d (defaultValue ty)) → P' a hh') (hd : decode bs pc = .ok (.new index, 3)) (hp : pc + 3 = pc') : ∃ a, n0 ≤ a ∧ Sit p l e R s m args below meth c bs st n0 (cells + 1) (slots + d) (P' a) pc' L (.ref a :: S) := by
  subst hp
  refine h.mk1 (F := fun a _ hh' => Exa Z hh' a C ∧ ∀ {O nm d : String} {ty : FieldType}, Laid Z a0 C O nm d → parseFieldDescriptor d = some ty → Fld Z hh' a O nm d (defaultValue ty)) (S' := fun a => .ref a :: S) hP' fun T locs k i X q1 q2 hx hby hT => ?_
  obtain ⟨T', h', X', e', E', A', D', -, st'⟩ := newO X hx hZ hown w1 w2 w3 rfl (g := mkF m pc L S) rfl (hb hby hd) (Nat.le_trans (Nat.add_le_add_right q1 1) hc) (Nat.le_trans (Nat.add_le_add_right q2 d) hl)
  exact ⟨T', h', X', e', E', ⟨A', D'⟩, st'⟩
theorem Sit.initO {index maxO : Nat} {W : Nat} (h : Sit p l e R s m args below meth c bs st n0 cells slots P pc L (.ref a :: S)) (hZ : Z.Warmed39 s.vm) (hown : s.vm.findClass own = some m.cls) (w1 : (Cond.methodLink own index Lib.objectInit).before a0 Z = true) (w2 : (Cond.instanceMethod Lib.objectInit).before a0 Z = true) (w3 : (Cond.code Lib.objectInit object_method_1_code 1 none).before a0 Z = true) (hml : c.maxLocals = maxO) (hsz : L.size = maxO) (hd : decode bs pc = .ok (.invokespecial index, 3))
    (hW : 2 * 0 + (S.map fun v => v.category).sum ≤ W) (hf : 1 ≤ R.frames) (hl : W + 12 ≤ R.locals) (hp : pc + 3 = pc') : Sit p l e R s m args below meth c bs st n0 cells slots P pc' L S := by
  subst hp
  exact h.go2 fun T locs k n X hx hby hT => Jvm.RoadKit.initO X hx hZ hown w1 w2 w3 rfl (g := mkF m pc L (.ref a :: S)) rfl (by rw [hml]; exact hsz) rfl (hb hby hd) hf (W := W) hW hl
/-- a virtual call by the contract of the body that is selected -/
theorem Sit.callV {C : String} {index : Nat} {y : MethodName} {bytes : ByteArray} {maxL maxO : Nat} {ret : Option FieldType} {rm : Room} {Q : Option Value → Heap → Prop} {W : Nat} (argsL rest : List Value) (h : Sit p l e R s m args below meth c bs st n0 cells slots P pc L (argsL.reverse ++ .ref a :: rest)) (hZ : Z.Warmed39 s.vm) (hown : s.vm.findClass own = some m.cls)
    (w1 : (Cond.methodLink own index y).before a0 Z = true) (w2 : (Cond.declares y).before a0 Z = true) (w3 : (Cond.selects C y y).before a0 Z = true) (w4 : (Cond.instanceMethod y).before a0 Z = true) (w5 : (Cond.code y bytes maxL ret).before a0 Z = true) (w6 : (Cond.initialized y.cls).before a0 Z = true) (hy : y.cls ≠ "java/lang/invoke/MethodHandle" ∧ y.cls ≠ "java/lang/invoke/VarHandle") (hE : ∀ hh, P hh → Exa Z hh a C)
    (hM : ∀ h0, P h0 → n0 ≤ h0.size → Met1 l y bytes maxL ret [] rm Z (.ref a :: argsL).toArray h0 n0 Q) (hml : c.maxLocals = maxO) (hsz : L.size = maxO) (hlen : ∀ sig, parseMethodDescriptor y.desc = some sig → argsL.length = sig.parameters.length) (hd : decode bs pc = .ok (.invokevirtual index, 3)) (hW : 2 * 0 + (rest.map fun v => v.category).sum ≤ W)
    (hf : rm.frames + 1 ≤ R.frames) (hl : W + (maxL + 11) + rm.locals ≤ R.locals) (hcl : cells + rm.cells ≤ R.cells) (hsl : slots + rm.slots ≤ R.slots) (hp : pc + 3 = pc') :
    ∃ v : Option Value, Sit p l e R s m args below meth c bs st n0 (cells + rm.cells) (slots + rm.slots) (fun hh => Q v hh) pc' L (v.toList ++ rest) := by
  subst hp
  obtain ⟨T, locs, k, n, X, q1, q2, q3, q4, q5, hx, hby, q⟩ := h
  obtain ⟨cq, kq, qa, qb, qc⟩ := isOf hZ rfl (hE _ q5)
  obtain ⟨v, _, ⟨T2, L2, k2, n2⟩, -, X2, ⟨Lc2, ⟨hN2, hQ2⟩, l2, y2, z2⟩, st2⟩ := X.virtualBack hx (y := y) (z := y) hown (mvT hZ w1) (mvT hZ w2) (notFace_of_selects (args := #[]) (mvT hZ w3)) (mvT hZ w3) (mvT hZ w4) hy (backOf (W := W) (Q := fun v hh L => Fr n0 L ∧ Q v hh) (hM T.heap q5 (Nat.le_trans q4 X.same.2.1)) hZ w5 w6 hf hl) qa qc (g := mkF m pc L (argsL.reverse ++ .ref a :: rest)) rfl (by rw [hml]; exact hsz) (Steps.refl _) (argsL := argsL) (rest := rest) hlen rfl hW (hb hby hd) (fun _ _ => ⟨rfl, rfl, Nat.le_trans (Nat.add_le_add_right q1 _) hcl, Nat.le_trans (Nat.add_le_add_right q2 _) hsl⟩)
  dsimp only [Pt.U, Pt.locs, Pt.cells, Pt.slots] at X2 l2 y2 z2 st2 hQ2
  subst l2 y2 z2
  exact ⟨v, T2, _, _, _, X2, Nat.add_le_add_right q1 _, Nat.add_le_add_right q2 _, Fr.app q3 hN2, q4, hQ2, hx, hby, fun t z => q t (st2.trans z)⟩
/-- a private method (invokevirtual) by its contract -/
theorem Sit.callP {C : String} {index kk : Nat} {y : MethodName} {bytes : ByteArray} {maxL maxO : Nat} {ret : Option FieldType} {rm : Room} {Q : Option Value → Heap → Prop} {W : Nat} (argsL rest : List Value) (h : Sit p l e R s m args below meth c bs st n0 cells slots P pc L (argsL.reverse ++ .ref a :: rest)) (hZ : Z.Warmed39 s.vm) (hown : s.vm.findClass own = some m.cls)
    (w1 : (Cond.methodLink own index y).before a0 Z = true) (w2 : (Cond.instanceMethod y).before a0 Z = true) (w3 : (Cond.privateMethod y).before a0 Z = true) (w4 : (Cond.instantiable y.cls kk).before a0 Z = true) (w5 : (Cond.code y bytes maxL ret).before a0 Z = true) (w6 : (Cond.initialized y.cls).before a0 Z = true) (hy : y.cls ≠ "java/lang/invoke/MethodHandle" ∧ y.cls ≠ "java/lang/invoke/VarHandle") (hE : ∀ hh, P hh → Exa Z hh a C)
    (hM : ∀ h0, P h0 → n0 ≤ h0.size → Met1 l y bytes maxL ret [] rm Z (.ref a :: argsL).toArray h0 n0 Q) (hml : c.maxLocals = maxO) (hsz : L.size = maxO) (hlen : ∀ sig, parseMethodDescriptor y.desc = some sig → argsL.length = sig.parameters.length) (hd : decode bs pc = .ok (.invokevirtual index, 3)) (hW : 2 * 0 + (rest.map fun v => v.category).sum ≤ W)
    (hf : rm.frames + 1 ≤ R.frames) (hl : W + (maxL + 11) + rm.locals ≤ R.locals) (hcl : cells + rm.cells ≤ R.cells) (hsl : slots + rm.slots ≤ R.slots) (hp : pc + 3 = pc') :
    ∃ v : Option Value, Sit p l e R s m args below meth c bs st n0 (cells + rm.cells) (slots + rm.slots) (fun hh => Q v hh) pc' L (v.toList ++ rest) := by
  subst hp
  obtain ⟨T, locs, k, n, X, q1, q2, q3, q4, q5, hx, hby, q⟩ := h
  have hi : (Cond.instantiable y.cls kk).before args s = true := mvT hZ w4
  obtain ⟨ci, ki, i1, i2, -, i4, -⟩ := Cond.instantiable_spec hi
  have hp : s.PrivateAt y := Cond.privateMethod_at (mvP hZ w3 (args := #[]))
  have hsel : (Cond.selects y.cls y y).before args s = true := Jvm.Stand.selects_self_of_private i1 i2 (by simp at i4; exact i4.1) hp (mvT hZ w2) hy
  obtain ⟨cq, c1, c2⟩ := (hE _ q5).cell
  obtain ⟨v, _, ⟨T2, L2, k2, n2⟩, -, X2, ⟨Lc2, ⟨hN2, hQ2⟩, l2, y2, z2⟩, st2⟩ := X.privateBack hx (y := y) hown (mvT hZ w1) (mvT hZ w2) hsel hp (mvT hZ w5) hy (backOf (W := W) (Q := fun v hh L => Fr n0 L ∧ Q v hh) (hM T.heap q5 (Nat.le_trans q4 X.same.2.1)) hZ w5 w6 hf hl) (g := mkF m pc L (argsL.reverse ++ .ref a :: rest)) rfl (by rw [hml]; exact hsz) (Steps.refl _) (a := a) c1 c2 (argsL := argsL) (rest := rest) hlen rfl hW (hb hby hd) (fun _ _ => ⟨rfl, rfl, Nat.le_trans (Nat.add_le_add_right q1 _) hcl, Nat.le_trans (Nat.add_le_add_right q2 _) hsl⟩)
  dsimp only [Pt.U, Pt.locs, Pt.cells, Pt.slots] at X2 l2 y2 z2 st2 hQ2
  subst l2 y2 z2
  exact ⟨v, T2, _, _, _, X2, Nat.add_le_add_right q1 _, Nat.add_le_add_right q2 _, Fr.app q3 hN2, q4, hQ2, hx, hby, fun t z => q t (st2.trans z)⟩
/-- a constructor by its contract -/
theorem Sit.callI {index : Nat} {y : MethodName} {bytes : ByteArray} {maxL maxO : Nat} {rm : Room} {Q : Option Value → Heap → Prop} {W : Nat} (argsL rest : List Value) (h : Sit p l e R s m args below meth c bs st n0 cells slots P pc L (argsL.reverse ++ .ref a :: rest)) (hy1 : y.name = "<init>") (hZ : Z.Warmed39 s.vm) (hown : s.vm.findClass own = some m.cls)
    (w1 : (Cond.methodLink own index y).before a0 Z = true) (w2 : (Cond.instanceMethod y).before a0 Z = true) (w3 : (Cond.code y bytes maxL none).before a0 Z = true) (w4 : (Cond.initialized y.cls).before a0 Z = true) (hy : y.cls ≠ "java/lang/invoke/MethodHandle" ∧ y.cls ≠ "java/lang/invoke/VarHandle")
    (hM : ∀ h0, P h0 → n0 ≤ h0.size → Met1 l y bytes maxL none [] rm Z (.ref a :: argsL).toArray h0 n0 Q) (hml : c.maxLocals = maxO) (hsz : L.size = maxO) (hlen : ∀ sig, parseMethodDescriptor y.desc = some sig → argsL.length = sig.parameters.length) (hd : decode bs pc = .ok (.invokespecial index, 3)) (hW : 2 * 0 + (rest.map fun v => v.category).sum ≤ W)
    (hf : rm.frames + 1 ≤ R.frames) (hl : W + (maxL + 11) + rm.locals ≤ R.locals) (hcl : cells + rm.cells ≤ R.cells) (hsl : slots + rm.slots ≤ R.slots) (hp : pc + 3 = pc') :
    ∃ v : Option Value, Sit p l e R s m args below meth c bs st n0 (cells + rm.cells) (slots + rm.slots) (fun hh => Q v hh) pc' L (v.toList ++ rest) := by
  subst hp
  obtain ⟨T, locs, k, n, X, q1, q2, q3, q4, q5, hx, hby, q⟩ := h
  obtain ⟨v, _, ⟨T2, L2, k2, n2⟩, -, X2, ⟨Lc2, ⟨hN2, hQ2⟩, l2, y2, z2⟩, st2⟩ := X.specialBack hx (y := y) hy1 hown (mvT hZ w1) (mvT hZ w2) (mvT hZ w3) hy (backOf (W := W) (Q := fun v hh L => Fr n0 L ∧ Q v hh) (hM T.heap q5 (Nat.le_trans q4 X.same.2.1)) hZ w3 w4 hf hl) (g := mkF m pc L (argsL.reverse ++ .ref a :: rest)) rfl (by rw [hml]; exact hsz) (Steps.refl _) (a := a) (argsL := argsL) (rest := rest) hlen rfl hW (hb hby hd) (fun _ _ => ⟨rfl, rfl, Nat.le_trans (Nat.add_le_add_right q1 _) hcl, Nat.le_trans (Nat.add_le_add_right q2 _) hsl⟩)
  dsimp only [Pt.U, Pt.locs, Pt.cells, Pt.slots] at X2 l2 y2 z2 st2 hQ2
  subst l2 y2 z2
  exact ⟨v, T2, _, _, _, X2, Nat.add_le_add_right q1 _, Nat.add_le_add_right q2 _, Fr.app q3 hN2, q4, hQ2, hx, hby, fun t z => q t (st2.trans z)⟩
/-! System.arraycopy between two arrays of one plain kind -/
theorem AV.arv {k : ClassId} {n : Int32} {d : Value} (A : AV Z hh a ty vs) (hn : n.toInt = (vs.length : Int)) (hf : ∀ u ∈ vs, fits ty u = true) : ∃ k, Arv Z hh a k ty n vs d := by
  obtain ⟨cl, A, r⟩ := A
  have e : cl.slots.size = vs.length := by rw [← r]; simp
  have e2 : n.toNatClampNeg = vs.length := clamp_of hn
  refine ⟨cl.cls, cl, A, rfl, by rw [e, e2], nlt0 (by omega), fun i hi => ?_, fun i hi => ?_⟩
  · have hi' : i < vs.length := by omega
    rw [List.getD_eq_getElem?_getD, List.getElem?_eq_getElem hi']
    subst r
    simp
  · have hi' : i < vs.length := by omega
    rw [List.getD_eq_getElem?_getD, List.getElem?_eq_getElem hi']
    exact hf _ (List.getElem_mem hi')
theorem Arv.av {k : ClassId} {n : Int32} {d : Value} (A : Arv Z hh a k ty n vs d) (hn : n.toInt = (vs.length : Int)) : AV Z hh a ty vs := by
  obtain ⟨cl, A, -, e, -, H, -⟩ := A
  have e2 : n.toNatClampNeg = vs.length := clamp_of hn
  refine ⟨cl, A, List.ext_getElem? fun i => ?_⟩
  by_cases hi : i < vs.length
  · have q := H i (by omega)
    rw [List.getD_eq_getElem?_getD, List.getElem?_eq_getElem hi] at q
    rw [List.getElem?_eq_getElem hi]
    simpa using q
  · have hl : cl.slots.toList.length ≤ i := by rw [Array.length_toList, e, e2]; omega
    rw [List.getElem?_eq_none hl, List.getElem?_eq_none (by omega)]
theorem Sit.acopy {index maxO sn dn nn : Nat} {sp dp cn : Int32} {W : Nat} (vs vd : List Value) (hr : refKind ty = false) (h : Sit p l e R s m args below meth c bs st n0 cells slots P pc L (.int cn :: .int dp :: .ref b :: .int sp :: .ref a :: S)) (hZ : Z.Warmed39 s.vm) (hown : s.vm.findClass own = some m.cls)
    (w1 : (Cond.methodLink own index Jvm.Stand.acN).before a0 Z = true) (w2 : (Cond.native Jvm.Stand.acN).before a0 Z = true) (w3 : (Cond.static Jvm.Stand.acN).before a0 Z = true) (w4 : (Cond.initialized "java/lang/System").before a0 Z = true) (hA : ∀ hh, P hh → AV Z hh a ty vs ∧ AV Z hh b ty vd) (hfs : ∀ u ∈ vs, fits ty u = true) (hfd : ∀ u ∈ vd, fits ty u = true) (hls : vs.length < 2147483648) (hld : vd.length < 2147483648)
    (hsp : sp.toInt = (sn : Int)) (hdp : dp.toInt = (dn : Int)) (hcn : cn.toInt = (nn : Int)) (h4 : sn + nn ≤ vs.length) (h5 : dn + nn ≤ vd.length) (hb' : n0 ≤ b) (hP' : ∀ hh hh', P hh → Keep hh hh' [b] → AV Z hh' b ty (vd.take dn ++ (vs.drop sn).take nn ++ vd.drop (dn + nn)) → P' hh')
    (hml : c.maxLocals = maxO) (hsz : L.size = maxO) (hd : decode bs pc = .ok (.invokestatic index, 3)) (hW : 2 * 0 + (S.map fun v => v.category).sum ≤ W) (hf : 1 ≤ R.frames) (hl : W + (nativeFrameWords "java/lang/System" "arraycopy" 5 + 11) ≤ R.locals) (hp : pc + 3 = pc') : Sit p l e R s m args below meth c bs st n0 cells slots P' pc' L S := by
  subst hp
  obtain ⟨T, locs, k, n, X, q1, q2, q3, q4, q5, hx, hby, q⟩ := h
  obtain ⟨A, B⟩ := hA _ q5
  have i1 : (Int32.ofNat vs.length).toInt = (vs.length : Int) := Int32.toInt_ofNat_of_lt hls
  have i2 : (Int32.ofNat vd.length).toInt = (vd.length : Int) := Int32.toInt_ofNat_of_lt hld
  obtain ⟨k1, A1⟩ := A.arv (k := 0) (d := .null) i1 hfs
  obtain ⟨k2, B1⟩ := B.arv (k := 0) (d := .null) i2 hfd
  have c1 := clamp_of hsp
  have c2 := clamp_of hdp
  have c3 := clamp_of hcn
  have c4 := clamp_of i1
  have c5 := clamp_of i2
  have us : (vs.drop sn).take nn = (List.range cn.toNatClampNeg).map fun i => vs.getD (sp.toNatClampNeg + i) .null := by
    rw [c1, c3]
    apply List.ext_getElem?
    intro i
    by_cases hi : i < nn
    · rw [List.getElem?_take_of_lt hi, List.getElem?_drop, List.getElem?_map, List.getElem?_range hi]
      have : sn + i < vs.length := by omega
      simp [List.getD_eq_getElem?_getD, List.getElem?_eq_getElem this]
    · rw [List.getElem?_eq_none (by simp; omega), List.getElem?_eq_none (by simp; omega)]
  obtain ⟨T', h', L', X', e', N', K', B', st'⟩ := cpA X hx hZ hown w1 w2 w3 w4 rfl A1 B1 (us := (vs.drop sn).take nn) (Or.inl ⟨rfl, hr⟩) (sp := sp) (dp := dp) (nn := cn) (nlt0 (by omega)) (nlt0 (by omega)) (nlt0 (by omega)) (by rw [c1, c3, c4]; exact h4) (by rw [c2, c3, c5]; exact h5) us (by rw [c2, c3]; exact h5) q3 hb' (g := mkF m pc L (.int cn :: .int dp :: .ref b :: .int sp :: .ref a :: S)) rfl (by rw [hml]; exact hsz) rfl (hb hby hd) hf (W := W) hW hl
  rw [c2, c3] at B'
  have B2 := Arv.av B' (by rw [i2]; simp; omega)
  exact ⟨T', L', k, n, X', q1, q2, N', q4, by rw [e']; exact hP' _ _ q5 K' B2, hx, hby, fun t z => q t (st' t z)⟩
end OwnObj


section OwnIL
variable {Z : State} {hh hh' : Heap} {o v b : Addr} {xs ys : List Int32} {n0 : Nat} {a0 : Array Value}
def fV (Z : State) (hh : Heap) (o : Addr) (u : Value) : Prop := Fld Z hh o "reenact/trace/IntList" "values" "[I" u
def fS (Z : State) (hh : Heap) (o : Addr) (n : Int32) : Prop := Fld Z hh o "reenact/trace/IntList" "size" "I" (.int n)
def sV (Z : State) : Nat := Jvm.RoadKit.slotOf Z "reenact/trace/IntList" "values" "[I"
def sS (Z : State) : Nat := Jvm.RoadKit.slotOf Z "reenact/trace/IntList" "size" "I"
theorem sVS (hw : ∀ d ∈ tables_1, d.before a0 Z = true) : sV Z ≠ sS Z := Jvm.RoadKit.slot_ne (Or.inl (wi hw 11 rfl)) (Or.inl (wi hw 18 rfl)) (by decide) (t := .array .int) (t' := .int) (by decide) (by decide)
/-- the list: her ints xs, the spare places ys -/
def IL (Z : State) (hh : Heap) (o v : Addr) (xs ys : List Int32) : Prop := Exa Z hh o "reenact/trace/IntList" ∧ fV Z hh o (.ref v) ∧ fS Z hh o (Int32.ofNat xs.length) ∧ AV Z hh v .int ((xs ++ ys).map Value.int) ∧ o ≠ v
theorem fits_ints (zs : List Int32) : ∀ u ∈ zs.map Value.int, fits .int u = true := fun u hu => by
  obtain ⟨x, -, rfl⟩ := List.mem_map.mp hu; rfl
theorem IL.keep0 (I : IL Z hh o v xs ys) (K : Keep hh hh' []) : IL Z hh' o v xs ys := ⟨I.1.keep K, I.2.1.keep K nin0, I.2.2.1.keep K nin0, I.2.2.2.1.keep K nin0, I.2.2.2.2⟩
theorem set_at (xs ys : List Int32) (y x : Int32) : ((xs ++ y :: ys).map Value.int).set xs.length (.int x) = (((xs ++ [x]) ++ ys).map Value.int) := by
  simp
theorem ofNat_succ (n : Nat) : Int32.ofNat n + (1 : Int32) = Int32.ofNat (n + 1) := by
  rw [Int32.ofNat_add]; rfl
/-! wide ints -/
def wide2 (x y : Int32) : Int64 := shl64 x.toInt64 (32 : Int32) ||| (y.toInt64 &&& (4294967295 : Int64))
def hi32 (w : Int64) : Int32 := (ushr64 w (32 : Int32)).toInt32
theorem i2l_bv (x : Int32) : x.toInt64.toBitVec = x.toBitVec.signExtend 64 := rfl
theorem l2i_bv (x : Int64) : x.toInt32.toBitVec = x.toBitVec.signExtend 32 := rfl
theorem m32 : (4294967295 : Int64).toBitVec = (BitVec.allOnes 32).setWidth 64 := by decide
theorem wide2_bit (x y : Int32) (i : Nat) (hi : i < 64) : (wide2 x y).toBitVec.getLsbD i = if i < 32 then y.toBitVec.getLsbD i else x.toBitVec.getLsbD (i - 32) := by
  show ((shl64 x.toInt64 (32 : Int32)).toBitVec ||| (y.toInt64.toBitVec &&& (4294967295 : Int64).toBitVec)).getLsbD i = _
  have e : (32 : Int32).toBitVec.toNat % 64 = 32 := by decide
  rw [shl64_bv, e, m32, i2l_bv, i2l_bv, BitVec.getLsbD_or, BitVec.getLsbD_and, BitVec.getLsbD_shiftLeft, BitVec.getLsbD_setWidth, BitVec.getLsbD_allOnes, BitVec.getLsbD_signExtend, BitVec.getLsbD_signExtend]
  by_cases h : i < 32
  · simp [h, hi]
  · have h1 : i - 32 < 32 := by omega
    have h2 : i - 32 < 64 := by omega
    simp [h, hi, h1, h2]
theorem wide_back (w : Int64) : wide2 (hi32 w) w.toInt32 = w := by
  apply Int64.toBitVec_inj.mp
  apply BitVec.eq_of_getLsbD_eq
  intro i hi
  rw [wide2_bit _ _ _ hi]
  have e : (32 : Int32).toBitVec.toNat % 64 = 32 := by decide
  split
  · rename_i h
    rw [l2i_bv, BitVec.getLsbD_signExtend]; simp [h, hi]
  · rename_i h
    rw [hi32, l2i_bv, ushr64_bv, e, BitVec.getLsbD_signExtend, BitVec.getLsbD_ushiftRight]
    have h1 : i - 32 < 32 := by omega
    have h2 : 32 + (i - 32) = i := by omega
    have h3 : i - 32 < 64 := by omega
    simp [h1, h2, h3]
theorem wide_hi (x y : Int32) : (ushr64 (wide2 x y) (32 : Int32)).toInt32 = x := by
  apply Int32.toBitVec_inj.mp
  apply BitVec.eq_of_getLsbD_eq
  intro i hi
  have e : (32 : Int32).toBitVec.toNat % 64 = 32 := by decide
  rw [l2i_bv, ushr64_bv, e, BitVec.getLsbD_signExtend, BitVec.getLsbD_ushiftRight, wide2_bit _ _ _ (by omega)]
  have h : ¬ 32 + i < 32 := by omega
  have h2 : 32 + i - 32 = i := by omega
  have h3 : i < 64 := by omega
  simp [hi, h, h2, h3]
theorem wide_lo (x y : Int32) : (wide2 x y).toInt32 = y := by
  apply Int32.toBitVec_inj.mp
  apply BitVec.eq_of_getLsbD_eq
  intro i hi
  rw [l2i_bv, BitVec.getLsbD_signExtend, wide2_bit _ _ _ (by omega)]
  have h3 : i < 64 := by omega
  simp [hi, h3]
theorem and7 (x : Int32) : (x &&& (7 : Int32)) = 0 ∨ (x &&& (7 : Int32)) = 1 ∨ (x &&& (7 : Int32)) = 2 ∨ (x &&& (7 : Int32)) = 3 ∨ (x &&& (7 : Int32)) = 4 ∨ (x &&& (7 : Int32)) = 5 ∨ (x &&& (7 : Int32)) = 6 ∨ (x &&& (7 : Int32)) = 7 := by
  have h : (x &&& (7 : Int32)).toInt = x.toInt % 8 := c_mask x 7 3 (by decide) (by decide)
  have z : ∀ n : Int32, (x &&& (7 : Int32)).toInt = n.toInt → (x &&& (7 : Int32)) = n := fun n q => Int32.toInt_inj.mp q
  have h8 : x.toInt % 8 = 0 ∨ x.toInt % 8 = 1 ∨ x.toInt % 8 = 2 ∨ x.toInt % 8 = 3 ∨ x.toInt % 8 = 4 ∨ x.toInt % 8 = 5 ∨ x.toInt % 8 = 6 ∨ x.toInt % 8 = 7 := by omega
  rcases h8 with q | q | q | q | q | q | q | q <;> rw [q] at h
  · exact Or.inl (z 0 h)
  · exact Or.inr (Or.inl (z 1 h))
  · exact Or.inr (Or.inr (Or.inl (z 2 h)))
  · exact Or.inr (Or.inr (Or.inr (Or.inl (z 3 h))))
  · exact Or.inr (Or.inr (Or.inr (Or.inr (Or.inl (z 4 h)))))
  · exact Or.inr (Or.inr (Or.inr (Or.inr (Or.inr (Or.inl (z 5 h))))))
  · exact Or.inr (Or.inr (Or.inr (Or.inr (Or.inr (Or.inr (Or.inl (z 6 h)))))))
  · exact Or.inr (Or.inr (Or.inr (Or.inr (Or.inr (Or.inr (Or.inr (z 7 h)))))))
end OwnIL

theorem pd_0 : parseMethodDescriptor "(II)I" = some ⟨[.int, .int], some .int⟩ := by decide +kernel
theorem pd_1 : parseMethodDescriptor "([II)[I" = some ⟨[(.array .int), .int], some (.array .int)⟩ := by decide +kernel
theorem pd_2 : parseMethodDescriptor "(I)V" = some ⟨[.int], none⟩ := by decide +kernel
theorem pd_3 : parseMethodDescriptor "()V" = some ⟨[], none⟩ := by decide +kernel
theorem pd_4 : parseMethodDescriptor "(J)V" = some ⟨[.long], none⟩ := by decide +kernel
theorem pd_5 : parseMethodDescriptor "(I)J" = some ⟨[.int], some .long⟩ := by decide +kernel
theorem pd_6 : parseMethodDescriptor "()I" = some ⟨[], some .int⟩ := by decide +kernel

theorem d8_0 : decode jdk_29_method_69_code 0 = .ok (.iload_n 0, 1) := by decide +kernel
theorem d8_1 : decode jdk_29_method_69_code 1 = .ok (.iload_n 1, 1) := by decide +kernel
theorem d8_2 : decode jdk_29_method_69_code 2 = .ok (.if_icmp .gt 7, 3) := by decide +kernel
theorem d8_5 : decode jdk_29_method_69_code 5 = .ok (.iload_n 0, 1) := by decide +kernel
theorem d8_6 : decode jdk_29_method_69_code 6 = .ok (.goto 4, 3) := by decide +kernel
theorem d8_9 : decode jdk_29_method_69_code 9 = .ok (.iload_n 1, 1) := by decide +kernel
theorem d8_10 : decode jdk_29_method_69_code 10 = .ok (.ireturn, 1) := by decide +kernel
theorem ef_rmMin (m : MethodId) (a : Int32) (b : Int32) : entryFrame m #[(.int a), (.int b)] 2 = mkF m 0 #[.val (.int a), .val (.int b)] [] := by first | (simp [entryFrame, mkF, argsToLocals, Value.category]; done) | rfl
set_option maxRecDepth 65536 in
set_option maxHeartbeats 40000000 in
theorem rmMin (l : Launch) (Z : State) (a0 : Array Value) (hw : ∀ d ∈ tables_1, d.before a0 Z = true) (wcs : List Jvm.Cond) (a : Int32) (b : Int32)  (h0 : Heap) (n0 : Nat) (Z0 : n0 ≤ h0.size)  : Met1 l (⟨"java/lang/Math", "min", "(II)I"⟩ : MethodName) jdk_29_method_69_code 2 (some .int) wcs ({ frames := 0, cells := 0, slots := 0, locals := 0 } : Room) Z #[(.int a), (.int b)] h0 n0 (fun v hh => v = some (.int (if a.toInt > b.toInt then b else a)) ∧ hh = h0) := by
  refine Met1.of (L0 := #[.val (.int a), .val (.int b)]) (Jvm.Free.JP.mathPlain rfl (by decide)) (fun m => ef_rmMin m a b) Z0 ?_
  intro p e s m below meth c st s0 hZ hown hret hlk hnm hml
  have s1 : Sit p l e _ s m _ below meth c _ st n0 0 0 _ 2 #[.val (.int a), .val (.int b)] [(.int b), (.int a)] := s0
    |>.iloadN d8_0 rfl rfl
    |>.iloadN d8_1 rfl rfl
  by_cases cnd2 : a.toInt > b.toInt
  · have s3 : Sit p l e _ s m _ below meth c _ st n0 0 0 _ 10 #[.val (.int a), .val (.int b)] [(.int b)] := s1
      |>.icmpY d8_2 (cmpT (cd := .gt) cnd2) (by decide) (by decide)
      |>.iloadN d8_9 rfl rfl
    exact s3.retI d8_10 hret hlk (fun hh q => ⟨by rw [if_pos (by assumption)], q⟩)
  · have s4 : Sit p l e _ s m _ below meth c _ st n0 0 0 _ 10 #[.val (.int a), .val (.int b)] [(.int a)] := s1
      |>.icmpN d8_2 (cmpF (cd := .gt) cnd2) rfl
      |>.iloadN d8_5 rfl rfl
      |>.goto d8_6 (by decide) (by decide)
    exact s4.retI d8_10 hret hlk (fun hh q => ⟨by rw [if_neg (by assumption)], q⟩)
theorem pn_rmCopy : plainName "java/util/Arrays" = true := by first | (simp [plainName, overriddenIn]; done) | decide +kernel
theorem d7_0 : decode jdk_65_method_123_code 0 = .ok (.iload_n 1, 1) := by decide +kernel
theorem d7_1 : decode jdk_65_method_123_code 1 = .ok (.aload_n 0, 1) := by decide +kernel
theorem d7_2 : decode jdk_65_method_123_code 2 = .ok (.arraylength, 1) := by decide +kernel
theorem d7_3 : decode jdk_65_method_123_code 3 = .ok (.if_icmp .ne 11, 3) := by decide +kernel
theorem d7_6 : decode jdk_65_method_123_code 6 = .ok (.aload_n 0, 1) := by decide +kernel
theorem d7_7 : decode jdk_65_method_123_code 7 = .ok (.invokevirtual 316, 3) := by decide +kernel
theorem d7_10 : decode jdk_65_method_123_code 10 = .ok (.checkcast 317, 3) := by decide +kernel
theorem d7_13 : decode jdk_65_method_123_code 13 = .ok (.areturn, 1) := by decide +kernel
theorem d7_14 : decode jdk_65_method_123_code 14 = .ok (.iload_n 1, 1) := by decide +kernel
theorem d7_15 : decode jdk_65_method_123_code 15 = .ok (.newarray .int, 2) := by decide +kernel
theorem d7_17 : decode jdk_65_method_123_code 17 = .ok (.astore_n 2, 1) := by decide +kernel
theorem d7_18 : decode jdk_65_method_123_code 18 = .ok (.aload_n 0, 1) := by decide +kernel
theorem d7_19 : decode jdk_65_method_123_code 19 = .ok (.iconst 0, 1) := by decide +kernel
theorem d7_20 : decode jdk_65_method_123_code 20 = .ok (.aload_n 2, 1) := by decide +kernel
theorem d7_21 : decode jdk_65_method_123_code 21 = .ok (.iconst 0, 1) := by decide +kernel
theorem d7_22 : decode jdk_65_method_123_code 22 = .ok (.aload_n 0, 1) := by decide +kernel
theorem d7_23 : decode jdk_65_method_123_code 23 = .ok (.arraylength, 1) := by decide +kernel
theorem d7_24 : decode jdk_65_method_123_code 24 = .ok (.iload_n 1, 1) := by decide +kernel
theorem d7_25 : decode jdk_65_method_123_code 25 = .ok (.invokestatic 304, 3) := by decide +kernel
theorem d7_28 : decode jdk_65_method_123_code 28 = .ok (.invokestatic 150, 3) := by decide +kernel
theorem d7_31 : decode jdk_65_method_123_code 31 = .ok (.aload_n 2, 1) := by decide +kernel
theorem d7_32 : decode jdk_65_method_123_code 32 = .ok (.areturn, 1) := by decide +kernel
theorem ef_rmCopy (m : MethodId) (a : Addr) (n : Int32) : entryFrame m #[(.ref a), (.int n)] 3 = mkF m 0 #[.val (.ref a), .val (.int n), .unset] [] := by first | (simp [entryFrame, mkF, argsToLocals, Value.category]; done) | rfl
set_option maxRecDepth 65536 in
set_option maxHeartbeats 40000000 in
theorem rmCopy (l : Launch) (Z : State) (a0 : Array Value) (hw : ∀ d ∈ tables_1, d.before a0 Z = true) (wcs : List Jvm.Cond) (a : Addr) (n : Int32) (xs : List Int32) (h0 : Heap) (n0 : Nat) (Z0 : n0 ≤ h0.size) (hA : AV Z h0 a .int (xs.map Value.int)) (hx : xs.length = 8) (hn : n.toInt = 16) : Met1 l (⟨"java/util/Arrays", "copyOf", "([II)[I"⟩ : MethodName) jdk_65_method_123_code 3 (some (.array .int)) wcs ({ frames := 1, cells := 1, slots := 16, locals := 60 } : Room) Z #[(.ref a), (.int n)] h0 n0 (fun v hh => ∃ b, v = some (.ref b) ∧ n0 ≤ b ∧ h0.size ≤ b ∧ Keep h0 hh [] ∧ AV Z hh b .int ((xs ++ List.replicate 8 (0 : Int32)).map Value.int)) := by
  refine Met1.of (L0 := #[.val (.ref a), .val (.int n), .unset]) (plainFor_of_name pn_rmCopy) (fun m => ef_rmCopy m a n) Z0 ?_
  intro p e s m below meth c st s0 hZ hown hret hlk hnm hml
  have s1 : Sit p l e _ s m _ below meth c _ st n0 0 0 _ 2 #[.val (.ref a), .val (.int n), .unset] [(.ref a), (.int n)] := s0
    |>.iloadN d7_0 rfl rfl
    |>.aloadN d7_1 rfl rfl
  have s2 : Sit p l e _ s m _ below meth c _ st n0 0 0 _ 3 #[.val (.ref a), .val (.int n), .unset] [(.int (8 : Int32)), (.int n)] := s1
    |>.alen (8 : Int32) hZ (fun hh q => ⟨_, q ▸ hA, by rw [List.length_map]; exact hx⟩) d7_2 rfl rfl
  have s3 : Sit p l e _ s m _ below meth c _ st n0 0 0 _ 15 #[.val (.ref a), .val (.int n), .unset] [(.int n)] := s2
    |>.icmpY d7_3 (neT (show ¬ n = (8 : Int32) from fun h => by rw [h] at hn; exact absurd hn (by decide))) (by decide) (by decide)
    |>.iloadN d7_14 rfl rfl
  obtain ⟨b, g_b, s4⟩ := Sit.newarr (aty := .int) (P' := fun b => fun hh => h0.size ≤ b ∧ Keep h0 hh [] ∧ AV Z hh a .int (xs.map Value.int) ∧ AV Z hh b .int (List.replicate 16 (.int (0 : Int32)))) 16 s3 hZ (wi hw 9 rfl) (by omega) (by rw [clamp_of (i := 16) hn]; exact Nat.le_refl _) (by decide) (by decide) (by decide) (fun hh hh' a' q e E A => by
      subst q e
      refine ⟨Nat.le_refl _, (Keep.refl _ _).ext E, hA.ext E, ?_⟩
      rw [clamp_of (i := 16) hn] at A
      exact A) d7_15 (pc' := 17) rfl
  have s5 : Sit p l e _ s m _ below meth c _ st n0 1 16 _ 17 #[.val (.ref a), .val (.int n), .unset] [(.ref b)] := s4
  have s6 : Sit p l e _ s m _ below meth c _ st n0 1 16 _ 23 #[.val (.ref a), .val (.int n), .val (.ref b)] [(.ref a), (.int (0 : Int32)), (.ref b), (.int (0 : Int32)), (.ref a)] := s5
    |>.astoreN #[.val (.ref a), .val (.int n), .val (.ref b)] d7_17 rfl rfl
    |>.aloadN d7_18 rfl rfl
    |>.iconst (0 : Int32) d7_19 rfl rfl
    |>.aloadN d7_20 rfl rfl
    |>.iconst (0 : Int32) d7_21 rfl rfl
    |>.aloadN d7_22 rfl rfl
  have s7 : Sit p l e _ s m _ below meth c _ st n0 1 16 _ 25 #[.val (.ref a), .val (.int n), .val (.ref b)] [(.int n), (.int (8 : Int32)), (.int (0 : Int32)), (.ref b), (.int (0 : Int32)), (.ref a)] := s6
    |>.alen (8 : Int32) hZ (fun hh q => ⟨_, q.2.2.1, by rw [List.length_map]; exact hx⟩) d7_23 rfl rfl
    |>.iloadN d7_24 rfl rfl
  obtain ⟨r9, s8⟩ := Sit.callS (y := (⟨"java/lang/Math", "min", "(II)I"⟩ : MethodName)) (W := 4) (Q := fun rv_ hh => (rv_ = some (.int (8 : Int32))) ∧ (fun hh => h0.size ≤ b ∧ Keep h0 hh [] ∧ AV Z hh a .int (xs.map Value.int) ∧ AV Z hh b .int (List.replicate 16 (.int (0 : Int32)))) hh) [(.int (8 : Int32)), (.int n)] [(.int (0 : Int32)), (.ref b), (.int (0 : Int32)), (.ref a)] s7 hZ hown (wi hw 40 rfl) (wi hw 41 rfl) (wi hw 42 rfl) (wi hw 43 rfl) (by decide) (fun h1 hP hn => (rmMin l Z a0 hw [] (8 : Int32) n h1 n0 hn).mono fun rv_ hh q => ⟨by rw [q.1, if_neg (by have : (8 : Int32).toInt = 8 := rfl; omega)], q.2 ▸ hP⟩) hml rfl (lenOf pd_0 rfl) d7_25 (Nat.le_of_eq rfl) (by decide) (by decide) (by decide) (by decide) (pc' := 28) rfl
  obtain ⟨_, er9, _⟩ := s8.facts
  subst er9
  have s10 : Sit p l e _ s m _ below meth c _ st n0 1 16 (fun hh => h0.size ≤ b ∧ Keep h0 hh [] ∧ AV Z hh a .int (xs.map Value.int) ∧ AV Z hh b .int (List.replicate 16 (.int (0 : Int32)))) 28 #[.val (.ref a), .val (.int n), .val (.ref b)] [(.int (8 : Int32)), (.int (0 : Int32)), (.ref b), (.int (0 : Int32)), (.ref a)] := s8.mono fun _ q => q.2
  have hb0 : h0.size ≤ b := by obtain ⟨_, q, -⟩ := s10.facts; exact q
  have s11 : Sit p l e _ s m _ below meth c _ st n0 1 16 _ 31 #[.val (.ref a), .val (.int n), .val (.ref b)] [] := Sit.acopy (P' := fun hh => h0.size ≤ b ∧ Keep h0 hh [] ∧ AV Z hh b .int ((xs ++ List.replicate 8 (0 : Int32)).map Value.int)) (ty := .int) (sn := 0) (dn := 0) (nn := 8) (W := 0) (xs.map Value.int) (List.replicate 16 (.int (0 : Int32))) rfl s10 hZ hown (wi hw 44 rfl) (wi hw 47 rfl) (wi hw 45 rfl) (wi hw 46 rfl) (fun hh q => ⟨q.2.2.1, q.2.2.2⟩) (fits_ints xs) (fun u hu => by rw [List.eq_of_mem_replicate hu]; rfl) (by rw [List.length_map, hx]; decide) (by decide) rfl rfl rfl (by rw [List.length_map, hx]; decide) (by decide) (g_b) (fun hh hh' q K A => ⟨q.1, q.2.1.trans K (allS (Or.inr hb0) all0), by
      have e : (List.map Value.int xs).take 8 = xs.map Value.int := List.take_of_length_le (by rw [List.length_map, hx]; decide)
      rw [List.drop_zero, e] at A
      rw [List.map_append]
      exact A⟩) hml rfl d7_28 (Nat.le_of_eq rfl) (by decide) (by decide) rfl
  have s12 : Sit p l e _ s m _ below meth c _ st n0 1 16 _ 32 #[.val (.ref a), .val (.int n), .val (.ref b)] [(.ref b)] := s11
    |>.aloadN d7_31 rfl rfl
  exact s12.retA d7_32 hret rfl hlk (fun hh q => ⟨b, rfl, g_b, q.1, q.2.1, q.2.2⟩)
theorem pn_rmI : plainName "reenact/trace/IntList" = true := by first | (simp [plainName, overriddenIn]; done) | decide +kernel
theorem d1_0 : decode prog_150_method_1_code 0 = .ok (.aload_n 0, 1) := by decide +kernel
theorem d1_1 : decode prog_150_method_1_code 1 = .ok (.invokespecial 1, 3) := by decide +kernel
theorem d1_4 : decode prog_150_method_1_code 4 = .ok (.aload_n 0, 1) := by decide +kernel
theorem d1_5 : decode prog_150_method_1_code 5 = .ok (.bipush 8, 2) := by decide +kernel
theorem d1_7 : decode prog_150_method_1_code 7 = .ok (.newarray .int, 2) := by decide +kernel
theorem d1_9 : decode prog_150_method_1_code 9 = .ok (.putfield 7, 3) := by decide +kernel
theorem d1_12 : decode prog_150_method_1_code 12 = .ok (.return_, 1) := by decide +kernel
theorem ef_rmI (m : MethodId) (o : Addr) : entryFrame m #[(.ref o)] 1 = mkF m 0 #[.val (.ref o)] [] := by first | (simp [entryFrame, mkF, argsToLocals, Value.category]; done) | rfl
set_option maxRecDepth 65536 in
set_option maxHeartbeats 40000000 in
theorem rmI (l : Launch) (Z : State) (a0 : Array Value) (hw : ∀ d ∈ tables_1, d.before a0 Z = true) (wcs : List Jvm.Cond) (o : Addr)  (h0 : Heap) (n0 : Nat) (Z0 : n0 ≤ h0.size) (go : n0 ≤ o) (E : Exa Z h0 o "reenact/trace/IntList") (F1 : fV Z h0 o .null) (F2 : fS Z h0 o 0) : Met1 l (⟨"reenact/trace/IntList", "<init>", "()V"⟩ : MethodName) prog_150_method_1_code 1 none wcs ({ frames := 1, cells := 1, slots := 8, locals := 20 } : Room) Z #[(.ref o)] h0 n0 (fun r hh => r = none ∧ ∃ v, n0 ≤ v ∧ IL Z hh o v [] (List.replicate 8 0)) := by
  refine Met1.of (L0 := #[.val (.ref o)]) (plainFor_of_name pn_rmI) (fun m => ef_rmI m o) Z0 ?_
  intro p e s m below meth c st s0 hZ hown hret hlk hnm hml
  have s1 : Sit p l e _ s m _ below meth c _ st n0 0 0 _ 1 #[.val (.ref o)] [(.ref o)] := s0
    |>.aloadN d1_0 rfl rfl
  have s2 : Sit p l e _ s m _ below meth c _ st n0 0 0 _ 7 #[.val (.ref o)] [(.int (8 : Int32)), (.ref o)] := s1
    |>.initO (W := 0) hZ hown (wi hw 6 rfl) (wi hw 7 rfl) (wi hw 8 rfl) hml rfl d1_1 (Nat.le_of_eq rfl) (by decide) (by decide) rfl
    |>.aloadN d1_4 rfl rfl
    |>.bipush (8 : Int32) d1_5 rfl rfl
  obtain ⟨v, g_v, s3⟩ := Sit.newarr (aty := .int) (P' := fun v => fun hh => Exa Z hh o "reenact/trace/IntList" ∧ fV Z hh o .null ∧ fS Z hh o 0 ∧ AV Z hh v .int ((List.replicate 8 (0 : Int32)).map Value.int) ∧ o ≠ v) 8 s2 hZ (wi hw 9 rfl) (by decide) (by decide) (by decide) (by decide) (by decide) (fun hh hh' a q e X A => by
      subst q e
      exact ⟨E.ext X, F1.ext X, F2.ext X, A, Nat.ne_of_lt E.lt⟩) d1_7 (pc' := 9) rfl
  have s4 : Sit p l e _ s m _ below meth c _ st n0 1 8 _ 9 #[.val (.ref o)] [(.ref v), (.ref o)] := s3
  have s5 : Sit p l e _ s m _ below meth c _ st n0 1 8 _ 12 #[.val (.ref o)] [] := s4
    |>.putf (C := "reenact/trace/IntList") (P' := fun hh => IL Z hh o v [] (List.replicate 8 0)) (.array .int) hZ hown (wi hw 10 rfl) (go) (fun hh q => ⟨q.2.1, q.1⟩) (Or.inl (wi hw 11 rfl)) (wi hw 1 rfl) (by decide) rfl rfl (fun hh hh' q X => ⟨q.1.wr X, q.2.1.same X, q.2.2.1.other X (Or.inr (sVS hw).symm), q.2.2.2.1.other X q.2.2.2.2.symm, q.2.2.2.2⟩) d1_9 rfl
  exact s5.retV d1_12 hret hlk (fun hh q => ⟨rfl, v, g_v, q⟩)
theorem pn_rmAdd : plainName "reenact/trace/IntList" = true := by first | (simp [plainName, overriddenIn]; done) | decide +kernel
theorem d3_0 : decode prog_150_method_2_code 0 = .ok (.aload_n 0, 1) := by decide +kernel
theorem d3_1 : decode prog_150_method_2_code 1 = .ok (.getfield 13, 3) := by decide +kernel
theorem d3_4 : decode prog_150_method_2_code 4 = .ok (.aload_n 0, 1) := by decide +kernel
theorem d3_5 : decode prog_150_method_2_code 5 = .ok (.getfield 7, 3) := by decide +kernel
theorem d3_8 : decode prog_150_method_2_code 8 = .ok (.arraylength, 1) := by decide +kernel
theorem d3_9 : decode prog_150_method_2_code 9 = .ok (.if_icmp .ne 20, 3) := by decide +kernel
theorem d3_12 : decode prog_150_method_2_code 12 = .ok (.aload_n 0, 1) := by decide +kernel
theorem d3_13 : decode prog_150_method_2_code 13 = .ok (.aload_n 0, 1) := by decide +kernel
theorem d3_14 : decode prog_150_method_2_code 14 = .ok (.getfield 7, 3) := by decide +kernel
theorem d3_17 : decode prog_150_method_2_code 17 = .ok (.aload_n 0, 1) := by decide +kernel
theorem d3_18 : decode prog_150_method_2_code 18 = .ok (.getfield 13, 3) := by decide +kernel
theorem d3_21 : decode prog_150_method_2_code 21 = .ok (.iconst 2, 1) := by decide +kernel
theorem d3_22 : decode prog_150_method_2_code 22 = .ok (.imul, 1) := by decide +kernel
theorem d3_23 : decode prog_150_method_2_code 23 = .ok (.invokestatic 17, 3) := by decide +kernel
theorem d3_26 : decode prog_150_method_2_code 26 = .ok (.putfield 7, 3) := by decide +kernel
theorem d3_29 : decode prog_150_method_2_code 29 = .ok (.aload_n 0, 1) := by decide +kernel
theorem d3_30 : decode prog_150_method_2_code 30 = .ok (.getfield 7, 3) := by decide +kernel
theorem d3_33 : decode prog_150_method_2_code 33 = .ok (.aload_n 0, 1) := by decide +kernel
theorem d3_34 : decode prog_150_method_2_code 34 = .ok (.dup, 1) := by decide +kernel
theorem d3_35 : decode prog_150_method_2_code 35 = .ok (.getfield 13, 3) := by decide +kernel
theorem d3_38 : decode prog_150_method_2_code 38 = .ok (.dup_x1, 1) := by decide +kernel
theorem d3_39 : decode prog_150_method_2_code 39 = .ok (.iconst 1, 1) := by decide +kernel
theorem d3_40 : decode prog_150_method_2_code 40 = .ok (.iadd, 1) := by decide +kernel
theorem d3_41 : decode prog_150_method_2_code 41 = .ok (.putfield 13, 3) := by decide +kernel
theorem d3_44 : decode prog_150_method_2_code 44 = .ok (.iload_n 1, 1) := by decide +kernel
theorem d3_45 : decode prog_150_method_2_code 45 = .ok (.iastore, 1) := by decide +kernel
theorem d3_46 : decode prog_150_method_2_code 46 = .ok (.return_, 1) := by decide +kernel
theorem ef_rmAdd (m : MethodId) (o : Addr) (q : Int32) : entryFrame m #[(.ref o), (.int q)] 2 = mkF m 0 #[.val (.ref o), .val (.int q)] [] := by first | (simp [entryFrame, mkF, argsToLocals, Value.category]; done) | rfl
set_option maxRecDepth 65536 in
set_option maxHeartbeats 40000000 in
theorem rmAdd (l : Launch) (Z : State) (a0 : Array Value) (hw : ∀ d ∈ tables_1, d.before a0 Z = true) (wcs : List Jvm.Cond) (o : Addr) (q : Int32) (v : Addr) (xs : List Int32) (y : Int32) (ys : List Int32) (h0 : Heap) (n0 : Nat) (Z0 : n0 ≤ h0.size) (go : n0 ≤ o) (gv : n0 ≤ v) (I : IL Z h0 o v xs (y :: ys)) (hl : xs.length + ys.length < 1000) : Met1 l (⟨"reenact/trace/IntList", "add", "(I)V"⟩ : MethodName) prog_150_method_2_code 2 none wcs ({ frames := 0, cells := 0, slots := 0, locals := 0 } : Room) Z #[(.ref o), (.int q)] h0 n0 (fun r hh => r = none ∧ IL Z hh o v (xs ++ [q]) ys) := by
  refine Met1.of (L0 := #[.val (.ref o), .val (.int q)]) (plainFor_of_name pn_rmAdd) (fun m => ef_rmAdd m o q) Z0 ?_
  intro p e s m below meth c st s0 hZ hown hret hlk hnm hml
  have s1 : Sit p l e _ s m _ below meth c _ st n0 0 0 (fun hh => IL Z hh o v xs (y :: ys)) 0 #[.val (.ref o), .val (.int q)] [] := s0.mono fun hh q => q ▸ I
  have s2 : Sit p l e _ s m _ below meth c _ st n0 0 0 _ 1 #[.val (.ref o), .val (.int q)] [(.ref o)] := s1
    |>.aloadN d3_0 rfl rfl
  have s3 : Sit p l e _ s m _ below meth c _ st n0 0 0 _ 5 #[.val (.ref o), .val (.int q)] [(.ref o), (.int (Int32.ofNat xs.length))] := s2
    |>.getf (.int (Int32.ofNat xs.length)) hZ hown (wi hw 17 rfl) (fun hh q => q.2.2.1) d3_1 rfl
    |>.aloadN d3_4 rfl rfl
  have s4 : Sit p l e _ s m _ below meth c _ st n0 0 0 _ 9 #[.val (.ref o), .val (.int q)] [(.int (Int32.ofNat (xs.length + (ys.length + 1)))), (.int (Int32.ofNat xs.length))] := s3
    |>.getf (.ref v) hZ hown (wi hw 10 rfl) (fun hh q => q.2.1) d3_5 rfl
    |>.alen (n := (xs.length + (ys.length + 1))) (Int32.ofNat (xs.length + (ys.length + 1))) hZ (fun hh q => ⟨_, q.2.2.2.1, by simp⟩) d3_8 rfl rfl
  have hne : ¬ Int32.ofNat xs.length = (Int32.ofNat (xs.length + (ys.length + 1))) := fun h => by
    have h2 := congrArg Int32.toInt h
    rw [Int32.toInt_ofNat_of_lt (by omega), Int32.toInt_ofNat_of_lt (by omega)] at h2
    omega
  have s5 : Sit p l e _ s m _ below meth c _ st n0 0 0 _ 29 #[.val (.ref o), .val (.int q)] [] := s4
    |>.icmpY d3_9 (neT (show ¬ (Int32.ofNat xs.length) = (Int32.ofNat (xs.length + (ys.length + 1))) from hne)) (by decide) (by decide)
  have s6 : Sit p l e _ s m _ below meth c _ st n0 0 0 (fun hh => Exa Z hh o "reenact/trace/IntList" ∧ fV Z hh o (.ref v) ∧ fS Z hh o (Int32.ofNat xs.length) ∧ AV Z hh v .int ((xs ++ y :: ys).map Value.int) ∧ o ≠ v) 29 #[.val (.ref o), .val (.int q)] [] := s5
  have s7 : Sit p l e _ s m _ below meth c _ st n0 0 0 _ 30 #[.val (.ref o), .val (.int q)] [(.ref o)] := s6
    |>.aloadN d3_29 rfl rfl
  have s8 : Sit p l e _ s m _ below meth c _ st n0 0 0 _ 35 #[.val (.ref o), .val (.int q)] [(.ref o), (.ref o), (.ref v)] := s7
    |>.getf (.ref v) hZ hown (wi hw 10 rfl) (fun hh q => q.2.1) d3_30 rfl
    |>.aloadN d3_33 rfl rfl
    |>.dup d3_34 rfl rfl
  have s9 : Sit p l e _ s m _ below meth c _ st n0 0 0 _ 41 #[.val (.ref o), .val (.int q)] [(.int ((Int32.ofNat xs.length) + (1 : Int32))), (.ref o), (.int (Int32.ofNat xs.length)), (.ref v)] := s8
    |>.getf (.int (Int32.ofNat xs.length)) hZ hown (wi hw 17 rfl) (fun hh q => q.2.2.1) d3_35 rfl
    |>.dupX1 d3_38 rfl rfl rfl
    |>.iconst (1 : Int32) d3_39 rfl rfl
    |>.iadd d3_40 rfl
  have s10 : Sit p l e _ s m _ below meth c _ st n0 0 0 _ 44 #[.val (.ref o), .val (.int q)] [(.int (Int32.ofNat xs.length)), (.ref v)] := s9
    |>.putf (C := "reenact/trace/IntList") (P' := fun hh => Exa Z hh o "reenact/trace/IntList" ∧ fV Z hh o (.ref v) ∧ fS Z hh o (Int32.ofNat xs.length + (1 : Int32)) ∧ AV Z hh v .int ((xs ++ y :: ys).map Value.int) ∧ o ≠ v) .int hZ hown (wi hw 17 rfl) (go) (fun hh q => ⟨q.2.2.1, q.1⟩) (Or.inl (wi hw 18 rfl)) (wi hw 1 rfl) (by decide) rfl rfl (fun hh hh' q X => ⟨q.1.wr X, q.2.1.other X (Or.inr (sVS hw)), q.2.2.1.same X, q.2.2.2.1.other X q.2.2.2.2.symm, q.2.2.2.2⟩) d3_41 rfl
  have s11 : Sit p l e _ s m _ below meth c _ st n0 0 0 _ 45 #[.val (.ref o), .val (.int q)] [(.int q), (.int (Int32.ofNat xs.length)), (.ref v)] := s10
    |>.iloadN d3_44 rfl rfl
  have sz : (Int32.ofNat xs.length).toInt = (xs.length : Int) := Int32.toInt_ofNat_of_lt (by omega)
  have s12 : Sit p l e _ s m _ below meth c _ st n0 0 0 _ 46 #[.val (.ref o), .val (.int q)] [] := s11
    |>.iastore (P' := fun hh => IL Z hh o v (xs ++ [q]) ys) hZ (gv) (by omega) (fun hh q => ⟨_, q.2.2.2.1, by rw [clamp_of sz]; simp⟩) (fun hh hh' p X => by
      rw [clamp_of sz] at X
      have A := p.2.2.2.1.set X
      rw [set_at] at A
      refine ⟨p.1.wr X, p.2.1.other X (Or.inl p.2.2.2.2), ?_, A, p.2.2.2.2⟩
      rw [List.length_append, List.length_singleton, ← ofNat_succ]
      exact p.2.2.1.other X (Or.inl p.2.2.2.2)) d3_45 rfl
  exact s12.retV d3_46 hret hlk (fun hh q => ⟨rfl, q⟩)
theorem pn_rmGrow : plainName "reenact/trace/IntList" = true := by first | (simp [plainName, overriddenIn]; done) | decide +kernel
theorem ef_rmGrow (m : MethodId) (o : Addr) (q : Int32) : entryFrame m #[(.ref o), (.int q)] 2 = mkF m 0 #[.val (.ref o), .val (.int q)] [] := by first | (simp [entryFrame, mkF, argsToLocals, Value.category]; done) | rfl
set_option maxRecDepth 65536 in
set_option maxHeartbeats 40000000 in
theorem rmGrow (l : Launch) (Z : State) (a0 : Array Value) (hw : ∀ d ∈ tables_1, d.before a0 Z = true) (wcs : List Jvm.Cond) (o : Addr) (q : Int32) (v : Addr) (xs : List Int32) (h0 : Heap) (n0 : Nat) (Z0 : n0 ≤ h0.size) (go : n0 ≤ o) (gv : n0 ≤ v) (I : IL Z h0 o v xs []) (hl : xs.length = 8) : Met1 l (⟨"reenact/trace/IntList", "add", "(I)V"⟩ : MethodName) prog_150_method_2_code 2 none wcs ({ frames := 2, cells := 1, slots := 16, locals := 100 } : Room) Z #[(.ref o), (.int q)] h0 n0 (fun r hh => r = none ∧ ∃ b, n0 ≤ b ∧ IL Z hh o b (xs ++ [q]) (List.replicate 7 0)) := by
  refine Met1.of (L0 := #[.val (.ref o), .val (.int q)]) (plainFor_of_name pn_rmGrow) (fun m => ef_rmGrow m o q) Z0 ?_
  intro p e s m below meth c st s0 hZ hown hret hlk hnm hml
  have s1 : Sit p l e _ s m _ below meth c _ st n0 0 0 (fun hh => IL Z hh o v xs []) 0 #[.val (.ref o), .val (.int q)] [] := s0.mono fun hh q => q ▸ I
  have s2 : Sit p l e _ s m _ below meth c _ st n0 0 0 _ 1 #[.val (.ref o), .val (.int q)] [(.ref o)] := s1
    |>.aloadN d3_0 rfl rfl
  have s3 : Sit p l e _ s m _ below meth c _ st n0 0 0 _ 5 #[.val (.ref o), .val (.int q)] [(.ref o), (.int (Int32.ofNat xs.length))] := s2
    |>.getf (.int (Int32.ofNat xs.length)) hZ hown (wi hw 17 rfl) (fun hh q => q.2.2.1) d3_1 rfl
    |>.aloadN d3_4 rfl rfl
  have s4 : Sit p l e _ s m _ below meth c _ st n0 0 0 _ 9 #[.val (.ref o), .val (.int q)] [(.int (Int32.ofNat xs.length)), (.int (Int32.ofNat xs.length))] := s3
    |>.getf (.ref v) hZ hown (wi hw 10 rfl) (fun hh q => q.2.1) d3_5 rfl
    |>.alen (n := xs.length) (Int32.ofNat xs.length) hZ (fun hh q => ⟨_, q.2.2.2.1, by simp⟩) d3_8 rfl rfl
  have s5 : Sit p l e _ s m _ below meth c _ st n0 0 0 _ 14 #[.val (.ref o), .val (.int q)] [(.ref o), (.ref o)] := s4
    |>.icmpN d3_9 ((neF (Classical.not_not.mp (show ¬ (¬ (Int32.ofNat xs.length) = (Int32.ofNat xs.length)) from fun h => h rfl)))) rfl
    |>.aloadN d3_12 rfl rfl
    |>.aloadN d3_13 rfl rfl
  have s6 : Sit p l e _ s m _ below meth c _ st n0 0 0 _ 18 #[.val (.ref o), .val (.int q)] [(.ref o), (.ref v), (.ref o)] := s5
    |>.getf (.ref v) hZ hown (wi hw 10 rfl) (fun hh q => q.2.1) d3_14 rfl
    |>.aloadN d3_17 rfl rfl
  have s7 : Sit p l e _ s m _ below meth c _ st n0 0 0 _ 23 #[.val (.ref o), .val (.int q)] [(.int ((Int32.ofNat xs.length) * (2 : Int32))), (.ref v), (.ref o)] := s6
    |>.getf (.int (Int32.ofNat xs.length)) hZ hown (wi hw 17 rfl) (fun hh q => q.2.2.1) d3_18 rfl
    |>.iconst (2 : Int32) d3_21 rfl rfl
    |>.imul d3_22 rfl
  have hm : (Int32.ofNat xs.length * (2 : Int32)).toInt = 16 := by rw [hl]; decide
  obtain ⟨rr, sc⟩ := Sit.callS (y := (⟨"java/util/Arrays", "copyOf", "([II)[I"⟩ : MethodName)) (W := 1) (Q := fun r hh => ∃ b, (r = some (.ref b) ∧ n0 ≤ b ∧ o ≠ b ∧ v ≠ b) ∧ (fun hh => IL Z hh o v xs [] ∧ AV Z hh b .int ((xs ++ List.replicate 8 (0 : Int32)).map Value.int)) hh) [(.ref v), (.int (Int32.ofNat xs.length * (2 : Int32)))] [(.ref o)] s7 hZ hown (wi hw 36 rfl) (wi hw 37 rfl) (wi hw 38 rfl) (wi hw 39 rfl) (by decide) (fun h1 hP hn => (rmCopy l Z a0 hw [] v _ xs h1 n0 hn (by have := hP.2.2.2.1; rwa [List.append_nil] at this) hl hm).mono fun r hh q => by
      obtain ⟨b, e1, e2, e3, K, A⟩ := q
      exact ⟨b, ⟨e1, e2, Nat.ne_of_lt (Nat.lt_of_lt_of_le hP.1.lt e3), Nat.ne_of_lt (Nat.lt_of_lt_of_le hP.2.2.2.1.lt e3)⟩, hP.keep0 K, A⟩) hml rfl (lenOf pd_1 rfl) d3_23 (Nat.le_of_eq rfl) (by decide) (by decide) (by decide) (by decide) (pc' := 26) rfl
  obtain ⟨b, sb⟩ := sc.ex
  obtain ⟨_, ⟨eb, g_b, ob, vb⟩, -⟩ := sb.facts
  subst eb
  have s12 : Sit p l e _ s m _ below meth c _ st n0 1 16 (fun hh => IL Z hh o v xs [] ∧ AV Z hh b .int ((xs ++ List.replicate 8 (0 : Int32)).map Value.int)) 26 #[.val (.ref o), .val (.int q)] [(.ref b), (.ref o)] := sb.mono fun hh q => q.2
  have s13 : Sit p l e _ s m _ below meth c _ st n0 1 16 _ 29 #[.val (.ref o), .val (.int q)] [] := s12
    |>.putf (C := "reenact/trace/IntList") (P' := fun hh => Exa Z hh o "reenact/trace/IntList" ∧ fV Z hh o (.ref b) ∧ fS Z hh o (Int32.ofNat xs.length) ∧ AV Z hh b .int ((xs ++ (0 : Int32) :: List.replicate 7 0).map Value.int) ∧ o ≠ b) (.array .int) hZ hown (wi hw 10 rfl) (go) (fun hh q => ⟨q.1.2.1, q.1.1⟩) (Or.inl (wi hw 11 rfl)) (wi hw 1 rfl) (by decide) rfl rfl (fun hh hh' q X => ⟨q.1.1.wr X, q.1.2.1.same X, q.1.2.2.1.other X (Or.inr (sVS hw).symm), q.2.other X ob.symm, ob⟩) d3_26 rfl
  have s14 : Sit p l e _ s m _ below meth c _ st n0 1 16 (fun hh => Exa Z hh o "reenact/trace/IntList" ∧ fV Z hh o (.ref b) ∧ fS Z hh o (Int32.ofNat xs.length) ∧ AV Z hh b .int ((xs ++ (0 : Int32) :: (List.replicate 7 0)).map Value.int) ∧ o ≠ b) 29 #[.val (.ref o), .val (.int q)] [] := s13
  have s15 : Sit p l e _ s m _ below meth c _ st n0 1 16 _ 30 #[.val (.ref o), .val (.int q)] [(.ref o)] := s14
    |>.aloadN d3_29 rfl rfl
  have s16 : Sit p l e _ s m _ below meth c _ st n0 1 16 _ 35 #[.val (.ref o), .val (.int q)] [(.ref o), (.ref o), (.ref b)] := s15
    |>.getf (.ref b) hZ hown (wi hw 10 rfl) (fun hh q => q.2.1) d3_30 rfl
    |>.aloadN d3_33 rfl rfl
    |>.dup d3_34 rfl rfl
  have s17 : Sit p l e _ s m _ below meth c _ st n0 1 16 _ 41 #[.val (.ref o), .val (.int q)] [(.int ((Int32.ofNat xs.length) + (1 : Int32))), (.ref o), (.int (Int32.ofNat xs.length)), (.ref b)] := s16
    |>.getf (.int (Int32.ofNat xs.length)) hZ hown (wi hw 17 rfl) (fun hh q => q.2.2.1) d3_35 rfl
    |>.dupX1 d3_38 rfl rfl rfl
    |>.iconst (1 : Int32) d3_39 rfl rfl
    |>.iadd d3_40 rfl
  have s18 : Sit p l e _ s m _ below meth c _ st n0 1 16 _ 44 #[.val (.ref o), .val (.int q)] [(.int (Int32.ofNat xs.length)), (.ref b)] := s17
    |>.putf (C := "reenact/trace/IntList") (P' := fun hh => Exa Z hh o "reenact/trace/IntList" ∧ fV Z hh o (.ref b) ∧ fS Z hh o (Int32.ofNat xs.length + (1 : Int32)) ∧ AV Z hh b .int ((xs ++ (0 : Int32) :: (List.replicate 7 0)).map Value.int) ∧ o ≠ b) .int hZ hown (wi hw 17 rfl) (go) (fun hh q => ⟨q.2.2.1, q.1⟩) (Or.inl (wi hw 18 rfl)) (wi hw 1 rfl) (by decide) rfl rfl (fun hh hh' q X => ⟨q.1.wr X, q.2.1.other X (Or.inr (sVS hw)), q.2.2.1.same X, q.2.2.2.1.other X q.2.2.2.2.symm, q.2.2.2.2⟩) d3_41 rfl
  have s19 : Sit p l e _ s m _ below meth c _ st n0 1 16 _ 45 #[.val (.ref o), .val (.int q)] [(.int q), (.int (Int32.ofNat xs.length)), (.ref b)] := s18
    |>.iloadN d3_44 rfl rfl
  have sz : (Int32.ofNat xs.length).toInt = (xs.length : Int) := Int32.toInt_ofNat_of_lt (by omega)
  have s20 : Sit p l e _ s m _ below meth c _ st n0 1 16 _ 46 #[.val (.ref o), .val (.int q)] [] := s19
    |>.iastore (P' := fun hh => IL Z hh o b (xs ++ [q]) (List.replicate 7 0)) hZ (g_b) (by omega) (fun hh q => ⟨_, q.2.2.2.1, by rw [clamp_of sz]; simp⟩) (fun hh hh' p X => by
      rw [clamp_of sz] at X
      have A := p.2.2.2.1.set X
      rw [set_at] at A
      refine ⟨p.1.wr X, p.2.1.other X (Or.inl p.2.2.2.2), ?_, A, p.2.2.2.2⟩
      rw [List.length_append, List.length_singleton, ← ofNat_succ]
      exact p.2.2.1.other X (Or.inl p.2.2.2.2)) d3_45 rfl
  exact s20.retV d3_46 hret hlk (fun hh q => ⟨rfl, b, g_b, q⟩)
theorem pn_rmWnn : plainName "reenact/trace/IntList" = true := by first | (simp [plainName, overriddenIn]; done) | decide +kernel
theorem d4_0 : decode prog_150_method_4_code 0 = .ok (.aload_n 0, 1) := by decide +kernel
theorem d4_1 : decode prog_150_method_4_code 1 = .ok (.lload_n 1, 1) := by decide +kernel
theorem d4_2 : decode prog_150_method_4_code 2 = .ok (.bipush 32, 2) := by decide +kernel
theorem d4_4 : decode prog_150_method_4_code 4 = .ok (.lushr, 1) := by decide +kernel
theorem d4_5 : decode prog_150_method_4_code 5 = .ok (.l2i, 1) := by decide +kernel
theorem d4_6 : decode prog_150_method_4_code 6 = .ok (.invokevirtual 25, 3) := by decide +kernel
theorem d4_9 : decode prog_150_method_4_code 9 = .ok (.aload_n 0, 1) := by decide +kernel
theorem d4_10 : decode prog_150_method_4_code 10 = .ok (.lload_n 1, 1) := by decide +kernel
theorem d4_11 : decode prog_150_method_4_code 11 = .ok (.l2i, 1) := by decide +kernel
theorem d4_12 : decode prog_150_method_4_code 12 = .ok (.invokevirtual 25, 3) := by decide +kernel
theorem d4_15 : decode prog_150_method_4_code 15 = .ok (.return_, 1) := by decide +kernel
theorem ef_rmWnn (m : MethodId) (o : Addr) (q : Int64) : entryFrame m #[(.ref o), (.long q)] 3 = mkF m 0 #[.val (.ref o), .val (.long q), .second] [] := by first | (simp [entryFrame, mkF, argsToLocals, Value.category]; done) | rfl
set_option maxRecDepth 65536 in
set_option maxHeartbeats 40000000 in
theorem rmWnn (l : Launch) (Z : State) (a0 : Array Value) (hw : ∀ d ∈ tables_1, d.before a0 Z = true) (wcs : List Jvm.Cond) (o : Addr) (q : Int64) (v : Addr) (xs : List Int32) (y z : Int32) (ys : List Int32) (h0 : Heap) (n0 : Nat) (Z0 : n0 ≤ h0.size) (go : n0 ≤ o) (gv : n0 ≤ v) (I : IL Z h0 o v xs (y :: z :: ys)) (hl : xs.length + ys.length + 2 < 1000) : Met1 l (⟨"reenact/trace/IntList", "addWide", "(J)V"⟩ : MethodName) prog_150_method_4_code 3 none wcs ({ frames := 1, cells := 0, slots := 0, locals := 40 } : Room) Z #[(.ref o), (.long q)] h0 n0 (fun r hh => r = none ∧ IL Z hh o v (xs ++ [(ushr64 q (32 : Int32)).toInt32] ++ [q.toInt32]) ys) := by
  refine Met1.of (L0 := #[.val (.ref o), .val (.long q), .second]) (plainFor_of_name pn_rmWnn) (fun m => ef_rmWnn m o q) Z0 ?_
  intro p e s m below meth c st s0 hZ hown hret hlk hnm hml
  have s1 : Sit p l e _ s m _ below meth c _ st n0 0 0 (fun hh => IL Z hh o v xs (y :: z :: ys)) 0 #[.val (.ref o), .val (.long q), .second] [] := s0.mono fun hh q => q ▸ I
  have s2 : Sit p l e _ s m _ below meth c _ st n0 0 0 _ 6 #[.val (.ref o), .val (.long q), .second] [(.int (ushr64 q (32 : Int32)).toInt32), (.ref o)] := s1
    |>.aloadN d4_0 rfl rfl
    |>.lloadN d4_1 rfl rfl
    |>.bipush (32 : Int32) d4_2 rfl rfl
    |>.lushr d4_4 rfl
    |>.l2i d4_5 rfl
  obtain ⟨r4, s3⟩ := Sit.callV (C := "reenact/trace/IntList") (y := (⟨"reenact/trace/IntList", "add", "(I)V"⟩ : MethodName)) (W := 0) (Q := fun rv_ hh => (rv_ = none) ∧ (fun hh => IL Z hh o v (xs ++ [(ushr64 q (32 : Int32)).toInt32]) (z :: ys)) hh) [(.int (ushr64 q (32 : Int32)).toInt32)] [] s2 hZ hown (wi hw 24 rfl) (wi hw 13 rfl) (wi hw 15 rfl) (wi hw 14 rfl) (wi hw 16 rfl) (wi hw 2 rfl) (by decide) (fun hh q => q.1) (fun h1 hP hn => (rmAdd l Z a0 hw [] o (ushr64 q (32 : Int32)).toInt32 v xs y (z :: ys) h1 n0 hn go gv hP (by simp only [List.length_cons]; omega)).mono fun rv_ hh q => q) hml rfl (lenOf pd_2 rfl) d4_6 (Nat.le_of_eq rfl) (by decide) (by decide) (by decide) (by decide) (pc' := 9) rfl
  obtain ⟨_, er4, _⟩ := s3.facts
  subst er4
  have s5 : Sit p l e _ s m _ below meth c _ st n0 0 0 (fun hh => IL Z hh o v (xs ++ [(ushr64 q (32 : Int32)).toInt32]) (z :: ys)) 9 #[.val (.ref o), .val (.long q), .second] [] := s3.mono fun _ q => q.2
  have s6 : Sit p l e _ s m _ below meth c _ st n0 0 0 _ 12 #[.val (.ref o), .val (.long q), .second] [(.int q.toInt32), (.ref o)] := s5
    |>.aloadN d4_9 rfl rfl
    |>.lloadN d4_10 rfl rfl
    |>.l2i d4_11 rfl
  obtain ⟨r8, s7⟩ := Sit.callV (C := "reenact/trace/IntList") (y := (⟨"reenact/trace/IntList", "add", "(I)V"⟩ : MethodName)) (W := 0) (Q := fun rv_ hh => (rv_ = none) ∧ (fun hh => IL Z hh o v ((xs ++ [(ushr64 q (32 : Int32)).toInt32]) ++ [q.toInt32]) ys) hh) [(.int q.toInt32)] [] s6 hZ hown (wi hw 24 rfl) (wi hw 13 rfl) (wi hw 15 rfl) (wi hw 14 rfl) (wi hw 16 rfl) (wi hw 2 rfl) (by decide) (fun hh q => q.1) (fun h1 hP hn => (rmAdd l Z a0 hw [] o q.toInt32 v (xs ++ [(ushr64 q (32 : Int32)).toInt32]) z ys h1 n0 hn go gv hP (by simp only [List.length_append, List.length_cons, List.length_nil]; omega)).mono fun rv_ hh q => q) hml rfl (lenOf pd_2 rfl) d4_12 (Nat.le_of_eq rfl) (by decide) (by decide) (by decide) (by decide) (pc' := 15) rfl
  obtain ⟨_, er8, _⟩ := s7.facts
  subst er8
  have s9 : Sit p l e _ s m _ below meth c _ st n0 0 0 (fun hh => IL Z hh o v ((xs ++ [(ushr64 q (32 : Int32)).toInt32]) ++ [q.toInt32]) ys) 15 #[.val (.ref o), .val (.long q), .second] [] := s7.mono fun _ q => q.2
  exact s9.retV d4_15 hret hlk (fun hh q => ⟨rfl, q⟩)
theorem pn_rmWgn : plainName "reenact/trace/IntList" = true := by first | (simp [plainName, overriddenIn]; done) | decide +kernel
theorem ef_rmWgn (m : MethodId) (o : Addr) (q : Int64) : entryFrame m #[(.ref o), (.long q)] 3 = mkF m 0 #[.val (.ref o), .val (.long q), .second] [] := by first | (simp [entryFrame, mkF, argsToLocals, Value.category]; done) | rfl
set_option maxRecDepth 65536 in
set_option maxHeartbeats 40000000 in
theorem rmWgn (l : Launch) (Z : State) (a0 : Array Value) (hw : ∀ d ∈ tables_1, d.before a0 Z = true) (wcs : List Jvm.Cond) (o : Addr) (q : Int64) (v : Addr) (xs : List Int32) (h0 : Heap) (n0 : Nat) (Z0 : n0 ≤ h0.size) (go : n0 ≤ o) (gv : n0 ≤ v) (I : IL Z h0 o v xs []) (hl : xs.length = 8) : Met1 l (⟨"reenact/trace/IntList", "addWide", "(J)V"⟩ : MethodName) prog_150_method_4_code 3 none wcs ({ frames := 3, cells := 1, slots := 16, locals := 140 } : Room) Z #[(.ref o), (.long q)] h0 n0 (fun r hh => r = none ∧ ∃ b, n0 ≤ b ∧ IL Z hh o b (xs ++ [(ushr64 q (32 : Int32)).toInt32] ++ [q.toInt32]) (List.replicate 6 0)) := by
  refine Met1.of (L0 := #[.val (.ref o), .val (.long q), .second]) (plainFor_of_name pn_rmWgn) (fun m => ef_rmWgn m o q) Z0 ?_
  intro p e s m below meth c st s0 hZ hown hret hlk hnm hml
  have s1 : Sit p l e _ s m _ below meth c _ st n0 0 0 (fun hh => IL Z hh o v xs []) 0 #[.val (.ref o), .val (.long q), .second] [] := s0.mono fun hh q => q ▸ I
  have s2 : Sit p l e _ s m _ below meth c _ st n0 0 0 _ 6 #[.val (.ref o), .val (.long q), .second] [(.int (ushr64 q (32 : Int32)).toInt32), (.ref o)] := s1
    |>.aloadN d4_0 rfl rfl
    |>.lloadN d4_1 rfl rfl
    |>.bipush (32 : Int32) d4_2 rfl rfl
    |>.lushr d4_4 rfl
    |>.l2i d4_5 rfl
  obtain ⟨r4, s3⟩ := Sit.callV (C := "reenact/trace/IntList") (y := (⟨"reenact/trace/IntList", "add", "(I)V"⟩ : MethodName)) (W := 0) (Q := fun rv_ hh => (rv_ = none) ∧ (fun hh => ∃ b, n0 ≤ b ∧ IL Z hh o b (xs ++ [(ushr64 q (32 : Int32)).toInt32]) (List.replicate 7 0)) hh) [(.int (ushr64 q (32 : Int32)).toInt32)] [] s2 hZ hown (wi hw 24 rfl) (wi hw 13 rfl) (wi hw 15 rfl) (wi hw 14 rfl) (wi hw 16 rfl) (wi hw 2 rfl) (by decide) (fun hh q => q.1) (fun h1 hP hn => (rmGrow l Z a0 hw [] o (ushr64 q (32 : Int32)).toInt32 v xs h1 n0 hn go gv hP hl).mono fun rv_ hh q => q) hml rfl (lenOf pd_2 rfl) d4_6 (Nat.le_of_eq rfl) (by decide) (by decide) (by decide) (by decide) (pc' := 9) rfl
  obtain ⟨_, er4, _⟩ := s3.facts
  subst er4
  have s5 : Sit p l e _ s m _ below meth c _ st n0 1 16 (fun hh => ∃ b, n0 ≤ b ∧ IL Z hh o b (xs ++ [(ushr64 q (32 : Int32)).toInt32]) (List.replicate 7 0)) 9 #[.val (.ref o), .val (.long q), .second] [] := s3.mono fun _ q => q.2
  obtain ⟨b, s6⟩ := s5.ex
  have s7 : Sit p l e _ s m _ below meth c _ st n0 1 16 (fun hh => n0 ≤ b ∧ IL Z hh o b (xs ++ [(ushr64 q (32 : Int32)).toInt32]) (List.replicate 7 0)) 9 #[.val (.ref o), .val (.long q), .second] [] := s6
  obtain ⟨_, g_b, -⟩ := s7.facts
  have s8 : Sit p l e _ s m _ below meth c _ st n0 1 16 (fun hh => IL Z hh o b (xs ++ [(ushr64 q (32 : Int32)).toInt32]) (List.replicate 7 0)) 9 #[.val (.ref o), .val (.long q), .second] [] := s7.mono fun hh q => q.2
  have s9 : Sit p l e _ s m _ below meth c _ st n0 1 16 _ 12 #[.val (.ref o), .val (.long q), .second] [(.int q.toInt32), (.ref o)] := s8
    |>.aloadN d4_9 rfl rfl
    |>.lloadN d4_10 rfl rfl
    |>.l2i d4_11 rfl
  obtain ⟨r11, s10⟩ := Sit.callV (C := "reenact/trace/IntList") (y := (⟨"reenact/trace/IntList", "add", "(I)V"⟩ : MethodName)) (W := 0) (Q := fun rv_ hh => (rv_ = none) ∧ (fun hh => IL Z hh o b ((xs ++ [(ushr64 q (32 : Int32)).toInt32]) ++ [q.toInt32]) (List.replicate 6 0)) hh) [(.int q.toInt32)] [] s9 hZ hown (wi hw 24 rfl) (wi hw 13 rfl) (wi hw 15 rfl) (wi hw 14 rfl) (wi hw 16 rfl) (wi hw 2 rfl) (by decide) (fun hh q => q.1) (fun h1 hP hn => (rmAdd l Z a0 hw [] o q.toInt32 b (xs ++ [(ushr64 q (32 : Int32)).toInt32]) 0 (List.replicate 6 0) h1 n0 hn go g_b hP (by simp only [List.length_append, List.length_replicate, List.length_cons, List.length_nil]; omega)).mono fun rv_ hh q => q) hml rfl (lenOf pd_2 rfl) d4_12 (Nat.le_of_eq rfl) (by decide) (by decide) (by decide) (by decide) (pc' := 15) rfl
  obtain ⟨_, er11, _⟩ := s10.facts
  subst er11
  have s12 : Sit p l e _ s m _ below meth c _ st n0 1 16 (fun hh => IL Z hh o b ((xs ++ [(ushr64 q (32 : Int32)).toInt32]) ++ [q.toInt32]) (List.replicate 6 0)) 15 #[.val (.ref o), .val (.long q), .second] [] := s10.mono fun _ q => q.2
  exact s12.retV d4_15 hret hlk (fun hh q => ⟨rfl, b, g_b, q⟩)
theorem pn_rmWng : plainName "reenact/trace/IntList" = true := by first | (simp [plainName, overriddenIn]; done) | decide +kernel
theorem ef_rmWng (m : MethodId) (o : Addr) (q : Int64) : entryFrame m #[(.ref o), (.long q)] 3 = mkF m 0 #[.val (.ref o), .val (.long q), .second] [] := by first | (simp [entryFrame, mkF, argsToLocals, Value.category]; done) | rfl
set_option maxRecDepth 65536 in
set_option maxHeartbeats 40000000 in
theorem rmWng (l : Launch) (Z : State) (a0 : Array Value) (hw : ∀ d ∈ tables_1, d.before a0 Z = true) (wcs : List Jvm.Cond) (o : Addr) (q : Int64) (v : Addr) (xs : List Int32) (y : Int32) (h0 : Heap) (n0 : Nat) (Z0 : n0 ≤ h0.size) (go : n0 ≤ o) (gv : n0 ≤ v) (I : IL Z h0 o v xs [y]) (hl : xs.length = 7) : Met1 l (⟨"reenact/trace/IntList", "addWide", "(J)V"⟩ : MethodName) prog_150_method_4_code 3 none wcs ({ frames := 3, cells := 1, slots := 16, locals := 140 } : Room) Z #[(.ref o), (.long q)] h0 n0 (fun r hh => r = none ∧ ∃ b, n0 ≤ b ∧ IL Z hh o b (xs ++ [(ushr64 q (32 : Int32)).toInt32] ++ [q.toInt32]) (List.replicate 7 0)) := by
  refine Met1.of (L0 := #[.val (.ref o), .val (.long q), .second]) (plainFor_of_name pn_rmWng) (fun m => ef_rmWng m o q) Z0 ?_
  intro p e s m below meth c st s0 hZ hown hret hlk hnm hml
  have s1 : Sit p l e _ s m _ below meth c _ st n0 0 0 (fun hh => IL Z hh o v xs [y]) 0 #[.val (.ref o), .val (.long q), .second] [] := s0.mono fun hh q => q ▸ I
  have s2 : Sit p l e _ s m _ below meth c _ st n0 0 0 _ 6 #[.val (.ref o), .val (.long q), .second] [(.int (ushr64 q (32 : Int32)).toInt32), (.ref o)] := s1
    |>.aloadN d4_0 rfl rfl
    |>.lloadN d4_1 rfl rfl
    |>.bipush (32 : Int32) d4_2 rfl rfl
    |>.lushr d4_4 rfl
    |>.l2i d4_5 rfl
  obtain ⟨r4, s3⟩ := Sit.callV (C := "reenact/trace/IntList") (y := (⟨"reenact/trace/IntList", "add", "(I)V"⟩ : MethodName)) (W := 0) (Q := fun rv_ hh => (rv_ = none) ∧ (fun hh => IL Z hh o v (xs ++ [(ushr64 q (32 : Int32)).toInt32]) []) hh) [(.int (ushr64 q (32 : Int32)).toInt32)] [] s2 hZ hown (wi hw 24 rfl) (wi hw 13 rfl) (wi hw 15 rfl) (wi hw 14 rfl) (wi hw 16 rfl) (wi hw 2 rfl) (by decide) (fun hh q => q.1) (fun h1 hP hn => (rmAdd l Z a0 hw [] o (ushr64 q (32 : Int32)).toInt32 v xs y [] h1 n0 hn go gv hP (by simp only [List.length_nil]; omega)).mono fun rv_ hh q => q) hml rfl (lenOf pd_2 rfl) d4_6 (Nat.le_of_eq rfl) (by decide) (by decide) (by decide) (by decide) (pc' := 9) rfl
  obtain ⟨_, er4, _⟩ := s3.facts
  subst er4
  have s5 : Sit p l e _ s m _ below meth c _ st n0 0 0 (fun hh => IL Z hh o v (xs ++ [(ushr64 q (32 : Int32)).toInt32]) []) 9 #[.val (.ref o), .val (.long q), .second] [] := s3.mono fun _ q => q.2
  have s6 : Sit p l e _ s m _ below meth c _ st n0 0 0 _ 12 #[.val (.ref o), .val (.long q), .second] [(.int q.toInt32), (.ref o)] := s5
    |>.aloadN d4_9 rfl rfl
    |>.lloadN d4_10 rfl rfl
    |>.l2i d4_11 rfl
  obtain ⟨r8, s7⟩ := Sit.callV (C := "reenact/trace/IntList") (y := (⟨"reenact/trace/IntList", "add", "(I)V"⟩ : MethodName)) (W := 0) (Q := fun rv_ hh => (rv_ = none) ∧ (fun hh => ∃ b, n0 ≤ b ∧ IL Z hh o b ((xs ++ [(ushr64 q (32 : Int32)).toInt32]) ++ [q.toInt32]) (List.replicate 7 0)) hh) [(.int q.toInt32)] [] s6 hZ hown (wi hw 24 rfl) (wi hw 13 rfl) (wi hw 15 rfl) (wi hw 14 rfl) (wi hw 16 rfl) (wi hw 2 rfl) (by decide) (fun hh q => q.1) (fun h1 hP hn => (rmGrow l Z a0 hw [] o q.toInt32 v (xs ++ [(ushr64 q (32 : Int32)).toInt32]) h1 n0 hn go gv hP (by simp only [List.length_append, List.length_cons, List.length_nil]; omega)).mono fun rv_ hh q => q) hml rfl (lenOf pd_2 rfl) d4_12 (Nat.le_of_eq rfl) (by decide) (by decide) (by decide) (by decide) (pc' := 15) rfl
  obtain ⟨_, er8, _⟩ := s7.facts
  subst er8
  have s9 : Sit p l e _ s m _ below meth c _ st n0 1 16 (fun hh => ∃ b, n0 ≤ b ∧ IL Z hh o b ((xs ++ [(ushr64 q (32 : Int32)).toInt32]) ++ [q.toInt32]) (List.replicate 7 0)) 15 #[.val (.ref o), .val (.long q), .second] [] := s7.mono fun _ q => q.2
  obtain ⟨b, s10⟩ := s9.ex
  have s11 : Sit p l e _ s m _ below meth c _ st n0 1 16 (fun hh => n0 ≤ b ∧ IL Z hh o b ((xs ++ [(ushr64 q (32 : Int32)).toInt32]) ++ [q.toInt32]) (List.replicate 7 0)) 15 #[.val (.ref o), .val (.long q), .second] [] := s10
  obtain ⟨_, g_b, -⟩ := s11.facts
  have s12 : Sit p l e _ s m _ below meth c _ st n0 1 16 (fun hh => IL Z hh o b ((xs ++ [(ushr64 q (32 : Int32)).toInt32]) ++ [q.toInt32]) (List.replicate 7 0)) 15 #[.val (.ref o), .val (.long q), .second] [] := s11.mono fun hh q => q.2
  exact s12.retV d4_15 hret hlk (fun hh q => ⟨rfl, b, g_b, q⟩)
theorem pn_rmGet : plainName "reenact/trace/IntList" = true := by first | (simp [plainName, overriddenIn]; done) | decide +kernel
theorem d5_0 : decode prog_150_method_5_code 0 = .ok (.aload_n 0, 1) := by decide +kernel
theorem d5_1 : decode prog_150_method_5_code 1 = .ok (.getfield 7, 3) := by decide +kernel
theorem d5_4 : decode prog_150_method_5_code 4 = .ok (.iload_n 1, 1) := by decide +kernel
theorem d5_5 : decode prog_150_method_5_code 5 = .ok (.iaload, 1) := by decide +kernel
theorem d5_6 : decode prog_150_method_5_code 6 = .ok (.i2l, 1) := by decide +kernel
theorem d5_7 : decode prog_150_method_5_code 7 = .ok (.bipush 32, 2) := by decide +kernel
theorem d5_9 : decode prog_150_method_5_code 9 = .ok (.lshl, 1) := by decide +kernel
theorem d5_10 : decode prog_150_method_5_code 10 = .ok (.aload_n 0, 1) := by decide +kernel
theorem d5_11 : decode prog_150_method_5_code 11 = .ok (.getfield 7, 3) := by decide +kernel
theorem d5_14 : decode prog_150_method_5_code 14 = .ok (.iload_n 1, 1) := by decide +kernel
theorem d5_15 : decode prog_150_method_5_code 15 = .ok (.iconst 1, 1) := by decide +kernel
theorem d5_16 : decode prog_150_method_5_code 16 = .ok (.iadd, 1) := by decide +kernel
theorem d5_17 : decode prog_150_method_5_code 17 = .ok (.iaload, 1) := by decide +kernel
theorem d5_18 : decode prog_150_method_5_code 18 = .ok (.i2l, 1) := by decide +kernel
theorem d5_19 : decode prog_150_method_5_code 19 = .ok (.ldc2_w 29, 3) := by decide +kernel
theorem d5_22 : decode prog_150_method_5_code 22 = .ok (.land, 1) := by decide +kernel
theorem d5_23 : decode prog_150_method_5_code 23 = .ok (.lor, 1) := by decide +kernel
theorem d5_24 : decode prog_150_method_5_code 24 = .ok (.lreturn, 1) := by decide +kernel
theorem ef_rmGet (m : MethodId) (o : Addr) (q : Int32) : entryFrame m #[(.ref o), (.int q)] 2 = mkF m 0 #[.val (.ref o), .val (.int q)] [] := by first | (simp [entryFrame, mkF, argsToLocals, Value.category]; done) | rfl
set_option maxRecDepth 65536 in
set_option maxHeartbeats 40000000 in
theorem rmGet (l : Launch) (Z : State) (a0 : Array Value) (hw : ∀ d ∈ tables_1, d.before a0 Z = true) (wcs : List Jvm.Cond) (o : Addr) (q : Int32) (v : Addr) (xs ys : List Int32) (j : Nat) (x y : Int32) (h0 : Heap) (n0 : Nat) (Z0 : n0 ≤ h0.size) (I : IL Z h0 o v xs ys) (hq : q.toInt = (j : Int)) (hj : j < 1000) (h1 : xs[j]? = some x) (h2 : xs[j + 1]? = some y) : Met1 l (⟨"reenact/trace/IntList", "getWide", "(I)J"⟩ : MethodName) prog_150_method_5_code 2 (some .long) wcs ({ frames := 0, cells := 0, slots := 0, locals := 0 } : Room) Z #[(.ref o), (.int q)] h0 n0 (fun r hh => r = some (.long (wide2 x y)) ∧ hh = h0) := by
  refine Met1.of (L0 := #[.val (.ref o), .val (.int q)]) (plainFor_of_name pn_rmGet) (fun m => ef_rmGet m o q) Z0 ?_
  intro p e s m below meth c st s0 hZ hown hret hlk hnm hml
  have s1 : Sit p l e _ s m _ below meth c _ st n0 0 0 _ 1 #[.val (.ref o), .val (.int q)] [(.ref o)] := s0
    |>.aloadN d5_0 rfl rfl
  have s2 : Sit p l e _ s m _ below meth c _ st n0 0 0 _ 5 #[.val (.ref o), .val (.int q)] [(.int q), (.ref v)] := s1
    |>.getf (.ref v) hZ hown (wi hw 10 rfl) (fun hh p => p ▸ I.2.1) d5_1 rfl
    |>.iloadN d5_4 rfl rfl
  have s3 : Sit p l e _ s m _ below meth c _ st n0 0 0 _ 11 #[.val (.ref o), .val (.int q)] [(.ref o), (.long (shl64 x.toInt64 (32 : Int32)))] := s2
    |>.iaload (v := x) hZ (by omega) (fun hh p => ⟨_, p ▸ I.2.2.2.1, by rw [clamp_of hq, List.getElem?_map, List.getElem?_append_left (List.getElem?_eq_some_iff.mp h1).1, h1]; rfl⟩) d5_5 rfl
    |>.i2l d5_6 rfl
    |>.bipush (32 : Int32) d5_7 rfl rfl
    |>.lshl d5_9 rfl
    |>.aloadN d5_10 rfl rfl
  have s4 : Sit p l e _ s m _ below meth c _ st n0 0 0 _ 17 #[.val (.ref o), .val (.int q)] [(.int (q + (1 : Int32))), (.ref v), (.long (shl64 x.toInt64 (32 : Int32)))] := s3
    |>.getf (.ref v) hZ hown (wi hw 10 rfl) (fun hh p => p ▸ I.2.1) d5_11 rfl
    |>.iloadN d5_14 rfl rfl
    |>.iconst (1 : Int32) d5_15 rfl rfl
    |>.iadd d5_16 rfl
  have hq1 : (q + (1 : Int32)).toInt = ((j + 1 : Nat) : Int) := by
    have a := c_iadd q (1 : Int32)
    have r := rng32 (q + (1 : Int32))
    have e : (1 : Int32).toInt = 1 := rfl
    omega
  have s5 : Sit p l e _ s m _ below meth c _ st n0 0 0 _ 24 #[.val (.ref o), .val (.int q)] [(.long ((shl64 x.toInt64 (32 : Int32)) ||| (y.toInt64 &&& (4294967295 : Int64))))] := s4
    |>.iaload (v := y) hZ (by omega) (fun hh p => ⟨_, p ▸ I.2.2.2.1, by rw [clamp_of hq1, List.getElem?_map, List.getElem?_append_left (List.getElem?_eq_some_iff.mp h2).1, h2]; rfl⟩) d5_17 rfl
    |>.i2l d5_18 rfl
    |>.ldc2 hZ hown (wi hw 30 rfl) d5_19 rfl
    |>.land d5_22 rfl
    |>.lor d5_23 rfl
  exact s5.retJ d5_24 hret hlk (fun hh q => ⟨rfl, q⟩)
theorem pn_rmSize : plainName "reenact/trace/IntList" = true := by first | (simp [plainName, overriddenIn]; done) | decide +kernel
theorem d6_0 : decode prog_150_method_6_code 0 = .ok (.aload_n 0, 1) := by decide +kernel
theorem d6_1 : decode prog_150_method_6_code 1 = .ok (.getfield 13, 3) := by decide +kernel
theorem d6_4 : decode prog_150_method_6_code 4 = .ok (.ireturn, 1) := by decide +kernel
theorem ef_rmSize (m : MethodId) (o : Addr) : entryFrame m #[(.ref o)] 1 = mkF m 0 #[.val (.ref o)] [] := by first | (simp [entryFrame, mkF, argsToLocals, Value.category]; done) | rfl
set_option maxRecDepth 65536 in
set_option maxHeartbeats 40000000 in
theorem rmSize (l : Launch) (Z : State) (a0 : Array Value) (hw : ∀ d ∈ tables_1, d.before a0 Z = true) (wcs : List Jvm.Cond) (o : Addr) (v : Addr) (xs ys : List Int32) (h0 : Heap) (n0 : Nat) (Z0 : n0 ≤ h0.size) (I : IL Z h0 o v xs ys) : Met1 l (⟨"reenact/trace/IntList", "size", "()I"⟩ : MethodName) prog_150_method_6_code 1 (some .int) wcs ({ frames := 0, cells := 0, slots := 0, locals := 0 } : Room) Z #[(.ref o)] h0 n0 (fun r hh => r = some (.int (Int32.ofNat xs.length)) ∧ hh = h0) := by
  refine Met1.of (L0 := #[.val (.ref o)]) (plainFor_of_name pn_rmSize) (fun m => ef_rmSize m o) Z0 ?_
  intro p e s m below meth c st s0 hZ hown hret hlk hnm hml
  have s1 : Sit p l e _ s m _ below meth c _ st n0 0 0 _ 1 #[.val (.ref o)] [(.ref o)] := s0
    |>.aloadN d6_0 rfl rfl
  have s2 : Sit p l e _ s m _ below meth c _ st n0 0 0 _ 4 #[.val (.ref o)] [(.int (Int32.ofNat xs.length))] := s1
    |>.getf (.int (Int32.ofNat xs.length)) hZ hown (wi hw 17 rfl) (fun hh p => p ▸ I.2.2.1) d6_1 rfl
  exact s2.retI d6_4 hret hlk (fun hh q => ⟨rfl, q⟩)
theorem pn_rm0 : plainName "reenact/trace/IntListGetWidePinLaw" = true := by first | (simp [plainName, overriddenIn]; done) | decide +kernel
theorem ef_rm0 (m : MethodId) (x0 : Int32) (x1 : Int32) (x2 : Int64) (x3 : Int64) (x4 : Int32) : entryFrame m #[(.int x0), (.int x1), (.long x2), (.long x3), (.int x4)] maxLocals = mkF m 0 #[.val (.int x0), .val (.int x1), .val (.long x2), .second, .val (.long x3), .second, .val (.int x4), .unset, .unset, .unset, .unset, .unset, .unset, .unset, .unset, .unset, .unset] [] := by first | (simp [entryFrame, mkF, argsToLocals, Value.category, maxLocals]; done) | rfl
set_option maxRecDepth 65536 in
set_option maxHeartbeats 40000000 in
theorem rm0 (l : Launch) (Z : State) (a0 : Array Value) (hw : ∀ d ∈ tables_1, d.before a0 Z = true) (wcs : List Jvm.Cond) (x0 : Int32) (x1 : Int32) (x2 : Int64) (x3 : Int64) (x4 : Int32)  (h0 : Heap) (n0 : Nat) (Z0 : n0 ≤ h0.size)  : Met1 l x code maxLocals ret wcs room_1 Z #[(.int x0), (.int x1), (.long x2), (.long x3), (.int x4)] h0 n0 (fun v hh => v = some (.int 1)) := by
  refine Met1.of (L0 := #[.val (.int x0), .val (.int x1), .val (.long x2), .second, .val (.long x3), .second, .val (.int x4), .unset, .unset, .unset, .unset, .unset, .unset, .unset, .unset, .unset, .unset]) (plainFor_of_name pn_rm0) (fun m => ef_rm0 m x0 x1 x2 x3 x4) Z0 ?_
  intro p e s m below meth c st s0 hZ hown hret hlk hnm hml
  have hown : s.vm.findClass "reenact/trace/IntListGetWidePinLaw" = some m.cls := hown
  have hret : meth.sig.returnType = some .boolean := hret
  have hml : c.maxLocals = 17 := hml
  have s1 : Sit p l e _ s m _ below meth c _ st n0 0 0 (fun hh => True) 0 #[.val (.int x0), .val (.int x1), .val (.long x2), .second, .val (.long x3), .second, .val (.int x4), .unset, .unset, .unset, .unset, .unset, .unset, .unset, .unset, .unset, .unset] [] := s0.mono fun hh q => trivial
  have s2 : Sit p l e _ s m _ below meth c _ st n0 0 0 _ 5 #[.val (.int x0), .val (.int x1), .val (.long x2), .second, .val (.long x3), .second, .val (.int x4), .unset, .unset, .unset, .unset, .unset, .unset, .unset, .unset, .unset, .unset] [(.int (x4 &&& (7 : Int32)))] := s1
    |>.iload at_0 rfl rfl
    |>.bipush (7 : Int32) at_2 rfl rfl
    |>.iand at_4 rfl
  obtain ⟨n, e_n, s3⟩ : ∃ n : Int32, n = (x4 &&& (7 : Int32)) ∧ Sit p l e _ s m _ below meth c _ st n0 0 0 _ 5 #[.val (.int x0), .val (.int x1), .val (.long x2), .second, .val (.long x3), .second, .val (.int x4), .unset, .unset, .unset, .unset, .unset, .unset, .unset, .unset, .unset, .unset] [(.int n)] := ⟨_, rfl, s2⟩
  have s4 : Sit p l e _ s m _ below meth c _ st n0 0 0 _ 7 #[.val (.int x0), .val (.int x1), .val (.long x2), .second, .val (.long x3), .second, .val (.int x4), .val (.int n), .unset, .unset, .unset, .unset, .unset, .unset, .unset, .unset, .unset] [] := s3
    |>.istore #[.val (.int x0), .val (.int x1), .val (.long x2), .second, .val (.long x3), .second, .val (.int x4), .val (.int n), .unset, .unset, .unset, .unset, .unset, .unset, .unset, .unset, .unset] at_5 rfl rfl
  obtain ⟨o, g_o, s5⟩ := Sit.newo (P' := fun o => fun hh => Exa Z hh o "reenact/trace/IntList" ∧ fV Z hh o .null ∧ fS Z hh o 0) s4 hZ hown (wi hw 0 rfl) (wi hw 1 rfl) (wi hw 2 rfl) (by decide) (by decide) (fun hh hh' a _ _ _ q => ⟨q.1, q.2 (Or.inl (wi hw 11 rfl)) (ty := .array .int) (by decide), q.2 (Or.inl (wi hw 18 rfl)) (ty := .int) (by decide)⟩) at_7 (pc' := 10) rfl
  have s6 : Sit p l e _ s m _ below meth c _ st n0 1 2 _ 10 #[.val (.int x0), .val (.int x1), .val (.long x2), .second, .val (.long x3), .second, .val (.int x4), .val (.int n), .unset, .unset, .unset, .unset, .unset, .unset, .unset, .unset, .unset] [(.ref o)] := s5
  have s7 : Sit p l e _ s m _ below meth c _ st n0 1 2 _ 11 #[.val (.int x0), .val (.int x1), .val (.long x2), .second, .val (.long x3), .second, .val (.int x4), .val (.int n), .unset, .unset, .unset, .unset, .unset, .unset, .unset, .unset, .unset] [(.ref o), (.ref o)] := s6
    |>.dup at_10 rfl rfl
  obtain ⟨r9, s8⟩ := Sit.callI (y := (⟨"reenact/trace/IntList", "<init>", "()V"⟩ : MethodName)) (W := 1) (Q := fun rv_ hh => (rv_ = none) ∧ (fun hh => ∃ v, n0 ≤ v ∧ IL Z hh o v [] (List.replicate 8 0)) hh) [] [(.ref o)] s7 rfl hZ hown (wi hw 3 rfl) (wi hw 4 rfl) (wi hw 5 rfl) (wi hw 2 rfl) (by decide) (fun h1 hP hn => (rmI l Z a0 hw [] o h1 n0 hn g_o hP.1 hP.2.1 hP.2.2).mono fun rv_ hh q => q) hml rfl (lenOf pd_3 rfl) at_11 (Nat.le_of_eq rfl) (by decide) (by decide) (by decide) (by decide) (pc' := 14) rfl
  obtain ⟨_, er9, _⟩ := s8.facts
  subst er9
  have s10 : Sit p l e _ s m _ below meth c _ st n0 2 10 (fun hh => ∃ v, n0 ≤ v ∧ IL Z hh o v [] (List.replicate 8 0)) 14 #[.val (.int x0), .val (.int x1), .val (.long x2), .second, .val (.long x3), .second, .val (.int x4), .val (.int n), .unset, .unset, .unset, .unset, .unset, .unset, .unset, .unset, .unset] [(.ref o)] := s8.mono fun _ q => q.2
  obtain ⟨v, s11⟩ := s10.ex
  have s12 : Sit p l e _ s m _ below meth c _ st n0 2 10 (fun hh => n0 ≤ v ∧ IL Z hh o v [] (List.replicate 8 0)) 14 #[.val (.int x0), .val (.int x1), .val (.long x2), .second, .val (.long x3), .second, .val (.int x4), .val (.int n), .unset, .unset, .unset, .unset, .unset, .unset, .unset, .unset, .unset] [(.ref o)] := s11
  obtain ⟨_, g_v, -⟩ := s12.facts
  have s13 : Sit p l e _ s m _ below meth c _ st n0 2 10 (fun hh => IL Z hh o v [] [0, 0, 0, 0, 0, 0, 0, 0]) 14 #[.val (.int x0), .val (.int x1), .val (.long x2), .second, .val (.long x3), .second, .val (.int x4), .val (.int n), .unset, .unset, .unset, .unset, .unset, .unset, .unset, .unset, .unset] [(.ref o)] := s12.mono fun hh q => q.2
  have s14 : Sit p l e _ s m _ below meth c _ st n0 2 10 _ 16 #[.val (.int x0), .val (.int x1), .val (.long x2), .second, .val (.long x3), .second, .val (.int x4), .val (.int n), .val (.ref o), .unset, .unset, .unset, .unset, .unset, .unset, .unset, .unset] [] := s13
    |>.astore #[.val (.int x0), .val (.int x1), .val (.long x2), .second, .val (.long x3), .second, .val (.int x4), .val (.int n), .val (.ref o), .unset, .unset, .unset, .unset, .unset, .unset, .unset, .unset] at_14 rfl rfl
  have hn8 := and7 x4
  rw [← e_n] at hn8
  clear e_n
  rcases hn8 with rfl | rfl | rfl | rfl | rfl | rfl | rfl | rfl
  · have s15 : Sit p l e _ s m _ below meth c _ st n0 2 10 (fun hh => IL Z hh o v [] [0, 0, 0, 0, 0, 0, 0, 0]) 16 #[.val (.int x0), .val (.int x1), .val (.long x2), .second, .val (.long x3), .second, .val (.int x4), .val (.int (0 : Int32)), .val (.ref o), .unset, .unset, .unset, .unset, .unset, .unset, .unset, .unset] [] := s14
    have s16 : Sit p l e _ s m _ below meth c _ st n0 2 10 _ 18 #[.val (.int x0), .val (.int x1), .val (.long x2), .second, .val (.long x3), .second, .val (.int x4), .val (.int (0 : Int32)), .val (.ref o), .unset, .unset, .unset, .unset, .unset, .unset, .unset, .unset] [(.int (0 : Int32))] := s15
      |>.iload at_16 rfl rfl
    have s17 : Sit p l e _ s m _ below meth c _ st n0 2 10 _ 30 #[.val (.int x0), .val (.int x1), .val (.long x2), .second, .val (.long x3), .second, .val (.int x4), .val (.int (0 : Int32)), .val (.ref o), .unset, .unset, .unset, .unset, .unset, .unset, .unset, .unset] [(.int (1 : Int32)), (.int (0 : Int32))] := s16
      |>.ifY at_18 (cmpT0 (cd := .le) (show (0 : Int) ≤ 0 from by decide)) (by decide) (by decide)
      |>.iload at_27 rfl rfl
      |>.iconst (1 : Int32) at_29 rfl rfl
    have s18 : Sit p l e _ s m _ below meth c _ st n0 2 10 _ 42 #[.val (.int x0), .val (.int x1), .val (.long x2), .second, .val (.long x3), .second, .val (.int x4), .val (.int (0 : Int32)), .val (.ref o), .unset, .unset, .unset, .unset, .unset, .unset, .unset, .unset] [(.int (2 : Int32)), (.int (0 : Int32))] := s17
      |>.icmpY at_30 (cmpT (cd := .le) (show (0 : Int) ≤ (1 : Int) from by decide)) (by decide) (by decide)
      |>.iload at_39 rfl rfl
      |>.iconst (2 : Int32) at_41 rfl rfl
    have s19 : Sit p l e _ s m _ below meth c _ st n0 2 10 _ 54 #[.val (.int x0), .val (.int x1), .val (.long x2), .second, .val (.long x3), .second, .val (.int x4), .val (.int (0 : Int32)), .val (.ref o), .unset, .unset, .unset, .unset, .unset, .unset, .unset, .unset] [(.int (3 : Int32)), (.int (0 : Int32))] := s18
      |>.icmpY at_42 (cmpT (cd := .le) (show (0 : Int) ≤ (2 : Int) from by decide)) (by decide) (by decide)
      |>.iload at_51 rfl rfl
      |>.iconst (3 : Int32) at_53 rfl rfl
    have s20 : Sit p l e _ s m _ below meth c _ st n0 2 10 _ 66 #[.val (.int x0), .val (.int x1), .val (.long x2), .second, .val (.long x3), .second, .val (.int x4), .val (.int (0 : Int32)), .val (.ref o), .unset, .unset, .unset, .unset, .unset, .unset, .unset, .unset] [(.int (4 : Int32)), (.int (0 : Int32))] := s19
      |>.icmpY at_54 (cmpT (cd := .le) (show (0 : Int) ≤ (3 : Int) from by decide)) (by decide) (by decide)
      |>.iload at_63 rfl rfl
      |>.iconst (4 : Int32) at_65 rfl rfl
    have s21 : Sit p l e _ s m _ below meth c _ st n0 2 10 _ 78 #[.val (.int x0), .val (.int x1), .val (.long x2), .second, .val (.long x3), .second, .val (.int x4), .val (.int (0 : Int32)), .val (.ref o), .unset, .unset, .unset, .unset, .unset, .unset, .unset, .unset] [(.int (5 : Int32)), (.int (0 : Int32))] := s20
      |>.icmpY at_66 (cmpT (cd := .le) (show (0 : Int) ≤ (4 : Int) from by decide)) (by decide) (by decide)
      |>.iload at_75 rfl rfl
      |>.iconst (5 : Int32) at_77 rfl rfl
    have s22 : Sit p l e _ s m _ below meth c _ st n0 2 10 _ 91 #[.val (.int x0), .val (.int x1), .val (.long x2), .second, .val (.long x3), .second, .val (.int x4), .val (.int (0 : Int32)), .val (.ref o), .unset, .unset, .unset, .unset, .unset, .unset, .unset, .unset] [(.int (6 : Int32)), (.int (0 : Int32))] := s21
      |>.icmpY at_78 (cmpT (cd := .le) (show (0 : Int) ≤ (5 : Int) from by decide)) (by decide) (by decide)
      |>.iload at_87 rfl rfl
      |>.bipush (6 : Int32) at_89 rfl rfl
    have s23 : Sit p l e _ s m _ below meth c _ st n0 2 10 _ 103 #[.val (.int x0), .val (.int x1), .val (.long x2), .second, .val (.long x3), .second, .val (.int x4), .val (.int (0 : Int32)), .val (.ref o), .unset, .unset, .unset, .unset, .unset, .unset, .unset, .unset] [(.long x2), (.ref o)] := s22
      |>.icmpY at_91 (cmpT (cd := .le) (show (0 : Int) ≤ (6 : Int) from by decide)) (by decide) (by decide)
      |>.aload at_100 rfl rfl
      |>.lloadN at_102 rfl rfl
    obtain ⟨r25, s24⟩ := Sit.callV (C := "reenact/trace/IntList") (y := (⟨"reenact/trace/IntList", "addWide", "(J)V"⟩ : MethodName)) (W := 0) (Q := fun rv_ hh => (rv_ = none) ∧ (fun hh => IL Z hh o v [(ushr64 x2 (32 : Int32)).toInt32, x2.toInt32] [0, 0, 0, 0, 0, 0]) hh) [(.long x2)] [] s23 hZ hown (wi hw 19 rfl) (wi hw 20 rfl) (wi hw 22 rfl) (wi hw 21 rfl) (wi hw 23 rfl) (wi hw 2 rfl) (by decide) (fun hh q => q.1) (fun h1 hP hn => (rmWnn l Z a0 hw [] o x2 v [] 0 0 [0, 0, 0, 0, 0, 0] h1 n0 hn g_o g_v hP (by simp)).mono fun rv_ hh q => q) hml rfl (lenOf pd_4 rfl) at_103 (Nat.le_of_eq rfl) (by decide) (by decide) (by decide) (by decide) (pc' := 106) rfl
    obtain ⟨_, er25, _⟩ := s24.facts
    subst er25
    have s26 : Sit p l e _ s m _ below meth c _ st n0 2 10 (fun hh => IL Z hh o v [(ushr64 x2 (32 : Int32)).toInt32, x2.toInt32] [0, 0, 0, 0, 0, 0]) 106 #[.val (.int x0), .val (.int x1), .val (.long x2), .second, .val (.long x3), .second, .val (.int x4), .val (.int (0 : Int32)), .val (.ref o), .unset, .unset, .unset, .unset, .unset, .unset, .unset, .unset] [] := s24.mono fun _ q => q.2
    have s27 : Sit p l e _ s m _ below meth c _ st n0 2 10 _ 110 #[.val (.int x0), .val (.int x1), .val (.long x2), .second, .val (.long x3), .second, .val (.int x4), .val (.int (0 : Int32)), .val (.ref o), .unset, .unset, .unset, .unset, .unset, .unset, .unset, .unset] [(.long x3), (.ref o)] := s26
      |>.aload at_106 rfl rfl
      |>.lload at_108 rfl rfl
    obtain ⟨r29, s28⟩ := Sit.callV (C := "reenact/trace/IntList") (y := (⟨"reenact/trace/IntList", "addWide", "(J)V"⟩ : MethodName)) (W := 0) (Q := fun rv_ hh => (rv_ = none) ∧ (fun hh => IL Z hh o v [(ushr64 x2 (32 : Int32)).toInt32, x2.toInt32, (ushr64 x3 (32 : Int32)).toInt32, x3.toInt32] [0, 0, 0, 0]) hh) [(.long x3)] [] s27 hZ hown (wi hw 19 rfl) (wi hw 20 rfl) (wi hw 22 rfl) (wi hw 21 rfl) (wi hw 23 rfl) (wi hw 2 rfl) (by decide) (fun hh q => q.1) (fun h1 hP hn => (rmWnn l Z a0 hw [] o x3 v [(ushr64 x2 (32 : Int32)).toInt32, x2.toInt32] 0 0 [0, 0, 0, 0] h1 n0 hn g_o g_v hP (by simp)).mono fun rv_ hh q => q) hml rfl (lenOf pd_4 rfl) at_110 (Nat.le_of_eq rfl) (by decide) (by decide) (by decide) (by decide) (pc' := 113) rfl
    obtain ⟨_, er29, _⟩ := s28.facts
    subst er29
    have s30 : Sit p l e _ s m _ below meth c _ st n0 2 10 (fun hh => IL Z hh o v [(ushr64 x2 (32 : Int32)).toInt32, x2.toInt32, (ushr64 x3 (32 : Int32)).toInt32, x3.toInt32] [0, 0, 0, 0]) 113 #[.val (.int x0), .val (.int x1), .val (.long x2), .second, .val (.long x3), .second, .val (.int x4), .val (.int (0 : Int32)), .val (.ref o), .unset, .unset, .unset, .unset, .unset, .unset, .unset, .unset] [] := s28.mono fun _ q => q.2
    have s31 : Sit p l e _ s m _ below meth c _ st n0 2 10 _ 116 #[.val (.int x0), .val (.int x1), .val (.long x2), .second, .val (.long x3), .second, .val (.int x4), .val (.int (0 : Int32)), .val (.ref o), .unset, .unset, .unset, .unset, .unset, .unset, .unset, .unset] [(.int x0), (.ref o)] := s30
      |>.aload at_113 rfl rfl
      |>.iloadN at_115 rfl rfl
    obtain ⟨r33, s32⟩ := Sit.callV (C := "reenact/trace/IntList") (y := (⟨"reenact/trace/IntList", "add", "(I)V"⟩ : MethodName)) (W := 0) (Q := fun rv_ hh => (rv_ = none) ∧ (fun hh => IL Z hh o v [(ushr64 x2 (32 : Int32)).toInt32, x2.toInt32, (ushr64 x3 (32 : Int32)).toInt32, x3.toInt32, x0] [0, 0, 0]) hh) [(.int x0)] [] s31 hZ hown (wi hw 12 rfl) (wi hw 13 rfl) (wi hw 15 rfl) (wi hw 14 rfl) (wi hw 16 rfl) (wi hw 2 rfl) (by decide) (fun hh q => q.1) (fun h1 hP hn => (rmAdd l Z a0 hw [] o x0 v [(ushr64 x2 (32 : Int32)).toInt32, x2.toInt32, (ushr64 x3 (32 : Int32)).toInt32, x3.toInt32] 0 [0, 0, 0] h1 n0 hn g_o g_v hP (by simp)).mono fun rv_ hh q => q) hml rfl (lenOf pd_2 rfl) at_116 (Nat.le_of_eq rfl) (by decide) (by decide) (by decide) (by decide) (pc' := 119) rfl
    obtain ⟨_, er33, _⟩ := s32.facts
    subst er33
    have s34 : Sit p l e _ s m _ below meth c _ st n0 2 10 (fun hh => IL Z hh o v [(ushr64 x2 (32 : Int32)).toInt32, x2.toInt32, (ushr64 x3 (32 : Int32)).toInt32, x3.toInt32, x0] [0, 0, 0]) 119 #[.val (.int x0), .val (.int x1), .val (.long x2), .second, .val (.long x3), .second, .val (.int x4), .val (.int (0 : Int32)), .val (.ref o), .unset, .unset, .unset, .unset, .unset, .unset, .unset, .unset] [] := s32.mono fun _ q => q.2
    have s35 : Sit p l e _ s m _ below meth c _ st n0 2 10 _ 122 #[.val (.int x0), .val (.int x1), .val (.long x2), .second, .val (.long x3), .second, .val (.int x4), .val (.int (0 : Int32)), .val (.ref o), .unset, .unset, .unset, .unset, .unset, .unset, .unset, .unset] [(.int x1), (.ref o)] := s34
      |>.aload at_119 rfl rfl
      |>.iloadN at_121 rfl rfl
    obtain ⟨r37, s36⟩ := Sit.callV (C := "reenact/trace/IntList") (y := (⟨"reenact/trace/IntList", "add", "(I)V"⟩ : MethodName)) (W := 0) (Q := fun rv_ hh => (rv_ = none) ∧ (fun hh => IL Z hh o v [(ushr64 x2 (32 : Int32)).toInt32, x2.toInt32, (ushr64 x3 (32 : Int32)).toInt32, x3.toInt32, x0, x1] [0, 0]) hh) [(.int x1)] [] s35 hZ hown (wi hw 12 rfl) (wi hw 13 rfl) (wi hw 15 rfl) (wi hw 14 rfl) (wi hw 16 rfl) (wi hw 2 rfl) (by decide) (fun hh q => q.1) (fun h1 hP hn => (rmAdd l Z a0 hw [] o x1 v [(ushr64 x2 (32 : Int32)).toInt32, x2.toInt32, (ushr64 x3 (32 : Int32)).toInt32, x3.toInt32, x0] 0 [0, 0] h1 n0 hn g_o g_v hP (by simp)).mono fun rv_ hh q => q) hml rfl (lenOf pd_2 rfl) at_122 (Nat.le_of_eq rfl) (by decide) (by decide) (by decide) (by decide) (pc' := 125) rfl
    obtain ⟨_, er37, _⟩ := s36.facts
    subst er37
    have s38 : Sit p l e _ s m _ below meth c _ st n0 2 10 (fun hh => IL Z hh o v [(ushr64 x2 (32 : Int32)).toInt32, x2.toInt32, (ushr64 x3 (32 : Int32)).toInt32, x3.toInt32, x0, x1] [0, 0]) 125 #[.val (.int x0), .val (.int x1), .val (.long x2), .second, .val (.long x3), .second, .val (.int x4), .val (.int (0 : Int32)), .val (.ref o), .unset, .unset, .unset, .unset, .unset, .unset, .unset, .unset] [] := s36.mono fun _ q => q.2
    have s39 : Sit p l e _ s m _ below meth c _ st n0 2 10 _ 129 #[.val (.int x0), .val (.int x1), .val (.long x2), .second, .val (.long x3), .second, .val (.int x4), .val (.int (0 : Int32)), .val (.ref o), .unset, .unset, .unset, .unset, .unset, .unset, .unset, .unset] [(.int (0 : Int32)), (.ref o)] := s38
      |>.aload at_125 rfl rfl
      |>.iload at_127 rfl rfl
    obtain ⟨r41, s40⟩ := Sit.callV (C := "reenact/trace/IntList") (y := (⟨"reenact/trace/IntList", "getWide", "(I)J"⟩ : MethodName)) (W := 0) (Q := fun rv_ hh => (rv_ = some (.long (wide2 (ushr64 x2 (32 : Int32)).toInt32 x2.toInt32))) ∧ (fun hh => IL Z hh o v [(ushr64 x2 (32 : Int32)).toInt32, x2.toInt32, (ushr64 x3 (32 : Int32)).toInt32, x3.toInt32, x0, x1] [0, 0]) hh) [(.int (0 : Int32))] [] s39 hZ hown (wi hw 25 rfl) (wi hw 26 rfl) (wi hw 28 rfl) (wi hw 27 rfl) (wi hw 29 rfl) (wi hw 2 rfl) (by decide) (fun hh q => q.1) (fun h1 hP hn => (rmGet l Z a0 hw [] o (0 : Int32) v [(ushr64 x2 (32 : Int32)).toInt32, x2.toInt32, (ushr64 x3 (32 : Int32)).toInt32, x3.toInt32, x0, x1] [0, 0] 0 (ushr64 x2 (32 : Int32)).toInt32 x2.toInt32 h1 n0 hn hP rfl (by decide) rfl rfl).mono fun rv_ hh q => ⟨q.1, q.2 ▸ hP⟩) hml rfl (lenOf pd_5 rfl) at_129 (Nat.le_of_eq rfl) (by decide) (by decide) (by decide) (by decide) (pc' := 132) rfl
    obtain ⟨_, er41, _⟩ := s40.facts
    subst er41
    have s42 : Sit p l e _ s m _ below meth c _ st n0 2 10 (fun hh => IL Z hh o v [(ushr64 x2 (32 : Int32)).toInt32, x2.toInt32, (ushr64 x3 (32 : Int32)).toInt32, x3.toInt32, x0, x1] [0, 0]) 132 #[.val (.int x0), .val (.int x1), .val (.long x2), .second, .val (.long x3), .second, .val (.int x4), .val (.int (0 : Int32)), .val (.ref o), .unset, .unset, .unset, .unset, .unset, .unset, .unset, .unset] [(.long (wide2 (ushr64 x2 (32 : Int32)).toInt32 x2.toInt32))] := s40.mono fun _ q => q.2
    have s43 : Sit p l e _ s m _ below meth c _ st n0 2 10 _ 140 #[.val (.int x0), .val (.int x1), .val (.long x2), .second, .val (.long x3), .second, .val (.int x4), .val (.int (0 : Int32)), .val (.ref o), .val (.long (wide2 (ushr64 x2 (32 : Int32)).toInt32 x2.toInt32)), .second, .unset, .unset, .unset, .unset, .unset, .unset] [(.int ((0 : Int32) + (2 : Int32))), (.ref o)] := s42
      |>.lstore #[.val (.int x0), .val (.int x1), .val (.long x2), .second, .val (.long x3), .second, .val (.int x4), .val (.int (0 : Int32)), .val (.ref o), .val (.long (wide2 (ushr64 x2 (32 : Int32)).toInt32 x2.toInt32)), .second, .unset, .unset, .unset, .unset, .unset, .unset] at_132 rfl rfl
      |>.aload at_134 rfl rfl
      |>.iload at_136 rfl rfl
      |>.iconst (2 : Int32) at_138 rfl rfl
      |>.iadd at_139 rfl
    obtain ⟨r45, s44⟩ := Sit.callV (C := "reenact/trace/IntList") (y := (⟨"reenact/trace/IntList", "getWide", "(I)J"⟩ : MethodName)) (W := 0) (Q := fun rv_ hh => (rv_ = some (.long (wide2 (ushr64 x3 (32 : Int32)).toInt32 x3.toInt32))) ∧ (fun hh => IL Z hh o v [(ushr64 x2 (32 : Int32)).toInt32, x2.toInt32, (ushr64 x3 (32 : Int32)).toInt32, x3.toInt32, x0, x1] [0, 0]) hh) [(.int ((0 : Int32) + (2 : Int32)))] [] s43 hZ hown (wi hw 25 rfl) (wi hw 26 rfl) (wi hw 28 rfl) (wi hw 27 rfl) (wi hw 29 rfl) (wi hw 2 rfl) (by decide) (fun hh q => q.1) (fun h1 hP hn => (rmGet l Z a0 hw [] o ((0 : Int32) + (2 : Int32)) v [(ushr64 x2 (32 : Int32)).toInt32, x2.toInt32, (ushr64 x3 (32 : Int32)).toInt32, x3.toInt32, x0, x1] [0, 0] 2 (ushr64 x3 (32 : Int32)).toInt32 x3.toInt32 h1 n0 hn hP rfl (by decide) rfl rfl).mono fun rv_ hh q => ⟨q.1, q.2 ▸ hP⟩) hml rfl (lenOf pd_5 rfl) at_140 (Nat.le_of_eq rfl) (by decide) (by decide) (by decide) (by decide) (pc' := 143) rfl
    obtain ⟨_, er45, _⟩ := s44.facts
    subst er45
    have s46 : Sit p l e _ s m _ below meth c _ st n0 2 10 (fun hh => IL Z hh o v [(ushr64 x2 (32 : Int32)).toInt32, x2.toInt32, (ushr64 x3 (32 : Int32)).toInt32, x3.toInt32, x0, x1] [0, 0]) 143 #[.val (.int x0), .val (.int x1), .val (.long x2), .second, .val (.long x3), .second, .val (.int x4), .val (.int (0 : Int32)), .val (.ref o), .val (.long (wide2 (ushr64 x2 (32 : Int32)).toInt32 x2.toInt32)), .second, .unset, .unset, .unset, .unset, .unset, .unset] [(.long (wide2 (ushr64 x3 (32 : Int32)).toInt32 x3.toInt32))] := s44.mono fun _ q => q.2
    have s47 : Sit p l e _ s m _ below meth c _ st n0 2 10 _ 151 #[.val (.int x0), .val (.int x1), .val (.long x2), .second, .val (.long x3), .second, .val (.int x4), .val (.int (0 : Int32)), .val (.ref o), .val (.long (wide2 (ushr64 x2 (32 : Int32)).toInt32 x2.toInt32)), .second, .val (.long (wide2 (ushr64 x3 (32 : Int32)).toInt32 x3.toInt32)), .second, .unset, .unset, .unset, .unset] [(.int ((0 : Int32) + (4 : Int32))), (.ref o)] := s46
      |>.lstore #[.val (.int x0), .val (.int x1), .val (.long x2), .second, .val (.long x3), .second, .val (.int x4), .val (.int (0 : Int32)), .val (.ref o), .val (.long (wide2 (ushr64 x2 (32 : Int32)).toInt32 x2.toInt32)), .second, .val (.long (wide2 (ushr64 x3 (32 : Int32)).toInt32 x3.toInt32)), .second, .unset, .unset, .unset, .unset] at_143 rfl rfl
      |>.aload at_145 rfl rfl
      |>.iload at_147 rfl rfl
      |>.iconst (4 : Int32) at_149 rfl rfl
      |>.iadd at_150 rfl
    obtain ⟨r49, s48⟩ := Sit.callV (C := "reenact/trace/IntList") (y := (⟨"reenact/trace/IntList", "getWide", "(I)J"⟩ : MethodName)) (W := 0) (Q := fun rv_ hh => (rv_ = some (.long (wide2 x0 x1))) ∧ (fun hh => IL Z hh o v [(ushr64 x2 (32 : Int32)).toInt32, x2.toInt32, (ushr64 x3 (32 : Int32)).toInt32, x3.toInt32, x0, x1] [0, 0]) hh) [(.int ((0 : Int32) + (4 : Int32)))] [] s47 hZ hown (wi hw 25 rfl) (wi hw 26 rfl) (wi hw 28 rfl) (wi hw 27 rfl) (wi hw 29 rfl) (wi hw 2 rfl) (by decide) (fun hh q => q.1) (fun h1 hP hn => (rmGet l Z a0 hw [] o ((0 : Int32) + (4 : Int32)) v [(ushr64 x2 (32 : Int32)).toInt32, x2.toInt32, (ushr64 x3 (32 : Int32)).toInt32, x3.toInt32, x0, x1] [0, 0] 4 x0 x1 h1 n0 hn hP rfl (by decide) rfl rfl).mono fun rv_ hh q => ⟨q.1, q.2 ▸ hP⟩) hml rfl (lenOf pd_5 rfl) at_151 (Nat.le_of_eq rfl) (by decide) (by decide) (by decide) (by decide) (pc' := 154) rfl
    obtain ⟨_, er49, _⟩ := s48.facts
    subst er49
    have s50 : Sit p l e _ s m _ below meth c _ st n0 2 10 (fun hh => IL Z hh o v [(ushr64 x2 (32 : Int32)).toInt32, x2.toInt32, (ushr64 x3 (32 : Int32)).toInt32, x3.toInt32, x0, x1] [0, 0]) 154 #[.val (.int x0), .val (.int x1), .val (.long x2), .second, .val (.long x3), .second, .val (.int x4), .val (.int (0 : Int32)), .val (.ref o), .val (.long (wide2 (ushr64 x2 (32 : Int32)).toInt32 x2.toInt32)), .second, .val (.long (wide2 (ushr64 x3 (32 : Int32)).toInt32 x3.toInt32)), .second, .unset, .unset, .unset, .unset] [(.long (wide2 x0 x1))] := s48.mono fun _ q => q.2
    have s51 : Sit p l e _ s m _ below meth c _ st n0 2 10 _ 163 #[.val (.int x0), .val (.int x1), .val (.long x2), .second, .val (.long x3), .second, .val (.int x4), .val (.int (0 : Int32)), .val (.ref o), .val (.long (wide2 (ushr64 x2 (32 : Int32)).toInt32 x2.toInt32)), .second, .val (.long (wide2 (ushr64 x3 (32 : Int32)).toInt32 x3.toInt32)), .second, .val (.long (wide2 x0 x1)), .second, .unset, .unset] [(.int x0), (.int (ushr64 (wide2 x0 x1) (32 : Int32)).toInt32)] := s50
      |>.lstore #[.val (.int x0), .val (.int x1), .val (.long x2), .second, .val (.long x3), .second, .val (.int x4), .val (.int (0 : Int32)), .val (.ref o), .val (.long (wide2 (ushr64 x2 (32 : Int32)).toInt32 x2.toInt32)), .second, .val (.long (wide2 (ushr64 x3 (32 : Int32)).toInt32 x3.toInt32)), .second, .val (.long (wide2 x0 x1)), .second, .unset, .unset] at_154 rfl rfl
      |>.lload at_156 rfl rfl
      |>.bipush (32 : Int32) at_158 rfl rfl
      |>.lushr at_160 rfl
      |>.l2i at_161 rfl
      |>.iloadN at_162 rfl rfl
    have s52 : Sit p l e _ s m _ below meth c _ st n0 2 10 _ 177 #[.val (.int x0), .val (.int x1), .val (.long x2), .second, .val (.long x3), .second, .val (.int x4), .val (.int (0 : Int32)), .val (.ref o), .val (.long (wide2 (ushr64 x2 (32 : Int32)).toInt32 x2.toInt32)), .second, .val (.long (wide2 (ushr64 x3 (32 : Int32)).toInt32 x3.toInt32)), .second, .val (.long (wide2 x0 x1)), .second, .val (.int (1 : Int32)), .unset] [(.int x1), (.int (wide2 x0 x1).toInt32)] := s51
      |>.icmpN at_163 ((neF (Classical.not_not.mp (show ¬ (¬ (ushr64 (wide2 x0 x1) (32 : Int32)).toInt32 = x0) from fun h => h (wide_hi x0 x1))))) rfl
      |>.iconst (1 : Int32) at_166 rfl rfl
      |>.goto at_167 (by decide) (by decide)
      |>.istore #[.val (.int x0), .val (.int x1), .val (.long x2), .second, .val (.long x3), .second, .val (.int x4), .val (.int (0 : Int32)), .val (.ref o), .val (.long (wide2 (ushr64 x2 (32 : Int32)).toInt32 x2.toInt32)), .second, .val (.long (wide2 (ushr64 x3 (32 : Int32)).toInt32 x3.toInt32)), .second, .val (.long (wide2 x0 x1)), .second, .val (.int (1 : Int32)), .unset] at_171 rfl rfl
      |>.lload at_173 rfl rfl
      |>.l2i at_175 rfl
      |>.iloadN at_176 rfl rfl
    have s53 : Sit p l e _ s m _ below meth c _ st n0 2 10 _ 191 #[.val (.int x0), .val (.int x1), .val (.long x2), .second, .val (.long x3), .second, .val (.int x4), .val (.int (0 : Int32)), .val (.ref o), .val (.long (wide2 (ushr64 x2 (32 : Int32)).toInt32 x2.toInt32)), .second, .val (.long (wide2 (ushr64 x3 (32 : Int32)).toInt32 x3.toInt32)), .second, .val (.long (wide2 x0 x1)), .second, .val (.int (1 : Int32)), .val (.int (1 : Int32))] [(.int (lcmp3 (wide2 (ushr64 x2 (32 : Int32)).toInt32 x2.toInt32) x2))] := s52
      |>.icmpN at_177 ((neF (Classical.not_not.mp (show ¬ (¬ (wide2 x0 x1).toInt32 = x1) from fun h => h (wide_lo x0 x1))))) rfl
      |>.iconst (1 : Int32) at_180 rfl rfl
      |>.goto at_181 (by decide) (by decide)
      |>.istore #[.val (.int x0), .val (.int x1), .val (.long x2), .second, .val (.long x3), .second, .val (.int x4), .val (.int (0 : Int32)), .val (.ref o), .val (.long (wide2 (ushr64 x2 (32 : Int32)).toInt32 x2.toInt32)), .second, .val (.long (wide2 (ushr64 x3 (32 : Int32)).toInt32 x3.toInt32)), .second, .val (.long (wide2 x0 x1)), .second, .val (.int (1 : Int32)), .val (.int (1 : Int32))] at_185 rfl rfl
      |>.lload at_187 rfl rfl
      |>.lloadN at_189 rfl rfl
      |>.lcmp at_190 rfl
    have s54 : Sit p l e _ s m _ below meth c _ st n0 2 10 _ 199 #[.val (.int x0), .val (.int x1), .val (.long x2), .second, .val (.long x3), .second, .val (.int x4), .val (.int (0 : Int32)), .val (.ref o), .val (.long (wide2 (ushr64 x2 (32 : Int32)).toInt32 x2.toInt32)), .second, .val (.long (wide2 (ushr64 x3 (32 : Int32)).toInt32 x3.toInt32)), .second, .val (.long (wide2 x0 x1)), .second, .val (.int (1 : Int32)), .val (.int (1 : Int32))] [(.int (lcmp3 (wide2 (ushr64 x3 (32 : Int32)).toInt32 x3.toInt32) x3))] := s53
      |>.ifN at_191 (lcF (cd := .ne) (show ¬ (¬ (wide2 (ushr64 x2 (32 : Int32)).toInt32 x2.toInt32) = x2) from fun h => h (wide_back x2))) rfl
      |>.lload at_194 rfl rfl
      |>.lload at_196 rfl rfl
      |>.lcmp at_198 rfl
    have s55 : Sit p l e _ s m _ below meth c _ st n0 2 10 _ 204 #[.val (.int x0), .val (.int x1), .val (.long x2), .second, .val (.long x3), .second, .val (.int x4), .val (.int (0 : Int32)), .val (.ref o), .val (.long (wide2 (ushr64 x2 (32 : Int32)).toInt32 x2.toInt32)), .second, .val (.long (wide2 (ushr64 x3 (32 : Int32)).toInt32 x3.toInt32)), .second, .val (.long (wide2 x0 x1)), .second, .val (.int (1 : Int32)), .val (.int (1 : Int32))] [(.int (1 : Int32))] := s54
      |>.ifN at_199 (lcF (cd := .ne) (show ¬ (¬ (wide2 (ushr64 x3 (32 : Int32)).toInt32 x3.toInt32) = x3) from fun h => h (wide_back x3))) rfl
      |>.iload at_202 rfl rfl
    have s56 : Sit p l e _ s m _ below meth c _ st n0 2 10 _ 209 #[.val (.int x0), .val (.int x1), .val (.long x2), .second, .val (.long x3), .second, .val (.int x4), .val (.int (0 : Int32)), .val (.ref o), .val (.long (wide2 (ushr64 x2 (32 : Int32)).toInt32 x2.toInt32)), .second, .val (.long (wide2 (ushr64 x3 (32 : Int32)).toInt32 x3.toInt32)), .second, .val (.long (wide2 x0 x1)), .second, .val (.int (1 : Int32)), .val (.int (1 : Int32))] [(.int (1 : Int32))] := s55
      |>.ifN at_204 (eqF (show ¬ ((1 : Int32) = 0) from by decide)) rfl
      |>.iload at_207 rfl rfl
    have s57 : Sit p l e _ s m _ below meth c _ st n0 2 10 _ 214 #[.val (.int x0), .val (.int x1), .val (.long x2), .second, .val (.long x3), .second, .val (.int x4), .val (.int (0 : Int32)), .val (.ref o), .val (.long (wide2 (ushr64 x2 (32 : Int32)).toInt32 x2.toInt32)), .second, .val (.long (wide2 (ushr64 x3 (32 : Int32)).toInt32 x3.toInt32)), .second, .val (.long (wide2 x0 x1)), .second, .val (.int (1 : Int32)), .val (.int (1 : Int32))] [(.ref o)] := s56
      |>.ifN at_209 (eqF (show ¬ ((1 : Int32) = 0) from by decide)) rfl
      |>.aload at_212 rfl rfl
    obtain ⟨r59, s58⟩ := Sit.callV (C := "reenact/trace/IntList") (y := (⟨"reenact/trace/IntList", "size", "()I"⟩ : MethodName)) (W := 0) (Q := fun rv_ hh => (rv_ = some (.int (Int32.ofNat 6))) ∧ (fun hh => IL Z hh o v [(ushr64 x2 (32 : Int32)).toInt32, x2.toInt32, (ushr64 x3 (32 : Int32)).toInt32, x3.toInt32, x0, x1] [0, 0]) hh) [] [] s57 hZ hown (wi hw 31 rfl) (wi hw 32 rfl) (wi hw 34 rfl) (wi hw 33 rfl) (wi hw 35 rfl) (wi hw 2 rfl) (by decide) (fun hh q => q.1) (fun h1 hP hn => (rmSize l Z a0 hw [] o v [(ushr64 x2 (32 : Int32)).toInt32, x2.toInt32, (ushr64 x3 (32 : Int32)).toInt32, x3.toInt32, x0, x1] [0, 0] h1 n0 hn hP).mono fun rv_ hh q => ⟨q.1, q.2 ▸ hP⟩) hml rfl (lenOf pd_6 rfl) at_214 (Nat.le_of_eq rfl) (by decide) (by decide) (by decide) (by decide) (pc' := 217) rfl
    obtain ⟨_, er59, _⟩ := s58.facts
    subst er59
    have s60 : Sit p l e _ s m _ below meth c _ st n0 2 10 (fun hh => IL Z hh o v [(ushr64 x2 (32 : Int32)).toInt32, x2.toInt32, (ushr64 x3 (32 : Int32)).toInt32, x3.toInt32, x0, x1] [0, 0]) 217 #[.val (.int x0), .val (.int x1), .val (.long x2), .second, .val (.long x3), .second, .val (.int x4), .val (.int (0 : Int32)), .val (.ref o), .val (.long (wide2 (ushr64 x2 (32 : Int32)).toInt32 x2.toInt32)), .second, .val (.long (wide2 (ushr64 x3 (32 : Int32)).toInt32 x3.toInt32)), .second, .val (.long (wide2 x0 x1)), .second, .val (.int (1 : Int32)), .val (.int (1 : Int32))] [(.int (Int32.ofNat 6))] := s58.mono fun _ q => q.2
    have s61 : Sit p l e _ s m _ below meth c _ st n0 2 10 _ 222 #[.val (.int x0), .val (.int x1), .val (.long x2), .second, .val (.long x3), .second, .val (.int x4), .val (.int (0 : Int32)), .val (.ref o), .val (.long (wide2 (ushr64 x2 (32 : Int32)).toInt32 x2.toInt32)), .second, .val (.long (wide2 (ushr64 x3 (32 : Int32)).toInt32 x3.toInt32)), .second, .val (.long (wide2 x0 x1)), .second, .val (.int (1 : Int32)), .val (.int (1 : Int32))] [(.int ((0 : Int32) + (6 : Int32))), (.int (Int32.ofNat 6))] := s60
      |>.iload at_217 rfl rfl
      |>.bipush (6 : Int32) at_219 rfl rfl
      |>.iadd at_221 rfl
    have s62 : Sit p l e _ s m _ below meth c _ st n0 2 10 _ 230 #[.val (.int x0), .val (.int x1), .val (.long x2), .second, .val (.long x3), .second, .val (.int x4), .val (.int (0 : Int32)), .val (.ref o), .val (.long (wide2 (ushr64 x2 (32 : Int32)).toInt32 x2.toInt32)), .second, .val (.long (wide2 (ushr64 x3 (32 : Int32)).toInt32 x3.toInt32)), .second, .val (.long (wide2 x0 x1)), .second, .val (.int (1 : Int32)), .val (.int (1 : Int32))] [(.int (1 : Int32))] := s61
      |>.icmpN at_222 ((neF (Classical.not_not.mp (show ¬ (¬ (Int32.ofNat 6) = ((0 : Int32) + (6 : Int32))) from by decide)))) rfl
      |>.iconst (1 : Int32) at_225 rfl rfl
      |>.goto at_226 (by decide) (by decide)
    exact (s62.bound (by decide) (by decide)).retZ at_230 hret hlk (fun hh q => rfl)
  · have s63 : Sit p l e _ s m _ below meth c _ st n0 2 10 (fun hh => IL Z hh o v [] [0, 0, 0, 0, 0, 0, 0, 0]) 16 #[.val (.int x0), .val (.int x1), .val (.long x2), .second, .val (.long x3), .second, .val (.int x4), .val (.int (1 : Int32)), .val (.ref o), .unset, .unset, .unset, .unset, .unset, .unset, .unset, .unset] [] := s14
    have s64 : Sit p l e _ s m _ below meth c _ st n0 2 10 _ 18 #[.val (.int x0), .val (.int x1), .val (.long x2), .second, .val (.long x3), .second, .val (.int x4), .val (.int (1 : Int32)), .val (.ref o), .unset, .unset, .unset, .unset, .unset, .unset, .unset, .unset] [(.int (1 : Int32))] := s63
      |>.iload at_16 rfl rfl
    have s65 : Sit p l e _ s m _ below meth c _ st n0 2 10 _ 24 #[.val (.int x0), .val (.int x1), .val (.long x2), .second, .val (.long x3), .second, .val (.int x4), .val (.int (1 : Int32)), .val (.ref o), .unset, .unset, .unset, .unset, .unset, .unset, .unset, .unset] [(.int x0), (.ref o)] := s64
      |>.ifN at_18 (cmpF0 (cd := .le) (show ¬ ((1 : Int) ≤ 0) from by decide)) rfl
      |>.aload at_21 rfl rfl
      |>.iloadN at_23 rfl rfl
    obtain ⟨r67, s66⟩ := Sit.callV (C := "reenact/trace/IntList") (y := (⟨"reenact/trace/IntList", "add", "(I)V"⟩ : MethodName)) (W := 0) (Q := fun rv_ hh => (rv_ = none) ∧ (fun hh => IL Z hh o v [x0] [0, 0, 0, 0, 0, 0, 0]) hh) [(.int x0)] [] s65 hZ hown (wi hw 12 rfl) (wi hw 13 rfl) (wi hw 15 rfl) (wi hw 14 rfl) (wi hw 16 rfl) (wi hw 2 rfl) (by decide) (fun hh q => q.1) (fun h1 hP hn => (rmAdd l Z a0 hw [] o x0 v [] 0 [0, 0, 0, 0, 0, 0, 0] h1 n0 hn g_o g_v hP (by simp)).mono fun rv_ hh q => q) hml rfl (lenOf pd_2 rfl) at_24 (Nat.le_of_eq rfl) (by decide) (by decide) (by decide) (by decide) (pc' := 27) rfl
    obtain ⟨_, er67, _⟩ := s66.facts
    subst er67
    have s68 : Sit p l e _ s m _ below meth c _ st n0 2 10 (fun hh => IL Z hh o v [x0] [0, 0, 0, 0, 0, 0, 0]) 27 #[.val (.int x0), .val (.int x1), .val (.long x2), .second, .val (.long x3), .second, .val (.int x4), .val (.int (1 : Int32)), .val (.ref o), .unset, .unset, .unset, .unset, .unset, .unset, .unset, .unset] [] := s66.mono fun _ q => q.2
    have s69 : Sit p l e _ s m _ below meth c _ st n0 2 10 _ 30 #[.val (.int x0), .val (.int x1), .val (.long x2), .second, .val (.long x3), .second, .val (.int x4), .val (.int (1 : Int32)), .val (.ref o), .unset, .unset, .unset, .unset, .unset, .unset, .unset, .unset] [(.int (1 : Int32)), (.int (1 : Int32))] := s68
      |>.iload at_27 rfl rfl
      |>.iconst (1 : Int32) at_29 rfl rfl
    have s70 : Sit p l e _ s m _ below meth c _ st n0 2 10 _ 42 #[.val (.int x0), .val (.int x1), .val (.long x2), .second, .val (.long x3), .second, .val (.int x4), .val (.int (1 : Int32)), .val (.ref o), .unset, .unset, .unset, .unset, .unset, .unset, .unset, .unset] [(.int (2 : Int32)), (.int (1 : Int32))] := s69
      |>.icmpY at_30 (cmpT (cd := .le) (show (1 : Int) ≤ (1 : Int) from by decide)) (by decide) (by decide)
      |>.iload at_39 rfl rfl
      |>.iconst (2 : Int32) at_41 rfl rfl
    have s71 : Sit p l e _ s m _ below meth c _ st n0 2 10 _ 54 #[.val (.int x0), .val (.int x1), .val (.long x2), .second, .val (.long x3), .second, .val (.int x4), .val (.int (1 : Int32)), .val (.ref o), .unset, .unset, .unset, .unset, .unset, .unset, .unset, .unset] [(.int (3 : Int32)), (.int (1 : Int32))] := s70
      |>.icmpY at_42 (cmpT (cd := .le) (show (1 : Int) ≤ (2 : Int) from by decide)) (by decide) (by decide)
      |>.iload at_51 rfl rfl
      |>.iconst (3 : Int32) at_53 rfl rfl
    have s72 : Sit p l e _ s m _ below meth c _ st n0 2 10 _ 66 #[.val (.int x0), .val (.int x1), .val (.long x2), .second, .val (.long x3), .second, .val (.int x4), .val (.int (1 : Int32)), .val (.ref o), .unset, .unset, .unset, .unset, .unset, .unset, .unset, .unset] [(.int (4 : Int32)), (.int (1 : Int32))] := s71
      |>.icmpY at_54 (cmpT (cd := .le) (show (1 : Int) ≤ (3 : Int) from by decide)) (by decide) (by decide)
      |>.iload at_63 rfl rfl
      |>.iconst (4 : Int32) at_65 rfl rfl
    have s73 : Sit p l e _ s m _ below meth c _ st n0 2 10 _ 78 #[.val (.int x0), .val (.int x1), .val (.long x2), .second, .val (.long x3), .second, .val (.int x4), .val (.int (1 : Int32)), .val (.ref o), .unset, .unset, .unset, .unset, .unset, .unset, .unset, .unset] [(.int (5 : Int32)), (.int (1 : Int32))] := s72
      |>.icmpY at_66 (cmpT (cd := .le) (show (1 : Int) ≤ (4 : Int) from by decide)) (by decide) (by decide)
      |>.iload at_75 rfl rfl
      |>.iconst (5 : Int32) at_77 rfl rfl
    have s74 : Sit p l e _ s m _ below meth c _ st n0 2 10 _ 91 #[.val (.int x0), .val (.int x1), .val (.long x2), .second, .val (.long x3), .second, .val (.int x4), .val (.int (1 : Int32)), .val (.ref o), .unset, .unset, .unset, .unset, .unset, .unset, .unset, .unset] [(.int (6 : Int32)), (.int (1 : Int32))] := s73
      |>.icmpY at_78 (cmpT (cd := .le) (show (1 : Int) ≤ (5 : Int) from by decide)) (by decide) (by decide)
      |>.iload at_87 rfl rfl
      |>.bipush (6 : Int32) at_89 rfl rfl
    have s75 : Sit p l e _ s m _ below meth c _ st n0 2 10 _ 103 #[.val (.int x0), .val (.int x1), .val (.long x2), .second, .val (.long x3), .second, .val (.int x4), .val (.int (1 : Int32)), .val (.ref o), .unset, .unset, .unset, .unset, .unset, .unset, .unset, .unset] [(.long x2), (.ref o)] := s74
      |>.icmpY at_91 (cmpT (cd := .le) (show (1 : Int) ≤ (6 : Int) from by decide)) (by decide) (by decide)
      |>.aload at_100 rfl rfl
      |>.lloadN at_102 rfl rfl
    obtain ⟨r77, s76⟩ := Sit.callV (C := "reenact/trace/IntList") (y := (⟨"reenact/trace/IntList", "addWide", "(J)V"⟩ : MethodName)) (W := 0) (Q := fun rv_ hh => (rv_ = none) ∧ (fun hh => IL Z hh o v [x0, (ushr64 x2 (32 : Int32)).toInt32, x2.toInt32] [0, 0, 0, 0, 0]) hh) [(.long x2)] [] s75 hZ hown (wi hw 19 rfl) (wi hw 20 rfl) (wi hw 22 rfl) (wi hw 21 rfl) (wi hw 23 rfl) (wi hw 2 rfl) (by decide) (fun hh q => q.1) (fun h1 hP hn => (rmWnn l Z a0 hw [] o x2 v [x0] 0 0 [0, 0, 0, 0, 0] h1 n0 hn g_o g_v hP (by simp)).mono fun rv_ hh q => q) hml rfl (lenOf pd_4 rfl) at_103 (Nat.le_of_eq rfl) (by decide) (by decide) (by decide) (by decide) (pc' := 106) rfl
    obtain ⟨_, er77, _⟩ := s76.facts
    subst er77
    have s78 : Sit p l e _ s m _ below meth c _ st n0 2 10 (fun hh => IL Z hh o v [x0, (ushr64 x2 (32 : Int32)).toInt32, x2.toInt32] [0, 0, 0, 0, 0]) 106 #[.val (.int x0), .val (.int x1), .val (.long x2), .second, .val (.long x3), .second, .val (.int x4), .val (.int (1 : Int32)), .val (.ref o), .unset, .unset, .unset, .unset, .unset, .unset, .unset, .unset] [] := s76.mono fun _ q => q.2
    have s79 : Sit p l e _ s m _ below meth c _ st n0 2 10 _ 110 #[.val (.int x0), .val (.int x1), .val (.long x2), .second, .val (.long x3), .second, .val (.int x4), .val (.int (1 : Int32)), .val (.ref o), .unset, .unset, .unset, .unset, .unset, .unset, .unset, .unset] [(.long x3), (.ref o)] := s78
      |>.aload at_106 rfl rfl
      |>.lload at_108 rfl rfl
    obtain ⟨r81, s80⟩ := Sit.callV (C := "reenact/trace/IntList") (y := (⟨"reenact/trace/IntList", "addWide", "(J)V"⟩ : MethodName)) (W := 0) (Q := fun rv_ hh => (rv_ = none) ∧ (fun hh => IL Z hh o v [x0, (ushr64 x2 (32 : Int32)).toInt32, x2.toInt32, (ushr64 x3 (32 : Int32)).toInt32, x3.toInt32] [0, 0, 0]) hh) [(.long x3)] [] s79 hZ hown (wi hw 19 rfl) (wi hw 20 rfl) (wi hw 22 rfl) (wi hw 21 rfl) (wi hw 23 rfl) (wi hw 2 rfl) (by decide) (fun hh q => q.1) (fun h1 hP hn => (rmWnn l Z a0 hw [] o x3 v [x0, (ushr64 x2 (32 : Int32)).toInt32, x2.toInt32] 0 0 [0, 0, 0] h1 n0 hn g_o g_v hP (by simp)).mono fun rv_ hh q => q) hml rfl (lenOf pd_4 rfl) at_110 (Nat.le_of_eq rfl) (by decide) (by decide) (by decide) (by decide) (pc' := 113) rfl
    obtain ⟨_, er81, _⟩ := s80.facts
    subst er81
    have s82 : Sit p l e _ s m _ below meth c _ st n0 2 10 (fun hh => IL Z hh o v [x0, (ushr64 x2 (32 : Int32)).toInt32, x2.toInt32, (ushr64 x3 (32 : Int32)).toInt32, x3.toInt32] [0, 0, 0]) 113 #[.val (.int x0), .val (.int x1), .val (.long x2), .second, .val (.long x3), .second, .val (.int x4), .val (.int (1 : Int32)), .val (.ref o), .unset, .unset, .unset, .unset, .unset, .unset, .unset, .unset] [] := s80.mono fun _ q => q.2
    have s83 : Sit p l e _ s m _ below meth c _ st n0 2 10 _ 116 #[.val (.int x0), .val (.int x1), .val (.long x2), .second, .val (.long x3), .second, .val (.int x4), .val (.int (1 : Int32)), .val (.ref o), .unset, .unset, .unset, .unset, .unset, .unset, .unset, .unset] [(.int x0), (.ref o)] := s82
      |>.aload at_113 rfl rfl
      |>.iloadN at_115 rfl rfl
    obtain ⟨r85, s84⟩ := Sit.callV (C := "reenact/trace/IntList") (y := (⟨"reenact/trace/IntList", "add", "(I)V"⟩ : MethodName)) (W := 0) (Q := fun rv_ hh => (rv_ = none) ∧ (fun hh => IL Z hh o v [x0, (ushr64 x2 (32 : Int32)).toInt32, x2.toInt32, (ushr64 x3 (32 : Int32)).toInt32, x3.toInt32, x0] [0, 0]) hh) [(.int x0)] [] s83 hZ hown (wi hw 12 rfl) (wi hw 13 rfl) (wi hw 15 rfl) (wi hw 14 rfl) (wi hw 16 rfl) (wi hw 2 rfl) (by decide) (fun hh q => q.1) (fun h1 hP hn => (rmAdd l Z a0 hw [] o x0 v [x0, (ushr64 x2 (32 : Int32)).toInt32, x2.toInt32, (ushr64 x3 (32 : Int32)).toInt32, x3.toInt32] 0 [0, 0] h1 n0 hn g_o g_v hP (by simp)).mono fun rv_ hh q => q) hml rfl (lenOf pd_2 rfl) at_116 (Nat.le_of_eq rfl) (by decide) (by decide) (by decide) (by decide) (pc' := 119) rfl
    obtain ⟨_, er85, _⟩ := s84.facts
    subst er85
    have s86 : Sit p l e _ s m _ below meth c _ st n0 2 10 (fun hh => IL Z hh o v [x0, (ushr64 x2 (32 : Int32)).toInt32, x2.toInt32, (ushr64 x3 (32 : Int32)).toInt32, x3.toInt32, x0] [0, 0]) 119 #[.val (.int x0), .val (.int x1), .val (.long x2), .second, .val (.long x3), .second, .val (.int x4), .val (.int (1 : Int32)), .val (.ref o), .unset, .unset, .unset, .unset, .unset, .unset, .unset, .unset] [] := s84.mono fun _ q => q.2
    have s87 : Sit p l e _ s m _ below meth c _ st n0 2 10 _ 122 #[.val (.int x0), .val (.int x1), .val (.long x2), .second, .val (.long x3), .second, .val (.int x4), .val (.int (1 : Int32)), .val (.ref o), .unset, .unset, .unset, .unset, .unset, .unset, .unset, .unset] [(.int x1), (.ref o)] := s86
      |>.aload at_119 rfl rfl
      |>.iloadN at_121 rfl rfl
    obtain ⟨r89, s88⟩ := Sit.callV (C := "reenact/trace/IntList") (y := (⟨"reenact/trace/IntList", "add", "(I)V"⟩ : MethodName)) (W := 0) (Q := fun rv_ hh => (rv_ = none) ∧ (fun hh => IL Z hh o v [x0, (ushr64 x2 (32 : Int32)).toInt32, x2.toInt32, (ushr64 x3 (32 : Int32)).toInt32, x3.toInt32, x0, x1] [0]) hh) [(.int x1)] [] s87 hZ hown (wi hw 12 rfl) (wi hw 13 rfl) (wi hw 15 rfl) (wi hw 14 rfl) (wi hw 16 rfl) (wi hw 2 rfl) (by decide) (fun hh q => q.1) (fun h1 hP hn => (rmAdd l Z a0 hw [] o x1 v [x0, (ushr64 x2 (32 : Int32)).toInt32, x2.toInt32, (ushr64 x3 (32 : Int32)).toInt32, x3.toInt32, x0] 0 [0] h1 n0 hn g_o g_v hP (by simp)).mono fun rv_ hh q => q) hml rfl (lenOf pd_2 rfl) at_122 (Nat.le_of_eq rfl) (by decide) (by decide) (by decide) (by decide) (pc' := 125) rfl
    obtain ⟨_, er89, _⟩ := s88.facts
    subst er89
    have s90 : Sit p l e _ s m _ below meth c _ st n0 2 10 (fun hh => IL Z hh o v [x0, (ushr64 x2 (32 : Int32)).toInt32, x2.toInt32, (ushr64 x3 (32 : Int32)).toInt32, x3.toInt32, x0, x1] [0]) 125 #[.val (.int x0), .val (.int x1), .val (.long x2), .second, .val (.long x3), .second, .val (.int x4), .val (.int (1 : Int32)), .val (.ref o), .unset, .unset, .unset, .unset, .unset, .unset, .unset, .unset] [] := s88.mono fun _ q => q.2
    have s91 : Sit p l e _ s m _ below meth c _ st n0 2 10 _ 129 #[.val (.int x0), .val (.int x1), .val (.long x2), .second, .val (.long x3), .second, .val (.int x4), .val (.int (1 : Int32)), .val (.ref o), .unset, .unset, .unset, .unset, .unset, .unset, .unset, .unset] [(.int (1 : Int32)), (.ref o)] := s90
      |>.aload at_125 rfl rfl
      |>.iload at_127 rfl rfl
    obtain ⟨r93, s92⟩ := Sit.callV (C := "reenact/trace/IntList") (y := (⟨"reenact/trace/IntList", "getWide", "(I)J"⟩ : MethodName)) (W := 0) (Q := fun rv_ hh => (rv_ = some (.long (wide2 (ushr64 x2 (32 : Int32)).toInt32 x2.toInt32))) ∧ (fun hh => IL Z hh o v [x0, (ushr64 x2 (32 : Int32)).toInt32, x2.toInt32, (ushr64 x3 (32 : Int32)).toInt32, x3.toInt32, x0, x1] [0]) hh) [(.int (1 : Int32))] [] s91 hZ hown (wi hw 25 rfl) (wi hw 26 rfl) (wi hw 28 rfl) (wi hw 27 rfl) (wi hw 29 rfl) (wi hw 2 rfl) (by decide) (fun hh q => q.1) (fun h1 hP hn => (rmGet l Z a0 hw [] o (1 : Int32) v [x0, (ushr64 x2 (32 : Int32)).toInt32, x2.toInt32, (ushr64 x3 (32 : Int32)).toInt32, x3.toInt32, x0, x1] [0] 1 (ushr64 x2 (32 : Int32)).toInt32 x2.toInt32 h1 n0 hn hP rfl (by decide) rfl rfl).mono fun rv_ hh q => ⟨q.1, q.2 ▸ hP⟩) hml rfl (lenOf pd_5 rfl) at_129 (Nat.le_of_eq rfl) (by decide) (by decide) (by decide) (by decide) (pc' := 132) rfl
    obtain ⟨_, er93, _⟩ := s92.facts
    subst er93
    have s94 : Sit p l e _ s m _ below meth c _ st n0 2 10 (fun hh => IL Z hh o v [x0, (ushr64 x2 (32 : Int32)).toInt32, x2.toInt32, (ushr64 x3 (32 : Int32)).toInt32, x3.toInt32, x0, x1] [0]) 132 #[.val (.int x0), .val (.int x1), .val (.long x2), .second, .val (.long x3), .second, .val (.int x4), .val (.int (1 : Int32)), .val (.ref o), .unset, .unset, .unset, .unset, .unset, .unset, .unset, .unset] [(.long (wide2 (ushr64 x2 (32 : Int32)).toInt32 x2.toInt32))] := s92.mono fun _ q => q.2
    have s95 : Sit p l e _ s m _ below meth c _ st n0 2 10 _ 140 #[.val (.int x0), .val (.int x1), .val (.long x2), .second, .val (.long x3), .second, .val (.int x4), .val (.int (1 : Int32)), .val (.ref o), .val (.long (wide2 (ushr64 x2 (32 : Int32)).toInt32 x2.toInt32)), .second, .unset, .unset, .unset, .unset, .unset, .unset] [(.int ((1 : Int32) + (2 : Int32))), (.ref o)] := s94
      |>.lstore #[.val (.int x0), .val (.int x1), .val (.long x2), .second, .val (.long x3), .second, .val (.int x4), .val (.int (1 : Int32)), .val (.ref o), .val (.long (wide2 (ushr64 x2 (32 : Int32)).toInt32 x2.toInt32)), .second, .unset, .unset, .unset, .unset, .unset, .unset] at_132 rfl rfl
      |>.aload at_134 rfl rfl
      |>.iload at_136 rfl rfl
      |>.iconst (2 : Int32) at_138 rfl rfl
      |>.iadd at_139 rfl
    obtain ⟨r97, s96⟩ := Sit.callV (C := "reenact/trace/IntList") (y := (⟨"reenact/trace/IntList", "getWide", "(I)J"⟩ : MethodName)) (W := 0) (Q := fun rv_ hh => (rv_ = some (.long (wide2 (ushr64 x3 (32 : Int32)).toInt32 x3.toInt32))) ∧ (fun hh => IL Z hh o v [x0, (ushr64 x2 (32 : Int32)).toInt32, x2.toInt32, (ushr64 x3 (32 : Int32)).toInt32, x3.toInt32, x0, x1] [0]) hh) [(.int ((1 : Int32) + (2 : Int32)))] [] s95 hZ hown (wi hw 25 rfl) (wi hw 26 rfl) (wi hw 28 rfl) (wi hw 27 rfl) (wi hw 29 rfl) (wi hw 2 rfl) (by decide) (fun hh q => q.1) (fun h1 hP hn => (rmGet l Z a0 hw [] o ((1 : Int32) + (2 : Int32)) v [x0, (ushr64 x2 (32 : Int32)).toInt32, x2.toInt32, (ushr64 x3 (32 : Int32)).toInt32, x3.toInt32, x0, x1] [0] 3 (ushr64 x3 (32 : Int32)).toInt32 x3.toInt32 h1 n0 hn hP rfl (by decide) rfl rfl).mono fun rv_ hh q => ⟨q.1, q.2 ▸ hP⟩) hml rfl (lenOf pd_5 rfl) at_140 (Nat.le_of_eq rfl) (by decide) (by decide) (by decide) (by decide) (pc' := 143) rfl
    obtain ⟨_, er97, _⟩ := s96.facts
    subst er97
    have s98 : Sit p l e _ s m _ below meth c _ st n0 2 10 (fun hh => IL Z hh o v [x0, (ushr64 x2 (32 : Int32)).toInt32, x2.toInt32, (ushr64 x3 (32 : Int32)).toInt32, x3.toInt32, x0, x1] [0]) 143 #[.val (.int x0), .val (.int x1), .val (.long x2), .second, .val (.long x3), .second, .val (.int x4), .val (.int (1 : Int32)), .val (.ref o), .val (.long (wide2 (ushr64 x2 (32 : Int32)).toInt32 x2.toInt32)), .second, .unset, .unset, .unset, .unset, .unset, .unset] [(.long (wide2 (ushr64 x3 (32 : Int32)).toInt32 x3.toInt32))] := s96.mono fun _ q => q.2
    have s99 : Sit p l e _ s m _ below meth c _ st n0 2 10 _ 151 #[.val (.int x0), .val (.int x1), .val (.long x2), .second, .val (.long x3), .second, .val (.int x4), .val (.int (1 : Int32)), .val (.ref o), .val (.long (wide2 (ushr64 x2 (32 : Int32)).toInt32 x2.toInt32)), .second, .val (.long (wide2 (ushr64 x3 (32 : Int32)).toInt32 x3.toInt32)), .second, .unset, .unset, .unset, .unset] [(.int ((1 : Int32) + (4 : Int32))), (.ref o)] := s98
      |>.lstore #[.val (.int x0), .val (.int x1), .val (.long x2), .second, .val (.long x3), .second, .val (.int x4), .val (.int (1 : Int32)), .val (.ref o), .val (.long (wide2 (ushr64 x2 (32 : Int32)).toInt32 x2.toInt32)), .second, .val (.long (wide2 (ushr64 x3 (32 : Int32)).toInt32 x3.toInt32)), .second, .unset, .unset, .unset, .unset] at_143 rfl rfl
      |>.aload at_145 rfl rfl
      |>.iload at_147 rfl rfl
      |>.iconst (4 : Int32) at_149 rfl rfl
      |>.iadd at_150 rfl
    obtain ⟨r101, s100⟩ := Sit.callV (C := "reenact/trace/IntList") (y := (⟨"reenact/trace/IntList", "getWide", "(I)J"⟩ : MethodName)) (W := 0) (Q := fun rv_ hh => (rv_ = some (.long (wide2 x0 x1))) ∧ (fun hh => IL Z hh o v [x0, (ushr64 x2 (32 : Int32)).toInt32, x2.toInt32, (ushr64 x3 (32 : Int32)).toInt32, x3.toInt32, x0, x1] [0]) hh) [(.int ((1 : Int32) + (4 : Int32)))] [] s99 hZ hown (wi hw 25 rfl) (wi hw 26 rfl) (wi hw 28 rfl) (wi hw 27 rfl) (wi hw 29 rfl) (wi hw 2 rfl) (by decide) (fun hh q => q.1) (fun h1 hP hn => (rmGet l Z a0 hw [] o ((1 : Int32) + (4 : Int32)) v [x0, (ushr64 x2 (32 : Int32)).toInt32, x2.toInt32, (ushr64 x3 (32 : Int32)).toInt32, x3.toInt32, x0, x1] [0] 5 x0 x1 h1 n0 hn hP rfl (by decide) rfl rfl).mono fun rv_ hh q => ⟨q.1, q.2 ▸ hP⟩) hml rfl (lenOf pd_5 rfl) at_151 (Nat.le_of_eq rfl) (by decide) (by decide) (by decide) (by decide) (pc' := 154) rfl
    obtain ⟨_, er101, _⟩ := s100.facts
    subst er101
    have s102 : Sit p l e _ s m _ below meth c _ st n0 2 10 (fun hh => IL Z hh o v [x0, (ushr64 x2 (32 : Int32)).toInt32, x2.toInt32, (ushr64 x3 (32 : Int32)).toInt32, x3.toInt32, x0, x1] [0]) 154 #[.val (.int x0), .val (.int x1), .val (.long x2), .second, .val (.long x3), .second, .val (.int x4), .val (.int (1 : Int32)), .val (.ref o), .val (.long (wide2 (ushr64 x2 (32 : Int32)).toInt32 x2.toInt32)), .second, .val (.long (wide2 (ushr64 x3 (32 : Int32)).toInt32 x3.toInt32)), .second, .unset, .unset, .unset, .unset] [(.long (wide2 x0 x1))] := s100.mono fun _ q => q.2
    have s103 : Sit p l e _ s m _ below meth c _ st n0 2 10 _ 163 #[.val (.int x0), .val (.int x1), .val (.long x2), .second, .val (.long x3), .second, .val (.int x4), .val (.int (1 : Int32)), .val (.ref o), .val (.long (wide2 (ushr64 x2 (32 : Int32)).toInt32 x2.toInt32)), .second, .val (.long (wide2 (ushr64 x3 (32 : Int32)).toInt32 x3.toInt32)), .second, .val (.long (wide2 x0 x1)), .second, .unset, .unset] [(.int x0), (.int (ushr64 (wide2 x0 x1) (32 : Int32)).toInt32)] := s102
      |>.lstore #[.val (.int x0), .val (.int x1), .val (.long x2), .second, .val (.long x3), .second, .val (.int x4), .val (.int (1 : Int32)), .val (.ref o), .val (.long (wide2 (ushr64 x2 (32 : Int32)).toInt32 x2.toInt32)), .second, .val (.long (wide2 (ushr64 x3 (32 : Int32)).toInt32 x3.toInt32)), .second, .val (.long (wide2 x0 x1)), .second, .unset, .unset] at_154 rfl rfl
      |>.lload at_156 rfl rfl
      |>.bipush (32 : Int32) at_158 rfl rfl
      |>.lushr at_160 rfl
      |>.l2i at_161 rfl
      |>.iloadN at_162 rfl rfl
    have s104 : Sit p l e _ s m _ below meth c _ st n0 2 10 _ 177 #[.val (.int x0), .val (.int x1), .val (.long x2), .second, .val (.long x3), .second, .val (.int x4), .val (.int (1 : Int32)), .val (.ref o), .val (.long (wide2 (ushr64 x2 (32 : Int32)).toInt32 x2.toInt32)), .second, .val (.long (wide2 (ushr64 x3 (32 : Int32)).toInt32 x3.toInt32)), .second, .val (.long (wide2 x0 x1)), .second, .val (.int (1 : Int32)), .unset] [(.int x1), (.int (wide2 x0 x1).toInt32)] := s103
      |>.icmpN at_163 ((neF (Classical.not_not.mp (show ¬ (¬ (ushr64 (wide2 x0 x1) (32 : Int32)).toInt32 = x0) from fun h => h (wide_hi x0 x1))))) rfl
      |>.iconst (1 : Int32) at_166 rfl rfl
      |>.goto at_167 (by decide) (by decide)
      |>.istore #[.val (.int x0), .val (.int x1), .val (.long x2), .second, .val (.long x3), .second, .val (.int x4), .val (.int (1 : Int32)), .val (.ref o), .val (.long (wide2 (ushr64 x2 (32 : Int32)).toInt32 x2.toInt32)), .second, .val (.long (wide2 (ushr64 x3 (32 : Int32)).toInt32 x3.toInt32)), .second, .val (.long (wide2 x0 x1)), .second, .val (.int (1 : Int32)), .unset] at_171 rfl rfl
      |>.lload at_173 rfl rfl
      |>.l2i at_175 rfl
      |>.iloadN at_176 rfl rfl
    have s105 : Sit p l e _ s m _ below meth c _ st n0 2 10 _ 191 #[.val (.int x0), .val (.int x1), .val (.long x2), .second, .val (.long x3), .second, .val (.int x4), .val (.int (1 : Int32)), .val (.ref o), .val (.long (wide2 (ushr64 x2 (32 : Int32)).toInt32 x2.toInt32)), .second, .val (.long (wide2 (ushr64 x3 (32 : Int32)).toInt32 x3.toInt32)), .second, .val (.long (wide2 x0 x1)), .second, .val (.int (1 : Int32)), .val (.int (1 : Int32))] [(.int (lcmp3 (wide2 (ushr64 x2 (32 : Int32)).toInt32 x2.toInt32) x2))] := s104
      |>.icmpN at_177 ((neF (Classical.not_not.mp (show ¬ (¬ (wide2 x0 x1).toInt32 = x1) from fun h => h (wide_lo x0 x1))))) rfl
      |>.iconst (1 : Int32) at_180 rfl rfl
      |>.goto at_181 (by decide) (by decide)
      |>.istore #[.val (.int x0), .val (.int x1), .val (.long x2), .second, .val (.long x3), .second, .val (.int x4), .val (.int (1 : Int32)), .val (.ref o), .val (.long (wide2 (ushr64 x2 (32 : Int32)).toInt32 x2.toInt32)), .second, .val (.long (wide2 (ushr64 x3 (32 : Int32)).toInt32 x3.toInt32)), .second, .val (.long (wide2 x0 x1)), .second, .val (.int (1 : Int32)), .val (.int (1 : Int32))] at_185 rfl rfl
      |>.lload at_187 rfl rfl
      |>.lloadN at_189 rfl rfl
      |>.lcmp at_190 rfl
    have s106 : Sit p l e _ s m _ below meth c _ st n0 2 10 _ 199 #[.val (.int x0), .val (.int x1), .val (.long x2), .second, .val (.long x3), .second, .val (.int x4), .val (.int (1 : Int32)), .val (.ref o), .val (.long (wide2 (ushr64 x2 (32 : Int32)).toInt32 x2.toInt32)), .second, .val (.long (wide2 (ushr64 x3 (32 : Int32)).toInt32 x3.toInt32)), .second, .val (.long (wide2 x0 x1)), .second, .val (.int (1 : Int32)), .val (.int (1 : Int32))] [(.int (lcmp3 (wide2 (ushr64 x3 (32 : Int32)).toInt32 x3.toInt32) x3))] := s105
      |>.ifN at_191 (lcF (cd := .ne) (show ¬ (¬ (wide2 (ushr64 x2 (32 : Int32)).toInt32 x2.toInt32) = x2) from fun h => h (wide_back x2))) rfl
      |>.lload at_194 rfl rfl
      |>.lload at_196 rfl rfl
      |>.lcmp at_198 rfl
    have s107 : Sit p l e _ s m _ below meth c _ st n0 2 10 _ 204 #[.val (.int x0), .val (.int x1), .val (.long x2), .second, .val (.long x3), .second, .val (.int x4), .val (.int (1 : Int32)), .val (.ref o), .val (.long (wide2 (ushr64 x2 (32 : Int32)).toInt32 x2.toInt32)), .second, .val (.long (wide2 (ushr64 x3 (32 : Int32)).toInt32 x3.toInt32)), .second, .val (.long (wide2 x0 x1)), .second, .val (.int (1 : Int32)), .val (.int (1 : Int32))] [(.int (1 : Int32))] := s106
      |>.ifN at_199 (lcF (cd := .ne) (show ¬ (¬ (wide2 (ushr64 x3 (32 : Int32)).toInt32 x3.toInt32) = x3) from fun h => h (wide_back x3))) rfl
      |>.iload at_202 rfl rfl
    have s108 : Sit p l e _ s m _ below meth c _ st n0 2 10 _ 209 #[.val (.int x0), .val (.int x1), .val (.long x2), .second, .val (.long x3), .second, .val (.int x4), .val (.int (1 : Int32)), .val (.ref o), .val (.long (wide2 (ushr64 x2 (32 : Int32)).toInt32 x2.toInt32)), .second, .val (.long (wide2 (ushr64 x3 (32 : Int32)).toInt32 x3.toInt32)), .second, .val (.long (wide2 x0 x1)), .second, .val (.int (1 : Int32)), .val (.int (1 : Int32))] [(.int (1 : Int32))] := s107
      |>.ifN at_204 (eqF (show ¬ ((1 : Int32) = 0) from by decide)) rfl
      |>.iload at_207 rfl rfl
    have s109 : Sit p l e _ s m _ below meth c _ st n0 2 10 _ 214 #[.val (.int x0), .val (.int x1), .val (.long x2), .second, .val (.long x3), .second, .val (.int x4), .val (.int (1 : Int32)), .val (.ref o), .val (.long (wide2 (ushr64 x2 (32 : Int32)).toInt32 x2.toInt32)), .second, .val (.long (wide2 (ushr64 x3 (32 : Int32)).toInt32 x3.toInt32)), .second, .val (.long (wide2 x0 x1)), .second, .val (.int (1 : Int32)), .val (.int (1 : Int32))] [(.ref o)] := s108
      |>.ifN at_209 (eqF (show ¬ ((1 : Int32) = 0) from by decide)) rfl
      |>.aload at_212 rfl rfl
    obtain ⟨r111, s110⟩ := Sit.callV (C := "reenact/trace/IntList") (y := (⟨"reenact/trace/IntList", "size", "()I"⟩ : MethodName)) (W := 0) (Q := fun rv_ hh => (rv_ = some (.int (Int32.ofNat 7))) ∧ (fun hh => IL Z hh o v [x0, (ushr64 x2 (32 : Int32)).toInt32, x2.toInt32, (ushr64 x3 (32 : Int32)).toInt32, x3.toInt32, x0, x1] [0]) hh) [] [] s109 hZ hown (wi hw 31 rfl) (wi hw 32 rfl) (wi hw 34 rfl) (wi hw 33 rfl) (wi hw 35 rfl) (wi hw 2 rfl) (by decide) (fun hh q => q.1) (fun h1 hP hn => (rmSize l Z a0 hw [] o v [x0, (ushr64 x2 (32 : Int32)).toInt32, x2.toInt32, (ushr64 x3 (32 : Int32)).toInt32, x3.toInt32, x0, x1] [0] h1 n0 hn hP).mono fun rv_ hh q => ⟨q.1, q.2 ▸ hP⟩) hml rfl (lenOf pd_6 rfl) at_214 (Nat.le_of_eq rfl) (by decide) (by decide) (by decide) (by decide) (pc' := 217) rfl
    obtain ⟨_, er111, _⟩ := s110.facts
    subst er111
    have s112 : Sit p l e _ s m _ below meth c _ st n0 2 10 (fun hh => IL Z hh o v [x0, (ushr64 x2 (32 : Int32)).toInt32, x2.toInt32, (ushr64 x3 (32 : Int32)).toInt32, x3.toInt32, x0, x1] [0]) 217 #[.val (.int x0), .val (.int x1), .val (.long x2), .second, .val (.long x3), .second, .val (.int x4), .val (.int (1 : Int32)), .val (.ref o), .val (.long (wide2 (ushr64 x2 (32 : Int32)).toInt32 x2.toInt32)), .second, .val (.long (wide2 (ushr64 x3 (32 : Int32)).toInt32 x3.toInt32)), .second, .val (.long (wide2 x0 x1)), .second, .val (.int (1 : Int32)), .val (.int (1 : Int32))] [(.int (Int32.ofNat 7))] := s110.mono fun _ q => q.2
    have s113 : Sit p l e _ s m _ below meth c _ st n0 2 10 _ 222 #[.val (.int x0), .val (.int x1), .val (.long x2), .second, .val (.long x3), .second, .val (.int x4), .val (.int (1 : Int32)), .val (.ref o), .val (.long (wide2 (ushr64 x2 (32 : Int32)).toInt32 x2.toInt32)), .second, .val (.long (wide2 (ushr64 x3 (32 : Int32)).toInt32 x3.toInt32)), .second, .val (.long (wide2 x0 x1)), .second, .val (.int (1 : Int32)), .val (.int (1 : Int32))] [(.int ((1 : Int32) + (6 : Int32))), (.int (Int32.ofNat 7))] := s112
      |>.iload at_217 rfl rfl
      |>.bipush (6 : Int32) at_219 rfl rfl
      |>.iadd at_221 rfl
    have s114 : Sit p l e _ s m _ below meth c _ st n0 2 10 _ 230 #[.val (.int x0), .val (.int x1), .val (.long x2), .second, .val (.long x3), .second, .val (.int x4), .val (.int (1 : Int32)), .val (.ref o), .val (.long (wide2 (ushr64 x2 (32 : Int32)).toInt32 x2.toInt32)), .second, .val (.long (wide2 (ushr64 x3 (32 : Int32)).toInt32 x3.toInt32)), .second, .val (.long (wide2 x0 x1)), .second, .val (.int (1 : Int32)), .val (.int (1 : Int32))] [(.int (1 : Int32))] := s113
      |>.icmpN at_222 ((neF (Classical.not_not.mp (show ¬ (¬ (Int32.ofNat 7) = ((1 : Int32) + (6 : Int32))) from by decide)))) rfl
      |>.iconst (1 : Int32) at_225 rfl rfl
      |>.goto at_226 (by decide) (by decide)
    exact (s114.bound (by decide) (by decide)).retZ at_230 hret hlk (fun hh q => rfl)
  · have s115 : Sit p l e _ s m _ below meth c _ st n0 2 10 (fun hh => IL Z hh o v [] [0, 0, 0, 0, 0, 0, 0, 0]) 16 #[.val (.int x0), .val (.int x1), .val (.long x2), .second, .val (.long x3), .second, .val (.int x4), .val (.int (2 : Int32)), .val (.ref o), .unset, .unset, .unset, .unset, .unset, .unset, .unset, .unset] [] := s14
    have s116 : Sit p l e _ s m _ below meth c _ st n0 2 10 _ 18 #[.val (.int x0), .val (.int x1), .val (.long x2), .second, .val (.long x3), .second, .val (.int x4), .val (.int (2 : Int32)), .val (.ref o), .unset, .unset, .unset, .unset, .unset, .unset, .unset, .unset] [(.int (2 : Int32))] := s115
      |>.iload at_16 rfl rfl
    have s117 : Sit p l e _ s m _ below meth c _ st n0 2 10 _ 24 #[.val (.int x0), .val (.int x1), .val (.long x2), .second, .val (.long x3), .second, .val (.int x4), .val (.int (2 : Int32)), .val (.ref o), .unset, .unset, .unset, .unset, .unset, .unset, .unset, .unset] [(.int x0), (.ref o)] := s116
      |>.ifN at_18 (cmpF0 (cd := .le) (show ¬ ((2 : Int) ≤ 0) from by decide)) rfl
      |>.aload at_21 rfl rfl
      |>.iloadN at_23 rfl rfl
    obtain ⟨r119, s118⟩ := Sit.callV (C := "reenact/trace/IntList") (y := (⟨"reenact/trace/IntList", "add", "(I)V"⟩ : MethodName)) (W := 0) (Q := fun rv_ hh => (rv_ = none) ∧ (fun hh => IL Z hh o v [x0] [0, 0, 0, 0, 0, 0, 0]) hh) [(.int x0)] [] s117 hZ hown (wi hw 12 rfl) (wi hw 13 rfl) (wi hw 15 rfl) (wi hw 14 rfl) (wi hw 16 rfl) (wi hw 2 rfl) (by decide) (fun hh q => q.1) (fun h1 hP hn => (rmAdd l Z a0 hw [] o x0 v [] 0 [0, 0, 0, 0, 0, 0, 0] h1 n0 hn g_o g_v hP (by simp)).mono fun rv_ hh q => q) hml rfl (lenOf pd_2 rfl) at_24 (Nat.le_of_eq rfl) (by decide) (by decide) (by decide) (by decide) (pc' := 27) rfl
    obtain ⟨_, er119, _⟩ := s118.facts
    subst er119
    have s120 : Sit p l e _ s m _ below meth c _ st n0 2 10 (fun hh => IL Z hh o v [x0] [0, 0, 0, 0, 0, 0, 0]) 27 #[.val (.int x0), .val (.int x1), .val (.long x2), .second, .val (.long x3), .second, .val (.int x4), .val (.int (2 : Int32)), .val (.ref o), .unset, .unset, .unset, .unset, .unset, .unset, .unset, .unset] [] := s118.mono fun _ q => q.2
    have s121 : Sit p l e _ s m _ below meth c _ st n0 2 10 _ 30 #[.val (.int x0), .val (.int x1), .val (.long x2), .second, .val (.long x3), .second, .val (.int x4), .val (.int (2 : Int32)), .val (.ref o), .unset, .unset, .unset, .unset, .unset, .unset, .unset, .unset] [(.int (1 : Int32)), (.int (2 : Int32))] := s120
      |>.iload at_27 rfl rfl
      |>.iconst (1 : Int32) at_29 rfl rfl
    have s122 : Sit p l e _ s m _ below meth c _ st n0 2 10 _ 36 #[.val (.int x0), .val (.int x1), .val (.long x2), .second, .val (.long x3), .second, .val (.int x4), .val (.int (2 : Int32)), .val (.ref o), .unset, .unset, .unset, .unset, .unset, .unset, .unset, .unset] [(.int x1), (.ref o)] := s121
      |>.icmpN at_30 (cmpF (cd := .le) (show ¬ ((2 : Int) ≤ (1 : Int)) from by decide)) rfl
      |>.aload at_33 rfl rfl
      |>.iloadN at_35 rfl rfl
    obtain ⟨r124, s123⟩ := Sit.callV (C := "reenact/trace/IntList") (y := (⟨"reenact/trace/IntList", "add", "(I)V"⟩ : MethodName)) (W := 0) (Q := fun rv_ hh => (rv_ = none) ∧ (fun hh => IL Z hh o v [x0, x1] [0, 0, 0, 0, 0, 0]) hh) [(.int x1)] [] s122 hZ hown (wi hw 12 rfl) (wi hw 13 rfl) (wi hw 15 rfl) (wi hw 14 rfl) (wi hw 16 rfl) (wi hw 2 rfl) (by decide) (fun hh q => q.1) (fun h1 hP hn => (rmAdd l Z a0 hw [] o x1 v [x0] 0 [0, 0, 0, 0, 0, 0] h1 n0 hn g_o g_v hP (by simp)).mono fun rv_ hh q => q) hml rfl (lenOf pd_2 rfl) at_36 (Nat.le_of_eq rfl) (by decide) (by decide) (by decide) (by decide) (pc' := 39) rfl
    obtain ⟨_, er124, _⟩ := s123.facts
    subst er124
    have s125 : Sit p l e _ s m _ below meth c _ st n0 2 10 (fun hh => IL Z hh o v [x0, x1] [0, 0, 0, 0, 0, 0]) 39 #[.val (.int x0), .val (.int x1), .val (.long x2), .second, .val (.long x3), .second, .val (.int x4), .val (.int (2 : Int32)), .val (.ref o), .unset, .unset, .unset, .unset, .unset, .unset, .unset, .unset] [] := s123.mono fun _ q => q.2
    have s126 : Sit p l e _ s m _ below meth c _ st n0 2 10 _ 42 #[.val (.int x0), .val (.int x1), .val (.long x2), .second, .val (.long x3), .second, .val (.int x4), .val (.int (2 : Int32)), .val (.ref o), .unset, .unset, .unset, .unset, .unset, .unset, .unset, .unset] [(.int (2 : Int32)), (.int (2 : Int32))] := s125
      |>.iload at_39 rfl rfl
      |>.iconst (2 : Int32) at_41 rfl rfl
    have s127 : Sit p l e _ s m _ below meth c _ st n0 2 10 _ 54 #[.val (.int x0), .val (.int x1), .val (.long x2), .second, .val (.long x3), .second, .val (.int x4), .val (.int (2 : Int32)), .val (.ref o), .unset, .unset, .unset, .unset, .unset, .unset, .unset, .unset] [(.int (3 : Int32)), (.int (2 : Int32))] := s126
      |>.icmpY at_42 (cmpT (cd := .le) (show (2 : Int) ≤ (2 : Int) from by decide)) (by decide) (by decide)
      |>.iload at_51 rfl rfl
      |>.iconst (3 : Int32) at_53 rfl rfl
    have s128 : Sit p l e _ s m _ below meth c _ st n0 2 10 _ 66 #[.val (.int x0), .val (.int x1), .val (.long x2), .second, .val (.long x3), .second, .val (.int x4), .val (.int (2 : Int32)), .val (.ref o), .unset, .unset, .unset, .unset, .unset, .unset, .unset, .unset] [(.int (4 : Int32)), (.int (2 : Int32))] := s127
      |>.icmpY at_54 (cmpT (cd := .le) (show (2 : Int) ≤ (3 : Int) from by decide)) (by decide) (by decide)
      |>.iload at_63 rfl rfl
      |>.iconst (4 : Int32) at_65 rfl rfl
    have s129 : Sit p l e _ s m _ below meth c _ st n0 2 10 _ 78 #[.val (.int x0), .val (.int x1), .val (.long x2), .second, .val (.long x3), .second, .val (.int x4), .val (.int (2 : Int32)), .val (.ref o), .unset, .unset, .unset, .unset, .unset, .unset, .unset, .unset] [(.int (5 : Int32)), (.int (2 : Int32))] := s128
      |>.icmpY at_66 (cmpT (cd := .le) (show (2 : Int) ≤ (4 : Int) from by decide)) (by decide) (by decide)
      |>.iload at_75 rfl rfl
      |>.iconst (5 : Int32) at_77 rfl rfl
    have s130 : Sit p l e _ s m _ below meth c _ st n0 2 10 _ 91 #[.val (.int x0), .val (.int x1), .val (.long x2), .second, .val (.long x3), .second, .val (.int x4), .val (.int (2 : Int32)), .val (.ref o), .unset, .unset, .unset, .unset, .unset, .unset, .unset, .unset] [(.int (6 : Int32)), (.int (2 : Int32))] := s129
      |>.icmpY at_78 (cmpT (cd := .le) (show (2 : Int) ≤ (5 : Int) from by decide)) (by decide) (by decide)
      |>.iload at_87 rfl rfl
      |>.bipush (6 : Int32) at_89 rfl rfl
    have s131 : Sit p l e _ s m _ below meth c _ st n0 2 10 _ 103 #[.val (.int x0), .val (.int x1), .val (.long x2), .second, .val (.long x3), .second, .val (.int x4), .val (.int (2 : Int32)), .val (.ref o), .unset, .unset, .unset, .unset, .unset, .unset, .unset, .unset] [(.long x2), (.ref o)] := s130
      |>.icmpY at_91 (cmpT (cd := .le) (show (2 : Int) ≤ (6 : Int) from by decide)) (by decide) (by decide)
      |>.aload at_100 rfl rfl
      |>.lloadN at_102 rfl rfl
    obtain ⟨r133, s132⟩ := Sit.callV (C := "reenact/trace/IntList") (y := (⟨"reenact/trace/IntList", "addWide", "(J)V"⟩ : MethodName)) (W := 0) (Q := fun rv_ hh => (rv_ = none) ∧ (fun hh => IL Z hh o v [x0, x1, (ushr64 x2 (32 : Int32)).toInt32, x2.toInt32] [0, 0, 0, 0]) hh) [(.long x2)] [] s131 hZ hown (wi hw 19 rfl) (wi hw 20 rfl) (wi hw 22 rfl) (wi hw 21 rfl) (wi hw 23 rfl) (wi hw 2 rfl) (by decide) (fun hh q => q.1) (fun h1 hP hn => (rmWnn l Z a0 hw [] o x2 v [x0, x1] 0 0 [0, 0, 0, 0] h1 n0 hn g_o g_v hP (by simp)).mono fun rv_ hh q => q) hml rfl (lenOf pd_4 rfl) at_103 (Nat.le_of_eq rfl) (by decide) (by decide) (by decide) (by decide) (pc' := 106) rfl
    obtain ⟨_, er133, _⟩ := s132.facts
    subst er133
    have s134 : Sit p l e _ s m _ below meth c _ st n0 2 10 (fun hh => IL Z hh o v [x0, x1, (ushr64 x2 (32 : Int32)).toInt32, x2.toInt32] [0, 0, 0, 0]) 106 #[.val (.int x0), .val (.int x1), .val (.long x2), .second, .val (.long x3), .second, .val (.int x4), .val (.int (2 : Int32)), .val (.ref o), .unset, .unset, .unset, .unset, .unset, .unset, .unset, .unset] [] := s132.mono fun _ q => q.2
    have s135 : Sit p l e _ s m _ below meth c _ st n0 2 10 _ 110 #[.val (.int x0), .val (.int x1), .val (.long x2), .second, .val (.long x3), .second, .val (.int x4), .val (.int (2 : Int32)), .val (.ref o), .unset, .unset, .unset, .unset, .unset, .unset, .unset, .unset] [(.long x3), (.ref o)] := s134
      |>.aload at_106 rfl rfl
      |>.lload at_108 rfl rfl
    obtain ⟨r137, s136⟩ := Sit.callV (C := "reenact/trace/IntList") (y := (⟨"reenact/trace/IntList", "addWide", "(J)V"⟩ : MethodName)) (W := 0) (Q := fun rv_ hh => (rv_ = none) ∧ (fun hh => IL Z hh o v [x0, x1, (ushr64 x2 (32 : Int32)).toInt32, x2.toInt32, (ushr64 x3 (32 : Int32)).toInt32, x3.toInt32] [0, 0]) hh) [(.long x3)] [] s135 hZ hown (wi hw 19 rfl) (wi hw 20 rfl) (wi hw 22 rfl) (wi hw 21 rfl) (wi hw 23 rfl) (wi hw 2 rfl) (by decide) (fun hh q => q.1) (fun h1 hP hn => (rmWnn l Z a0 hw [] o x3 v [x0, x1, (ushr64 x2 (32 : Int32)).toInt32, x2.toInt32] 0 0 [0, 0] h1 n0 hn g_o g_v hP (by simp)).mono fun rv_ hh q => q) hml rfl (lenOf pd_4 rfl) at_110 (Nat.le_of_eq rfl) (by decide) (by decide) (by decide) (by decide) (pc' := 113) rfl
    obtain ⟨_, er137, _⟩ := s136.facts
    subst er137
    have s138 : Sit p l e _ s m _ below meth c _ st n0 2 10 (fun hh => IL Z hh o v [x0, x1, (ushr64 x2 (32 : Int32)).toInt32, x2.toInt32, (ushr64 x3 (32 : Int32)).toInt32, x3.toInt32] [0, 0]) 113 #[.val (.int x0), .val (.int x1), .val (.long x2), .second, .val (.long x3), .second, .val (.int x4), .val (.int (2 : Int32)), .val (.ref o), .unset, .unset, .unset, .unset, .unset, .unset, .unset, .unset] [] := s136.mono fun _ q => q.2
    have s139 : Sit p l e _ s m _ below meth c _ st n0 2 10 _ 116 #[.val (.int x0), .val (.int x1), .val (.long x2), .second, .val (.long x3), .second, .val (.int x4), .val (.int (2 : Int32)), .val (.ref o), .unset, .unset, .unset, .unset, .unset, .unset, .unset, .unset] [(.int x0), (.ref o)] := s138
      |>.aload at_113 rfl rfl
      |>.iloadN at_115 rfl rfl
    obtain ⟨r141, s140⟩ := Sit.callV (C := "reenact/trace/IntList") (y := (⟨"reenact/trace/IntList", "add", "(I)V"⟩ : MethodName)) (W := 0) (Q := fun rv_ hh => (rv_ = none) ∧ (fun hh => IL Z hh o v [x0, x1, (ushr64 x2 (32 : Int32)).toInt32, x2.toInt32, (ushr64 x3 (32 : Int32)).toInt32, x3.toInt32, x0] [0]) hh) [(.int x0)] [] s139 hZ hown (wi hw 12 rfl) (wi hw 13 rfl) (wi hw 15 rfl) (wi hw 14 rfl) (wi hw 16 rfl) (wi hw 2 rfl) (by decide) (fun hh q => q.1) (fun h1 hP hn => (rmAdd l Z a0 hw [] o x0 v [x0, x1, (ushr64 x2 (32 : Int32)).toInt32, x2.toInt32, (ushr64 x3 (32 : Int32)).toInt32, x3.toInt32] 0 [0] h1 n0 hn g_o g_v hP (by simp)).mono fun rv_ hh q => q) hml rfl (lenOf pd_2 rfl) at_116 (Nat.le_of_eq rfl) (by decide) (by decide) (by decide) (by decide) (pc' := 119) rfl
    obtain ⟨_, er141, _⟩ := s140.facts
    subst er141
    have s142 : Sit p l e _ s m _ below meth c _ st n0 2 10 (fun hh => IL Z hh o v [x0, x1, (ushr64 x2 (32 : Int32)).toInt32, x2.toInt32, (ushr64 x3 (32 : Int32)).toInt32, x3.toInt32, x0] [0]) 119 #[.val (.int x0), .val (.int x1), .val (.long x2), .second, .val (.long x3), .second, .val (.int x4), .val (.int (2 : Int32)), .val (.ref o), .unset, .unset, .unset, .unset, .unset, .unset, .unset, .unset] [] := s140.mono fun _ q => q.2
    have s143 : Sit p l e _ s m _ below meth c _ st n0 2 10 _ 122 #[.val (.int x0), .val (.int x1), .val (.long x2), .second, .val (.long x3), .second, .val (.int x4), .val (.int (2 : Int32)), .val (.ref o), .unset, .unset, .unset, .unset, .unset, .unset, .unset, .unset] [(.int x1), (.ref o)] := s142
      |>.aload at_119 rfl rfl
      |>.iloadN at_121 rfl rfl
    obtain ⟨r145, s144⟩ := Sit.callV (C := "reenact/trace/IntList") (y := (⟨"reenact/trace/IntList", "add", "(I)V"⟩ : MethodName)) (W := 0) (Q := fun rv_ hh => (rv_ = none) ∧ (fun hh => IL Z hh o v [x0, x1, (ushr64 x2 (32 : Int32)).toInt32, x2.toInt32, (ushr64 x3 (32 : Int32)).toInt32, x3.toInt32, x0, x1] []) hh) [(.int x1)] [] s143 hZ hown (wi hw 12 rfl) (wi hw 13 rfl) (wi hw 15 rfl) (wi hw 14 rfl) (wi hw 16 rfl) (wi hw 2 rfl) (by decide) (fun hh q => q.1) (fun h1 hP hn => (rmAdd l Z a0 hw [] o x1 v [x0, x1, (ushr64 x2 (32 : Int32)).toInt32, x2.toInt32, (ushr64 x3 (32 : Int32)).toInt32, x3.toInt32, x0] 0 [] h1 n0 hn g_o g_v hP (by simp)).mono fun rv_ hh q => q) hml rfl (lenOf pd_2 rfl) at_122 (Nat.le_of_eq rfl) (by decide) (by decide) (by decide) (by decide) (pc' := 125) rfl
    obtain ⟨_, er145, _⟩ := s144.facts
    subst er145
    have s146 : Sit p l e _ s m _ below meth c _ st n0 2 10 (fun hh => IL Z hh o v [x0, x1, (ushr64 x2 (32 : Int32)).toInt32, x2.toInt32, (ushr64 x3 (32 : Int32)).toInt32, x3.toInt32, x0, x1] []) 125 #[.val (.int x0), .val (.int x1), .val (.long x2), .second, .val (.long x3), .second, .val (.int x4), .val (.int (2 : Int32)), .val (.ref o), .unset, .unset, .unset, .unset, .unset, .unset, .unset, .unset] [] := s144.mono fun _ q => q.2
    have s147 : Sit p l e _ s m _ below meth c _ st n0 2 10 _ 129 #[.val (.int x0), .val (.int x1), .val (.long x2), .second, .val (.long x3), .second, .val (.int x4), .val (.int (2 : Int32)), .val (.ref o), .unset, .unset, .unset, .unset, .unset, .unset, .unset, .unset] [(.int (2 : Int32)), (.ref o)] := s146
      |>.aload at_125 rfl rfl
      |>.iload at_127 rfl rfl
    obtain ⟨r149, s148⟩ := Sit.callV (C := "reenact/trace/IntList") (y := (⟨"reenact/trace/IntList", "getWide", "(I)J"⟩ : MethodName)) (W := 0) (Q := fun rv_ hh => (rv_ = some (.long (wide2 (ushr64 x2 (32 : Int32)).toInt32 x2.toInt32))) ∧ (fun hh => IL Z hh o v [x0, x1, (ushr64 x2 (32 : Int32)).toInt32, x2.toInt32, (ushr64 x3 (32 : Int32)).toInt32, x3.toInt32, x0, x1] []) hh) [(.int (2 : Int32))] [] s147 hZ hown (wi hw 25 rfl) (wi hw 26 rfl) (wi hw 28 rfl) (wi hw 27 rfl) (wi hw 29 rfl) (wi hw 2 rfl) (by decide) (fun hh q => q.1) (fun h1 hP hn => (rmGet l Z a0 hw [] o (2 : Int32) v [x0, x1, (ushr64 x2 (32 : Int32)).toInt32, x2.toInt32, (ushr64 x3 (32 : Int32)).toInt32, x3.toInt32, x0, x1] [] 2 (ushr64 x2 (32 : Int32)).toInt32 x2.toInt32 h1 n0 hn hP rfl (by decide) rfl rfl).mono fun rv_ hh q => ⟨q.1, q.2 ▸ hP⟩) hml rfl (lenOf pd_5 rfl) at_129 (Nat.le_of_eq rfl) (by decide) (by decide) (by decide) (by decide) (pc' := 132) rfl
    obtain ⟨_, er149, _⟩ := s148.facts
    subst er149
    have s150 : Sit p l e _ s m _ below meth c _ st n0 2 10 (fun hh => IL Z hh o v [x0, x1, (ushr64 x2 (32 : Int32)).toInt32, x2.toInt32, (ushr64 x3 (32 : Int32)).toInt32, x3.toInt32, x0, x1] []) 132 #[.val (.int x0), .val (.int x1), .val (.long x2), .second, .val (.long x3), .second, .val (.int x4), .val (.int (2 : Int32)), .val (.ref o), .unset, .unset, .unset, .unset, .unset, .unset, .unset, .unset] [(.long (wide2 (ushr64 x2 (32 : Int32)).toInt32 x2.toInt32))] := s148.mono fun _ q => q.2
    have s151 : Sit p l e _ s m _ below meth c _ st n0 2 10 _ 140 #[.val (.int x0), .val (.int x1), .val (.long x2), .second, .val (.long x3), .second, .val (.int x4), .val (.int (2 : Int32)), .val (.ref o), .val (.long (wide2 (ushr64 x2 (32 : Int32)).toInt32 x2.toInt32)), .second, .unset, .unset, .unset, .unset, .unset, .unset] [(.int ((2 : Int32) + (2 : Int32))), (.ref o)] := s150
      |>.lstore #[.val (.int x0), .val (.int x1), .val (.long x2), .second, .val (.long x3), .second, .val (.int x4), .val (.int (2 : Int32)), .val (.ref o), .val (.long (wide2 (ushr64 x2 (32 : Int32)).toInt32 x2.toInt32)), .second, .unset, .unset, .unset, .unset, .unset, .unset] at_132 rfl rfl
      |>.aload at_134 rfl rfl
      |>.iload at_136 rfl rfl
      |>.iconst (2 : Int32) at_138 rfl rfl
      |>.iadd at_139 rfl
    obtain ⟨r153, s152⟩ := Sit.callV (C := "reenact/trace/IntList") (y := (⟨"reenact/trace/IntList", "getWide", "(I)J"⟩ : MethodName)) (W := 0) (Q := fun rv_ hh => (rv_ = some (.long (wide2 (ushr64 x3 (32 : Int32)).toInt32 x3.toInt32))) ∧ (fun hh => IL Z hh o v [x0, x1, (ushr64 x2 (32 : Int32)).toInt32, x2.toInt32, (ushr64 x3 (32 : Int32)).toInt32, x3.toInt32, x0, x1] []) hh) [(.int ((2 : Int32) + (2 : Int32)))] [] s151 hZ hown (wi hw 25 rfl) (wi hw 26 rfl) (wi hw 28 rfl) (wi hw 27 rfl) (wi hw 29 rfl) (wi hw 2 rfl) (by decide) (fun hh q => q.1) (fun h1 hP hn => (rmGet l Z a0 hw [] o ((2 : Int32) + (2 : Int32)) v [x0, x1, (ushr64 x2 (32 : Int32)).toInt32, x2.toInt32, (ushr64 x3 (32 : Int32)).toInt32, x3.toInt32, x0, x1] [] 4 (ushr64 x3 (32 : Int32)).toInt32 x3.toInt32 h1 n0 hn hP rfl (by decide) rfl rfl).mono fun rv_ hh q => ⟨q.1, q.2 ▸ hP⟩) hml rfl (lenOf pd_5 rfl) at_140 (Nat.le_of_eq rfl) (by decide) (by decide) (by decide) (by decide) (pc' := 143) rfl
    obtain ⟨_, er153, _⟩ := s152.facts
    subst er153
    have s154 : Sit p l e _ s m _ below meth c _ st n0 2 10 (fun hh => IL Z hh o v [x0, x1, (ushr64 x2 (32 : Int32)).toInt32, x2.toInt32, (ushr64 x3 (32 : Int32)).toInt32, x3.toInt32, x0, x1] []) 143 #[.val (.int x0), .val (.int x1), .val (.long x2), .second, .val (.long x3), .second, .val (.int x4), .val (.int (2 : Int32)), .val (.ref o), .val (.long (wide2 (ushr64 x2 (32 : Int32)).toInt32 x2.toInt32)), .second, .unset, .unset, .unset, .unset, .unset, .unset] [(.long (wide2 (ushr64 x3 (32 : Int32)).toInt32 x3.toInt32))] := s152.mono fun _ q => q.2
    have s155 : Sit p l e _ s m _ below meth c _ st n0 2 10 _ 151 #[.val (.int x0), .val (.int x1), .val (.long x2), .second, .val (.long x3), .second, .val (.int x4), .val (.int (2 : Int32)), .val (.ref o), .val (.long (wide2 (ushr64 x2 (32 : Int32)).toInt32 x2.toInt32)), .second, .val (.long (wide2 (ushr64 x3 (32 : Int32)).toInt32 x3.toInt32)), .second, .unset, .unset, .unset, .unset] [(.int ((2 : Int32) + (4 : Int32))), (.ref o)] := s154
      |>.lstore #[.val (.int x0), .val (.int x1), .val (.long x2), .second, .val (.long x3), .second, .val (.int x4), .val (.int (2 : Int32)), .val (.ref o), .val (.long (wide2 (ushr64 x2 (32 : Int32)).toInt32 x2.toInt32)), .second, .val (.long (wide2 (ushr64 x3 (32 : Int32)).toInt32 x3.toInt32)), .second, .unset, .unset, .unset, .unset] at_143 rfl rfl
      |>.aload at_145 rfl rfl
      |>.iload at_147 rfl rfl
      |>.iconst (4 : Int32) at_149 rfl rfl
      |>.iadd at_150 rfl
    obtain ⟨r157, s156⟩ := Sit.callV (C := "reenact/trace/IntList") (y := (⟨"reenact/trace/IntList", "getWide", "(I)J"⟩ : MethodName)) (W := 0) (Q := fun rv_ hh => (rv_ = some (.long (wide2 x0 x1))) ∧ (fun hh => IL Z hh o v [x0, x1, (ushr64 x2 (32 : Int32)).toInt32, x2.toInt32, (ushr64 x3 (32 : Int32)).toInt32, x3.toInt32, x0, x1] []) hh) [(.int ((2 : Int32) + (4 : Int32)))] [] s155 hZ hown (wi hw 25 rfl) (wi hw 26 rfl) (wi hw 28 rfl) (wi hw 27 rfl) (wi hw 29 rfl) (wi hw 2 rfl) (by decide) (fun hh q => q.1) (fun h1 hP hn => (rmGet l Z a0 hw [] o ((2 : Int32) + (4 : Int32)) v [x0, x1, (ushr64 x2 (32 : Int32)).toInt32, x2.toInt32, (ushr64 x3 (32 : Int32)).toInt32, x3.toInt32, x0, x1] [] 6 x0 x1 h1 n0 hn hP rfl (by decide) rfl rfl).mono fun rv_ hh q => ⟨q.1, q.2 ▸ hP⟩) hml rfl (lenOf pd_5 rfl) at_151 (Nat.le_of_eq rfl) (by decide) (by decide) (by decide) (by decide) (pc' := 154) rfl
    obtain ⟨_, er157, _⟩ := s156.facts
    subst er157
    have s158 : Sit p l e _ s m _ below meth c _ st n0 2 10 (fun hh => IL Z hh o v [x0, x1, (ushr64 x2 (32 : Int32)).toInt32, x2.toInt32, (ushr64 x3 (32 : Int32)).toInt32, x3.toInt32, x0, x1] []) 154 #[.val (.int x0), .val (.int x1), .val (.long x2), .second, .val (.long x3), .second, .val (.int x4), .val (.int (2 : Int32)), .val (.ref o), .val (.long (wide2 (ushr64 x2 (32 : Int32)).toInt32 x2.toInt32)), .second, .val (.long (wide2 (ushr64 x3 (32 : Int32)).toInt32 x3.toInt32)), .second, .unset, .unset, .unset, .unset] [(.long (wide2 x0 x1))] := s156.mono fun _ q => q.2
    have s159 : Sit p l e _ s m _ below meth c _ st n0 2 10 _ 163 #[.val (.int x0), .val (.int x1), .val (.long x2), .second, .val (.long x3), .second, .val (.int x4), .val (.int (2 : Int32)), .val (.ref o), .val (.long (wide2 (ushr64 x2 (32 : Int32)).toInt32 x2.toInt32)), .second, .val (.long (wide2 (ushr64 x3 (32 : Int32)).toInt32 x3.toInt32)), .second, .val (.long (wide2 x0 x1)), .second, .unset, .unset] [(.int x0), (.int (ushr64 (wide2 x0 x1) (32 : Int32)).toInt32)] := s158
      |>.lstore #[.val (.int x0), .val (.int x1), .val (.long x2), .second, .val (.long x3), .second, .val (.int x4), .val (.int (2 : Int32)), .val (.ref o), .val (.long (wide2 (ushr64 x2 (32 : Int32)).toInt32 x2.toInt32)), .second, .val (.long (wide2 (ushr64 x3 (32 : Int32)).toInt32 x3.toInt32)), .second, .val (.long (wide2 x0 x1)), .second, .unset, .unset] at_154 rfl rfl
      |>.lload at_156 rfl rfl
      |>.bipush (32 : Int32) at_158 rfl rfl
      |>.lushr at_160 rfl
      |>.l2i at_161 rfl
      |>.iloadN at_162 rfl rfl
    have s160 : Sit p l e _ s m _ below meth c _ st n0 2 10 _ 177 #[.val (.int x0), .val (.int x1), .val (.long x2), .second, .val (.long x3), .second, .val (.int x4), .val (.int (2 : Int32)), .val (.ref o), .val (.long (wide2 (ushr64 x2 (32 : Int32)).toInt32 x2.toInt32)), .second, .val (.long (wide2 (ushr64 x3 (32 : Int32)).toInt32 x3.toInt32)), .second, .val (.long (wide2 x0 x1)), .second, .val (.int (1 : Int32)), .unset] [(.int x1), (.int (wide2 x0 x1).toInt32)] := s159
      |>.icmpN at_163 ((neF (Classical.not_not.mp (show ¬ (¬ (ushr64 (wide2 x0 x1) (32 : Int32)).toInt32 = x0) from fun h => h (wide_hi x0 x1))))) rfl
      |>.iconst (1 : Int32) at_166 rfl rfl
      |>.goto at_167 (by decide) (by decide)
      |>.istore #[.val (.int x0), .val (.int x1), .val (.long x2), .second, .val (.long x3), .second, .val (.int x4), .val (.int (2 : Int32)), .val (.ref o), .val (.long (wide2 (ushr64 x2 (32 : Int32)).toInt32 x2.toInt32)), .second, .val (.long (wide2 (ushr64 x3 (32 : Int32)).toInt32 x3.toInt32)), .second, .val (.long (wide2 x0 x1)), .second, .val (.int (1 : Int32)), .unset] at_171 rfl rfl
      |>.lload at_173 rfl rfl
      |>.l2i at_175 rfl
      |>.iloadN at_176 rfl rfl
    have s161 : Sit p l e _ s m _ below meth c _ st n0 2 10 _ 191 #[.val (.int x0), .val (.int x1), .val (.long x2), .second, .val (.long x3), .second, .val (.int x4), .val (.int (2 : Int32)), .val (.ref o), .val (.long (wide2 (ushr64 x2 (32 : Int32)).toInt32 x2.toInt32)), .second, .val (.long (wide2 (ushr64 x3 (32 : Int32)).toInt32 x3.toInt32)), .second, .val (.long (wide2 x0 x1)), .second, .val (.int (1 : Int32)), .val (.int (1 : Int32))] [(.int (lcmp3 (wide2 (ushr64 x2 (32 : Int32)).toInt32 x2.toInt32) x2))] := s160
      |>.icmpN at_177 ((neF (Classical.not_not.mp (show ¬ (¬ (wide2 x0 x1).toInt32 = x1) from fun h => h (wide_lo x0 x1))))) rfl
      |>.iconst (1 : Int32) at_180 rfl rfl
      |>.goto at_181 (by decide) (by decide)
      |>.istore #[.val (.int x0), .val (.int x1), .val (.long x2), .second, .val (.long x3), .second, .val (.int x4), .val (.int (2 : Int32)), .val (.ref o), .val (.long (wide2 (ushr64 x2 (32 : Int32)).toInt32 x2.toInt32)), .second, .val (.long (wide2 (ushr64 x3 (32 : Int32)).toInt32 x3.toInt32)), .second, .val (.long (wide2 x0 x1)), .second, .val (.int (1 : Int32)), .val (.int (1 : Int32))] at_185 rfl rfl
      |>.lload at_187 rfl rfl
      |>.lloadN at_189 rfl rfl
      |>.lcmp at_190 rfl
    have s162 : Sit p l e _ s m _ below meth c _ st n0 2 10 _ 199 #[.val (.int x0), .val (.int x1), .val (.long x2), .second, .val (.long x3), .second, .val (.int x4), .val (.int (2 : Int32)), .val (.ref o), .val (.long (wide2 (ushr64 x2 (32 : Int32)).toInt32 x2.toInt32)), .second, .val (.long (wide2 (ushr64 x3 (32 : Int32)).toInt32 x3.toInt32)), .second, .val (.long (wide2 x0 x1)), .second, .val (.int (1 : Int32)), .val (.int (1 : Int32))] [(.int (lcmp3 (wide2 (ushr64 x3 (32 : Int32)).toInt32 x3.toInt32) x3))] := s161
      |>.ifN at_191 (lcF (cd := .ne) (show ¬ (¬ (wide2 (ushr64 x2 (32 : Int32)).toInt32 x2.toInt32) = x2) from fun h => h (wide_back x2))) rfl
      |>.lload at_194 rfl rfl
      |>.lload at_196 rfl rfl
      |>.lcmp at_198 rfl
    have s163 : Sit p l e _ s m _ below meth c _ st n0 2 10 _ 204 #[.val (.int x0), .val (.int x1), .val (.long x2), .second, .val (.long x3), .second, .val (.int x4), .val (.int (2 : Int32)), .val (.ref o), .val (.long (wide2 (ushr64 x2 (32 : Int32)).toInt32 x2.toInt32)), .second, .val (.long (wide2 (ushr64 x3 (32 : Int32)).toInt32 x3.toInt32)), .second, .val (.long (wide2 x0 x1)), .second, .val (.int (1 : Int32)), .val (.int (1 : Int32))] [(.int (1 : Int32))] := s162
      |>.ifN at_199 (lcF (cd := .ne) (show ¬ (¬ (wide2 (ushr64 x3 (32 : Int32)).toInt32 x3.toInt32) = x3) from fun h => h (wide_back x3))) rfl
      |>.iload at_202 rfl rfl
    have s164 : Sit p l e _ s m _ below meth c _ st n0 2 10 _ 209 #[.val (.int x0), .val (.int x1), .val (.long x2), .second, .val (.long x3), .second, .val (.int x4), .val (.int (2 : Int32)), .val (.ref o), .val (.long (wide2 (ushr64 x2 (32 : Int32)).toInt32 x2.toInt32)), .second, .val (.long (wide2 (ushr64 x3 (32 : Int32)).toInt32 x3.toInt32)), .second, .val (.long (wide2 x0 x1)), .second, .val (.int (1 : Int32)), .val (.int (1 : Int32))] [(.int (1 : Int32))] := s163
      |>.ifN at_204 (eqF (show ¬ ((1 : Int32) = 0) from by decide)) rfl
      |>.iload at_207 rfl rfl
    have s165 : Sit p l e _ s m _ below meth c _ st n0 2 10 _ 214 #[.val (.int x0), .val (.int x1), .val (.long x2), .second, .val (.long x3), .second, .val (.int x4), .val (.int (2 : Int32)), .val (.ref o), .val (.long (wide2 (ushr64 x2 (32 : Int32)).toInt32 x2.toInt32)), .second, .val (.long (wide2 (ushr64 x3 (32 : Int32)).toInt32 x3.toInt32)), .second, .val (.long (wide2 x0 x1)), .second, .val (.int (1 : Int32)), .val (.int (1 : Int32))] [(.ref o)] := s164
      |>.ifN at_209 (eqF (show ¬ ((1 : Int32) = 0) from by decide)) rfl
      |>.aload at_212 rfl rfl
    obtain ⟨r167, s166⟩ := Sit.callV (C := "reenact/trace/IntList") (y := (⟨"reenact/trace/IntList", "size", "()I"⟩ : MethodName)) (W := 0) (Q := fun rv_ hh => (rv_ = some (.int (Int32.ofNat 8))) ∧ (fun hh => IL Z hh o v [x0, x1, (ushr64 x2 (32 : Int32)).toInt32, x2.toInt32, (ushr64 x3 (32 : Int32)).toInt32, x3.toInt32, x0, x1] []) hh) [] [] s165 hZ hown (wi hw 31 rfl) (wi hw 32 rfl) (wi hw 34 rfl) (wi hw 33 rfl) (wi hw 35 rfl) (wi hw 2 rfl) (by decide) (fun hh q => q.1) (fun h1 hP hn => (rmSize l Z a0 hw [] o v [x0, x1, (ushr64 x2 (32 : Int32)).toInt32, x2.toInt32, (ushr64 x3 (32 : Int32)).toInt32, x3.toInt32, x0, x1] [] h1 n0 hn hP).mono fun rv_ hh q => ⟨q.1, q.2 ▸ hP⟩) hml rfl (lenOf pd_6 rfl) at_214 (Nat.le_of_eq rfl) (by decide) (by decide) (by decide) (by decide) (pc' := 217) rfl
    obtain ⟨_, er167, _⟩ := s166.facts
    subst er167
    have s168 : Sit p l e _ s m _ below meth c _ st n0 2 10 (fun hh => IL Z hh o v [x0, x1, (ushr64 x2 (32 : Int32)).toInt32, x2.toInt32, (ushr64 x3 (32 : Int32)).toInt32, x3.toInt32, x0, x1] []) 217 #[.val (.int x0), .val (.int x1), .val (.long x2), .second, .val (.long x3), .second, .val (.int x4), .val (.int (2 : Int32)), .val (.ref o), .val (.long (wide2 (ushr64 x2 (32 : Int32)).toInt32 x2.toInt32)), .second, .val (.long (wide2 (ushr64 x3 (32 : Int32)).toInt32 x3.toInt32)), .second, .val (.long (wide2 x0 x1)), .second, .val (.int (1 : Int32)), .val (.int (1 : Int32))] [(.int (Int32.ofNat 8))] := s166.mono fun _ q => q.2
    have s169 : Sit p l e _ s m _ below meth c _ st n0 2 10 _ 222 #[.val (.int x0), .val (.int x1), .val (.long x2), .second, .val (.long x3), .second, .val (.int x4), .val (.int (2 : Int32)), .val (.ref o), .val (.long (wide2 (ushr64 x2 (32 : Int32)).toInt32 x2.toInt32)), .second, .val (.long (wide2 (ushr64 x3 (32 : Int32)).toInt32 x3.toInt32)), .second, .val (.long (wide2 x0 x1)), .second, .val (.int (1 : Int32)), .val (.int (1 : Int32))] [(.int ((2 : Int32) + (6 : Int32))), (.int (Int32.ofNat 8))] := s168
      |>.iload at_217 rfl rfl
      |>.bipush (6 : Int32) at_219 rfl rfl
      |>.iadd at_221 rfl
    have s170 : Sit p l e _ s m _ below meth c _ st n0 2 10 _ 230 #[.val (.int x0), .val (.int x1), .val (.long x2), .second, .val (.long x3), .second, .val (.int x4), .val (.int (2 : Int32)), .val (.ref o), .val (.long (wide2 (ushr64 x2 (32 : Int32)).toInt32 x2.toInt32)), .second, .val (.long (wide2 (ushr64 x3 (32 : Int32)).toInt32 x3.toInt32)), .second, .val (.long (wide2 x0 x1)), .second, .val (.int (1 : Int32)), .val (.int (1 : Int32))] [(.int (1 : Int32))] := s169
      |>.icmpN at_222 ((neF (Classical.not_not.mp (show ¬ (¬ (Int32.ofNat 8) = ((2 : Int32) + (6 : Int32))) from by decide)))) rfl
      |>.iconst (1 : Int32) at_225 rfl rfl
      |>.goto at_226 (by decide) (by decide)
    exact (s170.bound (by decide) (by decide)).retZ at_230 hret hlk (fun hh q => rfl)
  · have s171 : Sit p l e _ s m _ below meth c _ st n0 2 10 (fun hh => IL Z hh o v [] [0, 0, 0, 0, 0, 0, 0, 0]) 16 #[.val (.int x0), .val (.int x1), .val (.long x2), .second, .val (.long x3), .second, .val (.int x4), .val (.int (3 : Int32)), .val (.ref o), .unset, .unset, .unset, .unset, .unset, .unset, .unset, .unset] [] := s14
    have s172 : Sit p l e _ s m _ below meth c _ st n0 2 10 _ 18 #[.val (.int x0), .val (.int x1), .val (.long x2), .second, .val (.long x3), .second, .val (.int x4), .val (.int (3 : Int32)), .val (.ref o), .unset, .unset, .unset, .unset, .unset, .unset, .unset, .unset] [(.int (3 : Int32))] := s171
      |>.iload at_16 rfl rfl
    have s173 : Sit p l e _ s m _ below meth c _ st n0 2 10 _ 24 #[.val (.int x0), .val (.int x1), .val (.long x2), .second, .val (.long x3), .second, .val (.int x4), .val (.int (3 : Int32)), .val (.ref o), .unset, .unset, .unset, .unset, .unset, .unset, .unset, .unset] [(.int x0), (.ref o)] := s172
      |>.ifN at_18 (cmpF0 (cd := .le) (show ¬ ((3 : Int) ≤ 0) from by decide)) rfl
      |>.aload at_21 rfl rfl
      |>.iloadN at_23 rfl rfl
    obtain ⟨r175, s174⟩ := Sit.callV (C := "reenact/trace/IntList") (y := (⟨"reenact/trace/IntList", "add", "(I)V"⟩ : MethodName)) (W := 0) (Q := fun rv_ hh => (rv_ = none) ∧ (fun hh => IL Z hh o v [x0] [0, 0, 0, 0, 0, 0, 0]) hh) [(.int x0)] [] s173 hZ hown (wi hw 12 rfl) (wi hw 13 rfl) (wi hw 15 rfl) (wi hw 14 rfl) (wi hw 16 rfl) (wi hw 2 rfl) (by decide) (fun hh q => q.1) (fun h1 hP hn => (rmAdd l Z a0 hw [] o x0 v [] 0 [0, 0, 0, 0, 0, 0, 0] h1 n0 hn g_o g_v hP (by simp)).mono fun rv_ hh q => q) hml rfl (lenOf pd_2 rfl) at_24 (Nat.le_of_eq rfl) (by decide) (by decide) (by decide) (by decide) (pc' := 27) rfl
    obtain ⟨_, er175, _⟩ := s174.facts
    subst er175
    have s176 : Sit p l e _ s m _ below meth c _ st n0 2 10 (fun hh => IL Z hh o v [x0] [0, 0, 0, 0, 0, 0, 0]) 27 #[.val (.int x0), .val (.int x1), .val (.long x2), .second, .val (.long x3), .second, .val (.int x4), .val (.int (3 : Int32)), .val (.ref o), .unset, .unset, .unset, .unset, .unset, .unset, .unset, .unset] [] := s174.mono fun _ q => q.2
    have s177 : Sit p l e _ s m _ below meth c _ st n0 2 10 _ 30 #[.val (.int x0), .val (.int x1), .val (.long x2), .second, .val (.long x3), .second, .val (.int x4), .val (.int (3 : Int32)), .val (.ref o), .unset, .unset, .unset, .unset, .unset, .unset, .unset, .unset] [(.int (1 : Int32)), (.int (3 : Int32))] := s176
      |>.iload at_27 rfl rfl
      |>.iconst (1 : Int32) at_29 rfl rfl
    have s178 : Sit p l e _ s m _ below meth c _ st n0 2 10 _ 36 #[.val (.int x0), .val (.int x1), .val (.long x2), .second, .val (.long x3), .second, .val (.int x4), .val (.int (3 : Int32)), .val (.ref o), .unset, .unset, .unset, .unset, .unset, .unset, .unset, .unset] [(.int x1), (.ref o)] := s177
      |>.icmpN at_30 (cmpF (cd := .le) (show ¬ ((3 : Int) ≤ (1 : Int)) from by decide)) rfl
      |>.aload at_33 rfl rfl
      |>.iloadN at_35 rfl rfl
    obtain ⟨r180, s179⟩ := Sit.callV (C := "reenact/trace/IntList") (y := (⟨"reenact/trace/IntList", "add", "(I)V"⟩ : MethodName)) (W := 0) (Q := fun rv_ hh => (rv_ = none) ∧ (fun hh => IL Z hh o v [x0, x1] [0, 0, 0, 0, 0, 0]) hh) [(.int x1)] [] s178 hZ hown (wi hw 12 rfl) (wi hw 13 rfl) (wi hw 15 rfl) (wi hw 14 rfl) (wi hw 16 rfl) (wi hw 2 rfl) (by decide) (fun hh q => q.1) (fun h1 hP hn => (rmAdd l Z a0 hw [] o x1 v [x0] 0 [0, 0, 0, 0, 0, 0] h1 n0 hn g_o g_v hP (by simp)).mono fun rv_ hh q => q) hml rfl (lenOf pd_2 rfl) at_36 (Nat.le_of_eq rfl) (by decide) (by decide) (by decide) (by decide) (pc' := 39) rfl
    obtain ⟨_, er180, _⟩ := s179.facts
    subst er180
    have s181 : Sit p l e _ s m _ below meth c _ st n0 2 10 (fun hh => IL Z hh o v [x0, x1] [0, 0, 0, 0, 0, 0]) 39 #[.val (.int x0), .val (.int x1), .val (.long x2), .second, .val (.long x3), .second, .val (.int x4), .val (.int (3 : Int32)), .val (.ref o), .unset, .unset, .unset, .unset, .unset, .unset, .unset, .unset] [] := s179.mono fun _ q => q.2
    have s182 : Sit p l e _ s m _ below meth c _ st n0 2 10 _ 42 #[.val (.int x0), .val (.int x1), .val (.long x2), .second, .val (.long x3), .second, .val (.int x4), .val (.int (3 : Int32)), .val (.ref o), .unset, .unset, .unset, .unset, .unset, .unset, .unset, .unset] [(.int (2 : Int32)), (.int (3 : Int32))] := s181
      |>.iload at_39 rfl rfl
      |>.iconst (2 : Int32) at_41 rfl rfl
    have s183 : Sit p l e _ s m _ below meth c _ st n0 2 10 _ 48 #[.val (.int x0), .val (.int x1), .val (.long x2), .second, .val (.long x3), .second, .val (.int x4), .val (.int (3 : Int32)), .val (.ref o), .unset, .unset, .unset, .unset, .unset, .unset, .unset, .unset] [(.int x0), (.ref o)] := s182
      |>.icmpN at_42 (cmpF (cd := .le) (show ¬ ((3 : Int) ≤ (2 : Int)) from by decide)) rfl
      |>.aload at_45 rfl rfl
      |>.iloadN at_47 rfl rfl
    obtain ⟨r185, s184⟩ := Sit.callV (C := "reenact/trace/IntList") (y := (⟨"reenact/trace/IntList", "add", "(I)V"⟩ : MethodName)) (W := 0) (Q := fun rv_ hh => (rv_ = none) ∧ (fun hh => IL Z hh o v [x0, x1, x0] [0, 0, 0, 0, 0]) hh) [(.int x0)] [] s183 hZ hown (wi hw 12 rfl) (wi hw 13 rfl) (wi hw 15 rfl) (wi hw 14 rfl) (wi hw 16 rfl) (wi hw 2 rfl) (by decide) (fun hh q => q.1) (fun h1 hP hn => (rmAdd l Z a0 hw [] o x0 v [x0, x1] 0 [0, 0, 0, 0, 0] h1 n0 hn g_o g_v hP (by simp)).mono fun rv_ hh q => q) hml rfl (lenOf pd_2 rfl) at_48 (Nat.le_of_eq rfl) (by decide) (by decide) (by decide) (by decide) (pc' := 51) rfl
    obtain ⟨_, er185, _⟩ := s184.facts
    subst er185
    have s186 : Sit p l e _ s m _ below meth c _ st n0 2 10 (fun hh => IL Z hh o v [x0, x1, x0] [0, 0, 0, 0, 0]) 51 #[.val (.int x0), .val (.int x1), .val (.long x2), .second, .val (.long x3), .second, .val (.int x4), .val (.int (3 : Int32)), .val (.ref o), .unset, .unset, .unset, .unset, .unset, .unset, .unset, .unset] [] := s184.mono fun _ q => q.2
    have s187 : Sit p l e _ s m _ below meth c _ st n0 2 10 _ 54 #[.val (.int x0), .val (.int x1), .val (.long x2), .second, .val (.long x3), .second, .val (.int x4), .val (.int (3 : Int32)), .val (.ref o), .unset, .unset, .unset, .unset, .unset, .unset, .unset, .unset] [(.int (3 : Int32)), (.int (3 : Int32))] := s186
      |>.iload at_51 rfl rfl
      |>.iconst (3 : Int32) at_53 rfl rfl
    have s188 : Sit p l e _ s m _ below meth c _ st n0 2 10 _ 66 #[.val (.int x0), .val (.int x1), .val (.long x2), .second, .val (.long x3), .second, .val (.int x4), .val (.int (3 : Int32)), .val (.ref o), .unset, .unset, .unset, .unset, .unset, .unset, .unset, .unset] [(.int (4 : Int32)), (.int (3 : Int32))] := s187
      |>.icmpY at_54 (cmpT (cd := .le) (show (3 : Int) ≤ (3 : Int) from by decide)) (by decide) (by decide)
      |>.iload at_63 rfl rfl
      |>.iconst (4 : Int32) at_65 rfl rfl
    have s189 : Sit p l e _ s m _ below meth c _ st n0 2 10 _ 78 #[.val (.int x0), .val (.int x1), .val (.long x2), .second, .val (.long x3), .second, .val (.int x4), .val (.int (3 : Int32)), .val (.ref o), .unset, .unset, .unset, .unset, .unset, .unset, .unset, .unset] [(.int (5 : Int32)), (.int (3 : Int32))] := s188
      |>.icmpY at_66 (cmpT (cd := .le) (show (3 : Int) ≤ (4 : Int) from by decide)) (by decide) (by decide)
      |>.iload at_75 rfl rfl
      |>.iconst (5 : Int32) at_77 rfl rfl
    have s190 : Sit p l e _ s m _ below meth c _ st n0 2 10 _ 91 #[.val (.int x0), .val (.int x1), .val (.long x2), .second, .val (.long x3), .second, .val (.int x4), .val (.int (3 : Int32)), .val (.ref o), .unset, .unset, .unset, .unset, .unset, .unset, .unset, .unset] [(.int (6 : Int32)), (.int (3 : Int32))] := s189
      |>.icmpY at_78 (cmpT (cd := .le) (show (3 : Int) ≤ (5 : Int) from by decide)) (by decide) (by decide)
      |>.iload at_87 rfl rfl
      |>.bipush (6 : Int32) at_89 rfl rfl
    have s191 : Sit p l e _ s m _ below meth c _ st n0 2 10 _ 103 #[.val (.int x0), .val (.int x1), .val (.long x2), .second, .val (.long x3), .second, .val (.int x4), .val (.int (3 : Int32)), .val (.ref o), .unset, .unset, .unset, .unset, .unset, .unset, .unset, .unset] [(.long x2), (.ref o)] := s190
      |>.icmpY at_91 (cmpT (cd := .le) (show (3 : Int) ≤ (6 : Int) from by decide)) (by decide) (by decide)
      |>.aload at_100 rfl rfl
      |>.lloadN at_102 rfl rfl
    obtain ⟨r193, s192⟩ := Sit.callV (C := "reenact/trace/IntList") (y := (⟨"reenact/trace/IntList", "addWide", "(J)V"⟩ : MethodName)) (W := 0) (Q := fun rv_ hh => (rv_ = none) ∧ (fun hh => IL Z hh o v [x0, x1, x0, (ushr64 x2 (32 : Int32)).toInt32, x2.toInt32] [0, 0, 0]) hh) [(.long x2)] [] s191 hZ hown (wi hw 19 rfl) (wi hw 20 rfl) (wi hw 22 rfl) (wi hw 21 rfl) (wi hw 23 rfl) (wi hw 2 rfl) (by decide) (fun hh q => q.1) (fun h1 hP hn => (rmWnn l Z a0 hw [] o x2 v [x0, x1, x0] 0 0 [0, 0, 0] h1 n0 hn g_o g_v hP (by simp)).mono fun rv_ hh q => q) hml rfl (lenOf pd_4 rfl) at_103 (Nat.le_of_eq rfl) (by decide) (by decide) (by decide) (by decide) (pc' := 106) rfl
    obtain ⟨_, er193, _⟩ := s192.facts
    subst er193
    have s194 : Sit p l e _ s m _ below meth c _ st n0 2 10 (fun hh => IL Z hh o v [x0, x1, x0, (ushr64 x2 (32 : Int32)).toInt32, x2.toInt32] [0, 0, 0]) 106 #[.val (.int x0), .val (.int x1), .val (.long x2), .second, .val (.long x3), .second, .val (.int x4), .val (.int (3 : Int32)), .val (.ref o), .unset, .unset, .unset, .unset, .unset, .unset, .unset, .unset] [] := s192.mono fun _ q => q.2
    have s195 : Sit p l e _ s m _ below meth c _ st n0 2 10 _ 110 #[.val (.int x0), .val (.int x1), .val (.long x2), .second, .val (.long x3), .second, .val (.int x4), .val (.int (3 : Int32)), .val (.ref o), .unset, .unset, .unset, .unset, .unset, .unset, .unset, .unset] [(.long x3), (.ref o)] := s194
      |>.aload at_106 rfl rfl
      |>.lload at_108 rfl rfl
    obtain ⟨r197, s196⟩ := Sit.callV (C := "reenact/trace/IntList") (y := (⟨"reenact/trace/IntList", "addWide", "(J)V"⟩ : MethodName)) (W := 0) (Q := fun rv_ hh => (rv_ = none) ∧ (fun hh => IL Z hh o v [x0, x1, x0, (ushr64 x2 (32 : Int32)).toInt32, x2.toInt32, (ushr64 x3 (32 : Int32)).toInt32, x3.toInt32] [0]) hh) [(.long x3)] [] s195 hZ hown (wi hw 19 rfl) (wi hw 20 rfl) (wi hw 22 rfl) (wi hw 21 rfl) (wi hw 23 rfl) (wi hw 2 rfl) (by decide) (fun hh q => q.1) (fun h1 hP hn => (rmWnn l Z a0 hw [] o x3 v [x0, x1, x0, (ushr64 x2 (32 : Int32)).toInt32, x2.toInt32] 0 0 [0] h1 n0 hn g_o g_v hP (by simp)).mono fun rv_ hh q => q) hml rfl (lenOf pd_4 rfl) at_110 (Nat.le_of_eq rfl) (by decide) (by decide) (by decide) (by decide) (pc' := 113) rfl
    obtain ⟨_, er197, _⟩ := s196.facts
    subst er197
    have s198 : Sit p l e _ s m _ below meth c _ st n0 2 10 (fun hh => IL Z hh o v [x0, x1, x0, (ushr64 x2 (32 : Int32)).toInt32, x2.toInt32, (ushr64 x3 (32 : Int32)).toInt32, x3.toInt32] [0]) 113 #[.val (.int x0), .val (.int x1), .val (.long x2), .second, .val (.long x3), .second, .val (.int x4), .val (.int (3 : Int32)), .val (.ref o), .unset, .unset, .unset, .unset, .unset, .unset, .unset, .unset] [] := s196.mono fun _ q => q.2
    have s199 : Sit p l e _ s m _ below meth c _ st n0 2 10 _ 116 #[.val (.int x0), .val (.int x1), .val (.long x2), .second, .val (.long x3), .second, .val (.int x4), .val (.int (3 : Int32)), .val (.ref o), .unset, .unset, .unset, .unset, .unset, .unset, .unset, .unset] [(.int x0), (.ref o)] := s198
      |>.aload at_113 rfl rfl
      |>.iloadN at_115 rfl rfl
    obtain ⟨r201, s200⟩ := Sit.callV (C := "reenact/trace/IntList") (y := (⟨"reenact/trace/IntList", "add", "(I)V"⟩ : MethodName)) (W := 0) (Q := fun rv_ hh => (rv_ = none) ∧ (fun hh => IL Z hh o v [x0, x1, x0, (ushr64 x2 (32 : Int32)).toInt32, x2.toInt32, (ushr64 x3 (32 : Int32)).toInt32, x3.toInt32, x0] []) hh) [(.int x0)] [] s199 hZ hown (wi hw 12 rfl) (wi hw 13 rfl) (wi hw 15 rfl) (wi hw 14 rfl) (wi hw 16 rfl) (wi hw 2 rfl) (by decide) (fun hh q => q.1) (fun h1 hP hn => (rmAdd l Z a0 hw [] o x0 v [x0, x1, x0, (ushr64 x2 (32 : Int32)).toInt32, x2.toInt32, (ushr64 x3 (32 : Int32)).toInt32, x3.toInt32] 0 [] h1 n0 hn g_o g_v hP (by simp)).mono fun rv_ hh q => q) hml rfl (lenOf pd_2 rfl) at_116 (Nat.le_of_eq rfl) (by decide) (by decide) (by decide) (by decide) (pc' := 119) rfl
    obtain ⟨_, er201, _⟩ := s200.facts
    subst er201
    have s202 : Sit p l e _ s m _ below meth c _ st n0 2 10 (fun hh => IL Z hh o v [x0, x1, x0, (ushr64 x2 (32 : Int32)).toInt32, x2.toInt32, (ushr64 x3 (32 : Int32)).toInt32, x3.toInt32, x0] []) 119 #[.val (.int x0), .val (.int x1), .val (.long x2), .second, .val (.long x3), .second, .val (.int x4), .val (.int (3 : Int32)), .val (.ref o), .unset, .unset, .unset, .unset, .unset, .unset, .unset, .unset] [] := s200.mono fun _ q => q.2
    have s203 : Sit p l e _ s m _ below meth c _ st n0 2 10 _ 122 #[.val (.int x0), .val (.int x1), .val (.long x2), .second, .val (.long x3), .second, .val (.int x4), .val (.int (3 : Int32)), .val (.ref o), .unset, .unset, .unset, .unset, .unset, .unset, .unset, .unset] [(.int x1), (.ref o)] := s202
      |>.aload at_119 rfl rfl
      |>.iloadN at_121 rfl rfl
    obtain ⟨r205, s204⟩ := Sit.callV (C := "reenact/trace/IntList") (y := (⟨"reenact/trace/IntList", "add", "(I)V"⟩ : MethodName)) (W := 0) (Q := fun rv_ hh => (rv_ = none) ∧ (fun hh => ∃ b, n0 ≤ b ∧ IL Z hh o b [x0, x1, x0, (ushr64 x2 (32 : Int32)).toInt32, x2.toInt32, (ushr64 x3 (32 : Int32)).toInt32, x3.toInt32, x0, x1] (List.replicate 7 0)) hh) [(.int x1)] [] s203 hZ hown (wi hw 12 rfl) (wi hw 13 rfl) (wi hw 15 rfl) (wi hw 14 rfl) (wi hw 16 rfl) (wi hw 2 rfl) (by decide) (fun hh q => q.1) (fun h1 hP hn => (rmGrow l Z a0 hw [] o x1 v [x0, x1, x0, (ushr64 x2 (32 : Int32)).toInt32, x2.toInt32, (ushr64 x3 (32 : Int32)).toInt32, x3.toInt32, x0] h1 n0 hn g_o g_v hP rfl).mono fun rv_ hh q => q) hml rfl (lenOf pd_2 rfl) at_122 (Nat.le_of_eq rfl) (by decide) (by decide) (by decide) (by decide) (pc' := 125) rfl
    obtain ⟨_, er205, _⟩ := s204.facts
    subst er205
    have s206 : Sit p l e _ s m _ below meth c _ st n0 3 26 (fun hh => ∃ b, n0 ≤ b ∧ IL Z hh o b [x0, x1, x0, (ushr64 x2 (32 : Int32)).toInt32, x2.toInt32, (ushr64 x3 (32 : Int32)).toInt32, x3.toInt32, x0, x1] (List.replicate 7 0)) 125 #[.val (.int x0), .val (.int x1), .val (.long x2), .second, .val (.long x3), .second, .val (.int x4), .val (.int (3 : Int32)), .val (.ref o), .unset, .unset, .unset, .unset, .unset, .unset, .unset, .unset] [] := s204.mono fun _ q => q.2
    obtain ⟨b, s207⟩ := s206.ex
    have s208 : Sit p l e _ s m _ below meth c _ st n0 3 26 (fun hh => n0 ≤ b ∧ IL Z hh o b [x0, x1, x0, (ushr64 x2 (32 : Int32)).toInt32, x2.toInt32, (ushr64 x3 (32 : Int32)).toInt32, x3.toInt32, x0, x1] (List.replicate 7 0)) 125 #[.val (.int x0), .val (.int x1), .val (.long x2), .second, .val (.long x3), .second, .val (.int x4), .val (.int (3 : Int32)), .val (.ref o), .unset, .unset, .unset, .unset, .unset, .unset, .unset, .unset] [] := s207
    obtain ⟨_, g_b, -⟩ := s208.facts
    have s209 : Sit p l e _ s m _ below meth c _ st n0 3 26 (fun hh => IL Z hh o b [x0, x1, x0, (ushr64 x2 (32 : Int32)).toInt32, x2.toInt32, (ushr64 x3 (32 : Int32)).toInt32, x3.toInt32, x0, x1] [0, 0, 0, 0, 0, 0, 0]) 125 #[.val (.int x0), .val (.int x1), .val (.long x2), .second, .val (.long x3), .second, .val (.int x4), .val (.int (3 : Int32)), .val (.ref o), .unset, .unset, .unset, .unset, .unset, .unset, .unset, .unset] [] := s208.mono fun hh q => q.2
    have s210 : Sit p l e _ s m _ below meth c _ st n0 3 26 _ 129 #[.val (.int x0), .val (.int x1), .val (.long x2), .second, .val (.long x3), .second, .val (.int x4), .val (.int (3 : Int32)), .val (.ref o), .unset, .unset, .unset, .unset, .unset, .unset, .unset, .unset] [(.int (3 : Int32)), (.ref o)] := s209
      |>.aload at_125 rfl rfl
      |>.iload at_127 rfl rfl
    obtain ⟨r212, s211⟩ := Sit.callV (C := "reenact/trace/IntList") (y := (⟨"reenact/trace/IntList", "getWide", "(I)J"⟩ : MethodName)) (W := 0) (Q := fun rv_ hh => (rv_ = some (.long (wide2 (ushr64 x2 (32 : Int32)).toInt32 x2.toInt32))) ∧ (fun hh => IL Z hh o b [x0, x1, x0, (ushr64 x2 (32 : Int32)).toInt32, x2.toInt32, (ushr64 x3 (32 : Int32)).toInt32, x3.toInt32, x0, x1] [0, 0, 0, 0, 0, 0, 0]) hh) [(.int (3 : Int32))] [] s210 hZ hown (wi hw 25 rfl) (wi hw 26 rfl) (wi hw 28 rfl) (wi hw 27 rfl) (wi hw 29 rfl) (wi hw 2 rfl) (by decide) (fun hh q => q.1) (fun h1 hP hn => (rmGet l Z a0 hw [] o (3 : Int32) b [x0, x1, x0, (ushr64 x2 (32 : Int32)).toInt32, x2.toInt32, (ushr64 x3 (32 : Int32)).toInt32, x3.toInt32, x0, x1] [0, 0, 0, 0, 0, 0, 0] 3 (ushr64 x2 (32 : Int32)).toInt32 x2.toInt32 h1 n0 hn hP rfl (by decide) rfl rfl).mono fun rv_ hh q => ⟨q.1, q.2 ▸ hP⟩) hml rfl (lenOf pd_5 rfl) at_129 (Nat.le_of_eq rfl) (by decide) (by decide) (by decide) (by decide) (pc' := 132) rfl
    obtain ⟨_, er212, _⟩ := s211.facts
    subst er212
    have s213 : Sit p l e _ s m _ below meth c _ st n0 3 26 (fun hh => IL Z hh o b [x0, x1, x0, (ushr64 x2 (32 : Int32)).toInt32, x2.toInt32, (ushr64 x3 (32 : Int32)).toInt32, x3.toInt32, x0, x1] [0, 0, 0, 0, 0, 0, 0]) 132 #[.val (.int x0), .val (.int x1), .val (.long x2), .second, .val (.long x3), .second, .val (.int x4), .val (.int (3 : Int32)), .val (.ref o), .unset, .unset, .unset, .unset, .unset, .unset, .unset, .unset] [(.long (wide2 (ushr64 x2 (32 : Int32)).toInt32 x2.toInt32))] := s211.mono fun _ q => q.2
    have s214 : Sit p l e _ s m _ below meth c _ st n0 3 26 _ 140 #[.val (.int x0), .val (.int x1), .val (.long x2), .second, .val (.long x3), .second, .val (.int x4), .val (.int (3 : Int32)), .val (.ref o), .val (.long (wide2 (ushr64 x2 (32 : Int32)).toInt32 x2.toInt32)), .second, .unset, .unset, .unset, .unset, .unset, .unset] [(.int ((3 : Int32) + (2 : Int32))), (.ref o)] := s213
      |>.lstore #[.val (.int x0), .val (.int x1), .val (.long x2), .second, .val (.long x3), .second, .val (.int x4), .val (.int (3 : Int32)), .val (.ref o), .val (.long (wide2 (ushr64 x2 (32 : Int32)).toInt32 x2.toInt32)), .second, .unset, .unset, .unset, .unset, .unset, .unset] at_132 rfl rfl
      |>.aload at_134 rfl rfl
      |>.iload at_136 rfl rfl
      |>.iconst (2 : Int32) at_138 rfl rfl
      |>.iadd at_139 rfl
    obtain ⟨r216, s215⟩ := Sit.callV (C := "reenact/trace/IntList") (y := (⟨"reenact/trace/IntList", "getWide", "(I)J"⟩ : MethodName)) (W := 0) (Q := fun rv_ hh => (rv_ = some (.long (wide2 (ushr64 x3 (32 : Int32)).toInt32 x3.toInt32))) ∧ (fun hh => IL Z hh o b [x0, x1, x0, (ushr64 x2 (32 : Int32)).toInt32, x2.toInt32, (ushr64 x3 (32 : Int32)).toInt32, x3.toInt32, x0, x1] [0, 0, 0, 0, 0, 0, 0]) hh) [(.int ((3 : Int32) + (2 : Int32)))] [] s214 hZ hown (wi hw 25 rfl) (wi hw 26 rfl) (wi hw 28 rfl) (wi hw 27 rfl) (wi hw 29 rfl) (wi hw 2 rfl) (by decide) (fun hh q => q.1) (fun h1 hP hn => (rmGet l Z a0 hw [] o ((3 : Int32) + (2 : Int32)) b [x0, x1, x0, (ushr64 x2 (32 : Int32)).toInt32, x2.toInt32, (ushr64 x3 (32 : Int32)).toInt32, x3.toInt32, x0, x1] [0, 0, 0, 0, 0, 0, 0] 5 (ushr64 x3 (32 : Int32)).toInt32 x3.toInt32 h1 n0 hn hP rfl (by decide) rfl rfl).mono fun rv_ hh q => ⟨q.1, q.2 ▸ hP⟩) hml rfl (lenOf pd_5 rfl) at_140 (Nat.le_of_eq rfl) (by decide) (by decide) (by decide) (by decide) (pc' := 143) rfl
    obtain ⟨_, er216, _⟩ := s215.facts
    subst er216
    have s217 : Sit p l e _ s m _ below meth c _ st n0 3 26 (fun hh => IL Z hh o b [x0, x1, x0, (ushr64 x2 (32 : Int32)).toInt32, x2.toInt32, (ushr64 x3 (32 : Int32)).toInt32, x3.toInt32, x0, x1] [0, 0, 0, 0, 0, 0, 0]) 143 #[.val (.int x0), .val (.int x1), .val (.long x2), .second, .val (.long x3), .second, .val (.int x4), .val (.int (3 : Int32)), .val (.ref o), .val (.long (wide2 (ushr64 x2 (32 : Int32)).toInt32 x2.toInt32)), .second, .unset, .unset, .unset, .unset, .unset, .unset] [(.long (wide2 (ushr64 x3 (32 : Int32)).toInt32 x3.toInt32))] := s215.mono fun _ q => q.2
    have s218 : Sit p l e _ s m _ below meth c _ st n0 3 26 _ 151 #[.val (.int x0), .val (.int x1), .val (.long x2), .second, .val (.long x3), .second, .val (.int x4), .val (.int (3 : Int32)), .val (.ref o), .val (.long (wide2 (ushr64 x2 (32 : Int32)).toInt32 x2.toInt32)), .second, .val (.long (wide2 (ushr64 x3 (32 : Int32)).toInt32 x3.toInt32)), .second, .unset, .unset, .unset, .unset] [(.int ((3 : Int32) + (4 : Int32))), (.ref o)] := s217
      |>.lstore #[.val (.int x0), .val (.int x1), .val (.long x2), .second, .val (.long x3), .second, .val (.int x4), .val (.int (3 : Int32)), .val (.ref o), .val (.long (wide2 (ushr64 x2 (32 : Int32)).toInt32 x2.toInt32)), .second, .val (.long (wide2 (ushr64 x3 (32 : Int32)).toInt32 x3.toInt32)), .second, .unset, .unset, .unset, .unset] at_143 rfl rfl
      |>.aload at_145 rfl rfl
      |>.iload at_147 rfl rfl
      |>.iconst (4 : Int32) at_149 rfl rfl
      |>.iadd at_150 rfl
    obtain ⟨r220, s219⟩ := Sit.callV (C := "reenact/trace/IntList") (y := (⟨"reenact/trace/IntList", "getWide", "(I)J"⟩ : MethodName)) (W := 0) (Q := fun rv_ hh => (rv_ = some (.long (wide2 x0 x1))) ∧ (fun hh => IL Z hh o b [x0, x1, x0, (ushr64 x2 (32 : Int32)).toInt32, x2.toInt32, (ushr64 x3 (32 : Int32)).toInt32, x3.toInt32, x0, x1] [0, 0, 0, 0, 0, 0, 0]) hh) [(.int ((3 : Int32) + (4 : Int32)))] [] s218 hZ hown (wi hw 25 rfl) (wi hw 26 rfl) (wi hw 28 rfl) (wi hw 27 rfl) (wi hw 29 rfl) (wi hw 2 rfl) (by decide) (fun hh q => q.1) (fun h1 hP hn => (rmGet l Z a0 hw [] o ((3 : Int32) + (4 : Int32)) b [x0, x1, x0, (ushr64 x2 (32 : Int32)).toInt32, x2.toInt32, (ushr64 x3 (32 : Int32)).toInt32, x3.toInt32, x0, x1] [0, 0, 0, 0, 0, 0, 0] 7 x0 x1 h1 n0 hn hP rfl (by decide) rfl rfl).mono fun rv_ hh q => ⟨q.1, q.2 ▸ hP⟩) hml rfl (lenOf pd_5 rfl) at_151 (Nat.le_of_eq rfl) (by decide) (by decide) (by decide) (by decide) (pc' := 154) rfl
    obtain ⟨_, er220, _⟩ := s219.facts
    subst er220
    have s221 : Sit p l e _ s m _ below meth c _ st n0 3 26 (fun hh => IL Z hh o b [x0, x1, x0, (ushr64 x2 (32 : Int32)).toInt32, x2.toInt32, (ushr64 x3 (32 : Int32)).toInt32, x3.toInt32, x0, x1] [0, 0, 0, 0, 0, 0, 0]) 154 #[.val (.int x0), .val (.int x1), .val (.long x2), .second, .val (.long x3), .second, .val (.int x4), .val (.int (3 : Int32)), .val (.ref o), .val (.long (wide2 (ushr64 x2 (32 : Int32)).toInt32 x2.toInt32)), .second, .val (.long (wide2 (ushr64 x3 (32 : Int32)).toInt32 x3.toInt32)), .second, .unset, .unset, .unset, .unset] [(.long (wide2 x0 x1))] := s219.mono fun _ q => q.2
    have s222 : Sit p l e _ s m _ below meth c _ st n0 3 26 _ 163 #[.val (.int x0), .val (.int x1), .val (.long x2), .second, .val (.long x3), .second, .val (.int x4), .val (.int (3 : Int32)), .val (.ref o), .val (.long (wide2 (ushr64 x2 (32 : Int32)).toInt32 x2.toInt32)), .second, .val (.long (wide2 (ushr64 x3 (32 : Int32)).toInt32 x3.toInt32)), .second, .val (.long (wide2 x0 x1)), .second, .unset, .unset] [(.int x0), (.int (ushr64 (wide2 x0 x1) (32 : Int32)).toInt32)] := s221
      |>.lstore #[.val (.int x0), .val (.int x1), .val (.long x2), .second, .val (.long x3), .second, .val (.int x4), .val (.int (3 : Int32)), .val (.ref o), .val (.long (wide2 (ushr64 x2 (32 : Int32)).toInt32 x2.toInt32)), .second, .val (.long (wide2 (ushr64 x3 (32 : Int32)).toInt32 x3.toInt32)), .second, .val (.long (wide2 x0 x1)), .second, .unset, .unset] at_154 rfl rfl
      |>.lload at_156 rfl rfl
      |>.bipush (32 : Int32) at_158 rfl rfl
      |>.lushr at_160 rfl
      |>.l2i at_161 rfl
      |>.iloadN at_162 rfl rfl
    have s223 : Sit p l e _ s m _ below meth c _ st n0 3 26 _ 177 #[.val (.int x0), .val (.int x1), .val (.long x2), .second, .val (.long x3), .second, .val (.int x4), .val (.int (3 : Int32)), .val (.ref o), .val (.long (wide2 (ushr64 x2 (32 : Int32)).toInt32 x2.toInt32)), .second, .val (.long (wide2 (ushr64 x3 (32 : Int32)).toInt32 x3.toInt32)), .second, .val (.long (wide2 x0 x1)), .second, .val (.int (1 : Int32)), .unset] [(.int x1), (.int (wide2 x0 x1).toInt32)] := s222
      |>.icmpN at_163 ((neF (Classical.not_not.mp (show ¬ (¬ (ushr64 (wide2 x0 x1) (32 : Int32)).toInt32 = x0) from fun h => h (wide_hi x0 x1))))) rfl
      |>.iconst (1 : Int32) at_166 rfl rfl
      |>.goto at_167 (by decide) (by decide)
      |>.istore #[.val (.int x0), .val (.int x1), .val (.long x2), .second, .val (.long x3), .second, .val (.int x4), .val (.int (3 : Int32)), .val (.ref o), .val (.long (wide2 (ushr64 x2 (32 : Int32)).toInt32 x2.toInt32)), .second, .val (.long (wide2 (ushr64 x3 (32 : Int32)).toInt32 x3.toInt32)), .second, .val (.long (wide2 x0 x1)), .second, .val (.int (1 : Int32)), .unset] at_171 rfl rfl
      |>.lload at_173 rfl rfl
      |>.l2i at_175 rfl
      |>.iloadN at_176 rfl rfl
    have s224 : Sit p l e _ s m _ below meth c _ st n0 3 26 _ 191 #[.val (.int x0), .val (.int x1), .val (.long x2), .second, .val (.long x3), .second, .val (.int x4), .val (.int (3 : Int32)), .val (.ref o), .val (.long (wide2 (ushr64 x2 (32 : Int32)).toInt32 x2.toInt32)), .second, .val (.long (wide2 (ushr64 x3 (32 : Int32)).toInt32 x3.toInt32)), .second, .val (.long (wide2 x0 x1)), .second, .val (.int (1 : Int32)), .val (.int (1 : Int32))] [(.int (lcmp3 (wide2 (ushr64 x2 (32 : Int32)).toInt32 x2.toInt32) x2))] := s223
      |>.icmpN at_177 ((neF (Classical.not_not.mp (show ¬ (¬ (wide2 x0 x1).toInt32 = x1) from fun h => h (wide_lo x0 x1))))) rfl
      |>.iconst (1 : Int32) at_180 rfl rfl
      |>.goto at_181 (by decide) (by decide)
      |>.istore #[.val (.int x0), .val (.int x1), .val (.long x2), .second, .val (.long x3), .second, .val (.int x4), .val (.int (3 : Int32)), .val (.ref o), .val (.long (wide2 (ushr64 x2 (32 : Int32)).toInt32 x2.toInt32)), .second, .val (.long (wide2 (ushr64 x3 (32 : Int32)).toInt32 x3.toInt32)), .second, .val (.long (wide2 x0 x1)), .second, .val (.int (1 : Int32)), .val (.int (1 : Int32))] at_185 rfl rfl
      |>.lload at_187 rfl rfl
      |>.lloadN at_189 rfl rfl
      |>.lcmp at_190 rfl
    have s225 : Sit p l e _ s m _ below meth c _ st n0 3 26 _ 199 #[.val (.int x0), .val (.int x1), .val (.long x2), .second, .val (.long x3), .second, .val (.int x4), .val (.int (3 : Int32)), .val (.ref o), .val (.long (wide2 (ushr64 x2 (32 : Int32)).toInt32 x2.toInt32)), .second, .val (.long (wide2 (ushr64 x3 (32 : Int32)).toInt32 x3.toInt32)), .second, .val (.long (wide2 x0 x1)), .second, .val (.int (1 : Int32)), .val (.int (1 : Int32))] [(.int (lcmp3 (wide2 (ushr64 x3 (32 : Int32)).toInt32 x3.toInt32) x3))] := s224
      |>.ifN at_191 (lcF (cd := .ne) (show ¬ (¬ (wide2 (ushr64 x2 (32 : Int32)).toInt32 x2.toInt32) = x2) from fun h => h (wide_back x2))) rfl
      |>.lload at_194 rfl rfl
      |>.lload at_196 rfl rfl
      |>.lcmp at_198 rfl
    have s226 : Sit p l e _ s m _ below meth c _ st n0 3 26 _ 204 #[.val (.int x0), .val (.int x1), .val (.long x2), .second, .val (.long x3), .second, .val (.int x4), .val (.int (3 : Int32)), .val (.ref o), .val (.long (wide2 (ushr64 x2 (32 : Int32)).toInt32 x2.toInt32)), .second, .val (.long (wide2 (ushr64 x3 (32 : Int32)).toInt32 x3.toInt32)), .second, .val (.long (wide2 x0 x1)), .second, .val (.int (1 : Int32)), .val (.int (1 : Int32))] [(.int (1 : Int32))] := s225
      |>.ifN at_199 (lcF (cd := .ne) (show ¬ (¬ (wide2 (ushr64 x3 (32 : Int32)).toInt32 x3.toInt32) = x3) from fun h => h (wide_back x3))) rfl
      |>.iload at_202 rfl rfl
    have s227 : Sit p l e _ s m _ below meth c _ st n0 3 26 _ 209 #[.val (.int x0), .val (.int x1), .val (.long x2), .second, .val (.long x3), .second, .val (.int x4), .val (.int (3 : Int32)), .val (.ref o), .val (.long (wide2 (ushr64 x2 (32 : Int32)).toInt32 x2.toInt32)), .second, .val (.long (wide2 (ushr64 x3 (32 : Int32)).toInt32 x3.toInt32)), .second, .val (.long (wide2 x0 x1)), .second, .val (.int (1 : Int32)), .val (.int (1 : Int32))] [(.int (1 : Int32))] := s226
      |>.ifN at_204 (eqF (show ¬ ((1 : Int32) = 0) from by decide)) rfl
      |>.iload at_207 rfl rfl
    have s228 : Sit p l e _ s m _ below meth c _ st n0 3 26 _ 214 #[.val (.int x0), .val (.int x1), .val (.long x2), .second, .val (.long x3), .second, .val (.int x4), .val (.int (3 : Int32)), .val (.ref o), .val (.long (wide2 (ushr64 x2 (32 : Int32)).toInt32 x2.toInt32)), .second, .val (.long (wide2 (ushr64 x3 (32 : Int32)).toInt32 x3.toInt32)), .second, .val (.long (wide2 x0 x1)), .second, .val (.int (1 : Int32)), .val (.int (1 : Int32))] [(.ref o)] := s227
      |>.ifN at_209 (eqF (show ¬ ((1 : Int32) = 0) from by decide)) rfl
      |>.aload at_212 rfl rfl
    obtain ⟨r230, s229⟩ := Sit.callV (C := "reenact/trace/IntList") (y := (⟨"reenact/trace/IntList", "size", "()I"⟩ : MethodName)) (W := 0) (Q := fun rv_ hh => (rv_ = some (.int (Int32.ofNat 9))) ∧ (fun hh => IL Z hh o b [x0, x1, x0, (ushr64 x2 (32 : Int32)).toInt32, x2.toInt32, (ushr64 x3 (32 : Int32)).toInt32, x3.toInt32, x0, x1] [0, 0, 0, 0, 0, 0, 0]) hh) [] [] s228 hZ hown (wi hw 31 rfl) (wi hw 32 rfl) (wi hw 34 rfl) (wi hw 33 rfl) (wi hw 35 rfl) (wi hw 2 rfl) (by decide) (fun hh q => q.1) (fun h1 hP hn => (rmSize l Z a0 hw [] o b [x0, x1, x0, (ushr64 x2 (32 : Int32)).toInt32, x2.toInt32, (ushr64 x3 (32 : Int32)).toInt32, x3.toInt32, x0, x1] [0, 0, 0, 0, 0, 0, 0] h1 n0 hn hP).mono fun rv_ hh q => ⟨q.1, q.2 ▸ hP⟩) hml rfl (lenOf pd_6 rfl) at_214 (Nat.le_of_eq rfl) (by decide) (by decide) (by decide) (by decide) (pc' := 217) rfl
    obtain ⟨_, er230, _⟩ := s229.facts
    subst er230
    have s231 : Sit p l e _ s m _ below meth c _ st n0 3 26 (fun hh => IL Z hh o b [x0, x1, x0, (ushr64 x2 (32 : Int32)).toInt32, x2.toInt32, (ushr64 x3 (32 : Int32)).toInt32, x3.toInt32, x0, x1] [0, 0, 0, 0, 0, 0, 0]) 217 #[.val (.int x0), .val (.int x1), .val (.long x2), .second, .val (.long x3), .second, .val (.int x4), .val (.int (3 : Int32)), .val (.ref o), .val (.long (wide2 (ushr64 x2 (32 : Int32)).toInt32 x2.toInt32)), .second, .val (.long (wide2 (ushr64 x3 (32 : Int32)).toInt32 x3.toInt32)), .second, .val (.long (wide2 x0 x1)), .second, .val (.int (1 : Int32)), .val (.int (1 : Int32))] [(.int (Int32.ofNat 9))] := s229.mono fun _ q => q.2
    have s232 : Sit p l e _ s m _ below meth c _ st n0 3 26 _ 222 #[.val (.int x0), .val (.int x1), .val (.long x2), .second, .val (.long x3), .second, .val (.int x4), .val (.int (3 : Int32)), .val (.ref o), .val (.long (wide2 (ushr64 x2 (32 : Int32)).toInt32 x2.toInt32)), .second, .val (.long (wide2 (ushr64 x3 (32 : Int32)).toInt32 x3.toInt32)), .second, .val (.long (wide2 x0 x1)), .second, .val (.int (1 : Int32)), .val (.int (1 : Int32))] [(.int ((3 : Int32) + (6 : Int32))), (.int (Int32.ofNat 9))] := s231
      |>.iload at_217 rfl rfl
      |>.bipush (6 : Int32) at_219 rfl rfl
      |>.iadd at_221 rfl
    have s233 : Sit p l e _ s m _ below meth c _ st n0 3 26 _ 230 #[.val (.int x0), .val (.int x1), .val (.long x2), .second, .val (.long x3), .second, .val (.int x4), .val (.int (3 : Int32)), .val (.ref o), .val (.long (wide2 (ushr64 x2 (32 : Int32)).toInt32 x2.toInt32)), .second, .val (.long (wide2 (ushr64 x3 (32 : Int32)).toInt32 x3.toInt32)), .second, .val (.long (wide2 x0 x1)), .second, .val (.int (1 : Int32)), .val (.int (1 : Int32))] [(.int (1 : Int32))] := s232
      |>.icmpN at_222 ((neF (Classical.not_not.mp (show ¬ (¬ (Int32.ofNat 9) = ((3 : Int32) + (6 : Int32))) from by decide)))) rfl
      |>.iconst (1 : Int32) at_225 rfl rfl
      |>.goto at_226 (by decide) (by decide)
    exact (s233.bound (by decide) (by decide)).retZ at_230 hret hlk (fun hh q => rfl)
  · have s234 : Sit p l e _ s m _ below meth c _ st n0 2 10 (fun hh => IL Z hh o v [] [0, 0, 0, 0, 0, 0, 0, 0]) 16 #[.val (.int x0), .val (.int x1), .val (.long x2), .second, .val (.long x3), .second, .val (.int x4), .val (.int (4 : Int32)), .val (.ref o), .unset, .unset, .unset, .unset, .unset, .unset, .unset, .unset] [] := s14
    have s235 : Sit p l e _ s m _ below meth c _ st n0 2 10 _ 18 #[.val (.int x0), .val (.int x1), .val (.long x2), .second, .val (.long x3), .second, .val (.int x4), .val (.int (4 : Int32)), .val (.ref o), .unset, .unset, .unset, .unset, .unset, .unset, .unset, .unset] [(.int (4 : Int32))] := s234
      |>.iload at_16 rfl rfl
    have s236 : Sit p l e _ s m _ below meth c _ st n0 2 10 _ 24 #[.val (.int x0), .val (.int x1), .val (.long x2), .second, .val (.long x3), .second, .val (.int x4), .val (.int (4 : Int32)), .val (.ref o), .unset, .unset, .unset, .unset, .unset, .unset, .unset, .unset] [(.int x0), (.ref o)] := s235
      |>.ifN at_18 (cmpF0 (cd := .le) (show ¬ ((4 : Int) ≤ 0) from by decide)) rfl
      |>.aload at_21 rfl rfl
      |>.iloadN at_23 rfl rfl
    obtain ⟨r238, s237⟩ := Sit.callV (C := "reenact/trace/IntList") (y := (⟨"reenact/trace/IntList", "add", "(I)V"⟩ : MethodName)) (W := 0) (Q := fun rv_ hh => (rv_ = none) ∧ (fun hh => IL Z hh o v [x0] [0, 0, 0, 0, 0, 0, 0]) hh) [(.int x0)] [] s236 hZ hown (wi hw 12 rfl) (wi hw 13 rfl) (wi hw 15 rfl) (wi hw 14 rfl) (wi hw 16 rfl) (wi hw 2 rfl) (by decide) (fun hh q => q.1) (fun h1 hP hn => (rmAdd l Z a0 hw [] o x0 v [] 0 [0, 0, 0, 0, 0, 0, 0] h1 n0 hn g_o g_v hP (by simp)).mono fun rv_ hh q => q) hml rfl (lenOf pd_2 rfl) at_24 (Nat.le_of_eq rfl) (by decide) (by decide) (by decide) (by decide) (pc' := 27) rfl
    obtain ⟨_, er238, _⟩ := s237.facts
    subst er238
    have s239 : Sit p l e _ s m _ below meth c _ st n0 2 10 (fun hh => IL Z hh o v [x0] [0, 0, 0, 0, 0, 0, 0]) 27 #[.val (.int x0), .val (.int x1), .val (.long x2), .second, .val (.long x3), .second, .val (.int x4), .val (.int (4 : Int32)), .val (.ref o), .unset, .unset, .unset, .unset, .unset, .unset, .unset, .unset] [] := s237.mono fun _ q => q.2
    have s240 : Sit p l e _ s m _ below meth c _ st n0 2 10 _ 30 #[.val (.int x0), .val (.int x1), .val (.long x2), .second, .val (.long x3), .second, .val (.int x4), .val (.int (4 : Int32)), .val (.ref o), .unset, .unset, .unset, .unset, .unset, .unset, .unset, .unset] [(.int (1 : Int32)), (.int (4 : Int32))] := s239
      |>.iload at_27 rfl rfl
      |>.iconst (1 : Int32) at_29 rfl rfl
    have s241 : Sit p l e _ s m _ below meth c _ st n0 2 10 _ 36 #[.val (.int x0), .val (.int x1), .val (.long x2), .second, .val (.long x3), .second, .val (.int x4), .val (.int (4 : Int32)), .val (.ref o), .unset, .unset, .unset, .unset, .unset, .unset, .unset, .unset] [(.int x1), (.ref o)] := s240
      |>.icmpN at_30 (cmpF (cd := .le) (show ¬ ((4 : Int) ≤ (1 : Int)) from by decide)) rfl
      |>.aload at_33 rfl rfl
      |>.iloadN at_35 rfl rfl
    obtain ⟨r243, s242⟩ := Sit.callV (C := "reenact/trace/IntList") (y := (⟨"reenact/trace/IntList", "add", "(I)V"⟩ : MethodName)) (W := 0) (Q := fun rv_ hh => (rv_ = none) ∧ (fun hh => IL Z hh o v [x0, x1] [0, 0, 0, 0, 0, 0]) hh) [(.int x1)] [] s241 hZ hown (wi hw 12 rfl) (wi hw 13 rfl) (wi hw 15 rfl) (wi hw 14 rfl) (wi hw 16 rfl) (wi hw 2 rfl) (by decide) (fun hh q => q.1) (fun h1 hP hn => (rmAdd l Z a0 hw [] o x1 v [x0] 0 [0, 0, 0, 0, 0, 0] h1 n0 hn g_o g_v hP (by simp)).mono fun rv_ hh q => q) hml rfl (lenOf pd_2 rfl) at_36 (Nat.le_of_eq rfl) (by decide) (by decide) (by decide) (by decide) (pc' := 39) rfl
    obtain ⟨_, er243, _⟩ := s242.facts
    subst er243
    have s244 : Sit p l e _ s m _ below meth c _ st n0 2 10 (fun hh => IL Z hh o v [x0, x1] [0, 0, 0, 0, 0, 0]) 39 #[.val (.int x0), .val (.int x1), .val (.long x2), .second, .val (.long x3), .second, .val (.int x4), .val (.int (4 : Int32)), .val (.ref o), .unset, .unset, .unset, .unset, .unset, .unset, .unset, .unset] [] := s242.mono fun _ q => q.2
    have s245 : Sit p l e _ s m _ below meth c _ st n0 2 10 _ 42 #[.val (.int x0), .val (.int x1), .val (.long x2), .second, .val (.long x3), .second, .val (.int x4), .val (.int (4 : Int32)), .val (.ref o), .unset, .unset, .unset, .unset, .unset, .unset, .unset, .unset] [(.int (2 : Int32)), (.int (4 : Int32))] := s244
      |>.iload at_39 rfl rfl
      |>.iconst (2 : Int32) at_41 rfl rfl
    have s246 : Sit p l e _ s m _ below meth c _ st n0 2 10 _ 48 #[.val (.int x0), .val (.int x1), .val (.long x2), .second, .val (.long x3), .second, .val (.int x4), .val (.int (4 : Int32)), .val (.ref o), .unset, .unset, .unset, .unset, .unset, .unset, .unset, .unset] [(.int x0), (.ref o)] := s245
      |>.icmpN at_42 (cmpF (cd := .le) (show ¬ ((4 : Int) ≤ (2 : Int)) from by decide)) rfl
      |>.aload at_45 rfl rfl
      |>.iloadN at_47 rfl rfl
    obtain ⟨r248, s247⟩ := Sit.callV (C := "reenact/trace/IntList") (y := (⟨"reenact/trace/IntList", "add", "(I)V"⟩ : MethodName)) (W := 0) (Q := fun rv_ hh => (rv_ = none) ∧ (fun hh => IL Z hh o v [x0, x1, x0] [0, 0, 0, 0, 0]) hh) [(.int x0)] [] s246 hZ hown (wi hw 12 rfl) (wi hw 13 rfl) (wi hw 15 rfl) (wi hw 14 rfl) (wi hw 16 rfl) (wi hw 2 rfl) (by decide) (fun hh q => q.1) (fun h1 hP hn => (rmAdd l Z a0 hw [] o x0 v [x0, x1] 0 [0, 0, 0, 0, 0] h1 n0 hn g_o g_v hP (by simp)).mono fun rv_ hh q => q) hml rfl (lenOf pd_2 rfl) at_48 (Nat.le_of_eq rfl) (by decide) (by decide) (by decide) (by decide) (pc' := 51) rfl
    obtain ⟨_, er248, _⟩ := s247.facts
    subst er248
    have s249 : Sit p l e _ s m _ below meth c _ st n0 2 10 (fun hh => IL Z hh o v [x0, x1, x0] [0, 0, 0, 0, 0]) 51 #[.val (.int x0), .val (.int x1), .val (.long x2), .second, .val (.long x3), .second, .val (.int x4), .val (.int (4 : Int32)), .val (.ref o), .unset, .unset, .unset, .unset, .unset, .unset, .unset, .unset] [] := s247.mono fun _ q => q.2
    have s250 : Sit p l e _ s m _ below meth c _ st n0 2 10 _ 54 #[.val (.int x0), .val (.int x1), .val (.long x2), .second, .val (.long x3), .second, .val (.int x4), .val (.int (4 : Int32)), .val (.ref o), .unset, .unset, .unset, .unset, .unset, .unset, .unset, .unset] [(.int (3 : Int32)), (.int (4 : Int32))] := s249
      |>.iload at_51 rfl rfl
      |>.iconst (3 : Int32) at_53 rfl rfl
    have s251 : Sit p l e _ s m _ below meth c _ st n0 2 10 _ 60 #[.val (.int x0), .val (.int x1), .val (.long x2), .second, .val (.long x3), .second, .val (.int x4), .val (.int (4 : Int32)), .val (.ref o), .unset, .unset, .unset, .unset, .unset, .unset, .unset, .unset] [(.int x1), (.ref o)] := s250
      |>.icmpN at_54 (cmpF (cd := .le) (show ¬ ((4 : Int) ≤ (3 : Int)) from by decide)) rfl
      |>.aload at_57 rfl rfl
      |>.iloadN at_59 rfl rfl
    obtain ⟨r253, s252⟩ := Sit.callV (C := "reenact/trace/IntList") (y := (⟨"reenact/trace/IntList", "add", "(I)V"⟩ : MethodName)) (W := 0) (Q := fun rv_ hh => (rv_ = none) ∧ (fun hh => IL Z hh o v [x0, x1, x0, x1] [0, 0, 0, 0]) hh) [(.int x1)] [] s251 hZ hown (wi hw 12 rfl) (wi hw 13 rfl) (wi hw 15 rfl) (wi hw 14 rfl) (wi hw 16 rfl) (wi hw 2 rfl) (by decide) (fun hh q => q.1) (fun h1 hP hn => (rmAdd l Z a0 hw [] o x1 v [x0, x1, x0] 0 [0, 0, 0, 0] h1 n0 hn g_o g_v hP (by simp)).mono fun rv_ hh q => q) hml rfl (lenOf pd_2 rfl) at_60 (Nat.le_of_eq rfl) (by decide) (by decide) (by decide) (by decide) (pc' := 63) rfl
    obtain ⟨_, er253, _⟩ := s252.facts
    subst er253
    have s254 : Sit p l e _ s m _ below meth c _ st n0 2 10 (fun hh => IL Z hh o v [x0, x1, x0, x1] [0, 0, 0, 0]) 63 #[.val (.int x0), .val (.int x1), .val (.long x2), .second, .val (.long x3), .second, .val (.int x4), .val (.int (4 : Int32)), .val (.ref o), .unset, .unset, .unset, .unset, .unset, .unset, .unset, .unset] [] := s252.mono fun _ q => q.2
    have s255 : Sit p l e _ s m _ below meth c _ st n0 2 10 _ 66 #[.val (.int x0), .val (.int x1), .val (.long x2), .second, .val (.long x3), .second, .val (.int x4), .val (.int (4 : Int32)), .val (.ref o), .unset, .unset, .unset, .unset, .unset, .unset, .unset, .unset] [(.int (4 : Int32)), (.int (4 : Int32))] := s254
      |>.iload at_63 rfl rfl
      |>.iconst (4 : Int32) at_65 rfl rfl
    have s256 : Sit p l e _ s m _ below meth c _ st n0 2 10 _ 78 #[.val (.int x0), .val (.int x1), .val (.long x2), .second, .val (.long x3), .second, .val (.int x4), .val (.int (4 : Int32)), .val (.ref o), .unset, .unset, .unset, .unset, .unset, .unset, .unset, .unset] [(.int (5 : Int32)), (.int (4 : Int32))] := s255
      |>.icmpY at_66 (cmpT (cd := .le) (show (4 : Int) ≤ (4 : Int) from by decide)) (by decide) (by decide)
      |>.iload at_75 rfl rfl
      |>.iconst (5 : Int32) at_77 rfl rfl
    have s257 : Sit p l e _ s m _ below meth c _ st n0 2 10 _ 91 #[.val (.int x0), .val (.int x1), .val (.long x2), .second, .val (.long x3), .second, .val (.int x4), .val (.int (4 : Int32)), .val (.ref o), .unset, .unset, .unset, .unset, .unset, .unset, .unset, .unset] [(.int (6 : Int32)), (.int (4 : Int32))] := s256
      |>.icmpY at_78 (cmpT (cd := .le) (show (4 : Int) ≤ (5 : Int) from by decide)) (by decide) (by decide)
      |>.iload at_87 rfl rfl
      |>.bipush (6 : Int32) at_89 rfl rfl
    have s258 : Sit p l e _ s m _ below meth c _ st n0 2 10 _ 103 #[.val (.int x0), .val (.int x1), .val (.long x2), .second, .val (.long x3), .second, .val (.int x4), .val (.int (4 : Int32)), .val (.ref o), .unset, .unset, .unset, .unset, .unset, .unset, .unset, .unset] [(.long x2), (.ref o)] := s257
      |>.icmpY at_91 (cmpT (cd := .le) (show (4 : Int) ≤ (6 : Int) from by decide)) (by decide) (by decide)
      |>.aload at_100 rfl rfl
      |>.lloadN at_102 rfl rfl
    obtain ⟨r260, s259⟩ := Sit.callV (C := "reenact/trace/IntList") (y := (⟨"reenact/trace/IntList", "addWide", "(J)V"⟩ : MethodName)) (W := 0) (Q := fun rv_ hh => (rv_ = none) ∧ (fun hh => IL Z hh o v [x0, x1, x0, x1, (ushr64 x2 (32 : Int32)).toInt32, x2.toInt32] [0, 0]) hh) [(.long x2)] [] s258 hZ hown (wi hw 19 rfl) (wi hw 20 rfl) (wi hw 22 rfl) (wi hw 21 rfl) (wi hw 23 rfl) (wi hw 2 rfl) (by decide) (fun hh q => q.1) (fun h1 hP hn => (rmWnn l Z a0 hw [] o x2 v [x0, x1, x0, x1] 0 0 [0, 0] h1 n0 hn g_o g_v hP (by simp)).mono fun rv_ hh q => q) hml rfl (lenOf pd_4 rfl) at_103 (Nat.le_of_eq rfl) (by decide) (by decide) (by decide) (by decide) (pc' := 106) rfl
    obtain ⟨_, er260, _⟩ := s259.facts
    subst er260
    have s261 : Sit p l e _ s m _ below meth c _ st n0 2 10 (fun hh => IL Z hh o v [x0, x1, x0, x1, (ushr64 x2 (32 : Int32)).toInt32, x2.toInt32] [0, 0]) 106 #[.val (.int x0), .val (.int x1), .val (.long x2), .second, .val (.long x3), .second, .val (.int x4), .val (.int (4 : Int32)), .val (.ref o), .unset, .unset, .unset, .unset, .unset, .unset, .unset, .unset] [] := s259.mono fun _ q => q.2
    have s262 : Sit p l e _ s m _ below meth c _ st n0 2 10 _ 110 #[.val (.int x0), .val (.int x1), .val (.long x2), .second, .val (.long x3), .second, .val (.int x4), .val (.int (4 : Int32)), .val (.ref o), .unset, .unset, .unset, .unset, .unset, .unset, .unset, .unset] [(.long x3), (.ref o)] := s261
      |>.aload at_106 rfl rfl
      |>.lload at_108 rfl rfl
    obtain ⟨r264, s263⟩ := Sit.callV (C := "reenact/trace/IntList") (y := (⟨"reenact/trace/IntList", "addWide", "(J)V"⟩ : MethodName)) (W := 0) (Q := fun rv_ hh => (rv_ = none) ∧ (fun hh => IL Z hh o v [x0, x1, x0, x1, (ushr64 x2 (32 : Int32)).toInt32, x2.toInt32, (ushr64 x3 (32 : Int32)).toInt32, x3.toInt32] []) hh) [(.long x3)] [] s262 hZ hown (wi hw 19 rfl) (wi hw 20 rfl) (wi hw 22 rfl) (wi hw 21 rfl) (wi hw 23 rfl) (wi hw 2 rfl) (by decide) (fun hh q => q.1) (fun h1 hP hn => (rmWnn l Z a0 hw [] o x3 v [x0, x1, x0, x1, (ushr64 x2 (32 : Int32)).toInt32, x2.toInt32] 0 0 [] h1 n0 hn g_o g_v hP (by simp)).mono fun rv_ hh q => q) hml rfl (lenOf pd_4 rfl) at_110 (Nat.le_of_eq rfl) (by decide) (by decide) (by decide) (by decide) (pc' := 113) rfl
    obtain ⟨_, er264, _⟩ := s263.facts
    subst er264
    have s265 : Sit p l e _ s m _ below meth c _ st n0 2 10 (fun hh => IL Z hh o v [x0, x1, x0, x1, (ushr64 x2 (32 : Int32)).toInt32, x2.toInt32, (ushr64 x3 (32 : Int32)).toInt32, x3.toInt32] []) 113 #[.val (.int x0), .val (.int x1), .val (.long x2), .second, .val (.long x3), .second, .val (.int x4), .val (.int (4 : Int32)), .val (.ref o), .unset, .unset, .unset, .unset, .unset, .unset, .unset, .unset] [] := s263.mono fun _ q => q.2
    have s266 : Sit p l e _ s m _ below meth c _ st n0 2 10 _ 116 #[.val (.int x0), .val (.int x1), .val (.long x2), .second, .val (.long x3), .second, .val (.int x4), .val (.int (4 : Int32)), .val (.ref o), .unset, .unset, .unset, .unset, .unset, .unset, .unset, .unset] [(.int x0), (.ref o)] := s265
      |>.aload at_113 rfl rfl
      |>.iloadN at_115 rfl rfl
    obtain ⟨r268, s267⟩ := Sit.callV (C := "reenact/trace/IntList") (y := (⟨"reenact/trace/IntList", "add", "(I)V"⟩ : MethodName)) (W := 0) (Q := fun rv_ hh => (rv_ = none) ∧ (fun hh => ∃ b, n0 ≤ b ∧ IL Z hh o b [x0, x1, x0, x1, (ushr64 x2 (32 : Int32)).toInt32, x2.toInt32, (ushr64 x3 (32 : Int32)).toInt32, x3.toInt32, x0] (List.replicate 7 0)) hh) [(.int x0)] [] s266 hZ hown (wi hw 12 rfl) (wi hw 13 rfl) (wi hw 15 rfl) (wi hw 14 rfl) (wi hw 16 rfl) (wi hw 2 rfl) (by decide) (fun hh q => q.1) (fun h1 hP hn => (rmGrow l Z a0 hw [] o x0 v [x0, x1, x0, x1, (ushr64 x2 (32 : Int32)).toInt32, x2.toInt32, (ushr64 x3 (32 : Int32)).toInt32, x3.toInt32] h1 n0 hn g_o g_v hP rfl).mono fun rv_ hh q => q) hml rfl (lenOf pd_2 rfl) at_116 (Nat.le_of_eq rfl) (by decide) (by decide) (by decide) (by decide) (pc' := 119) rfl
    obtain ⟨_, er268, _⟩ := s267.facts
    subst er268
    have s269 : Sit p l e _ s m _ below meth c _ st n0 3 26 (fun hh => ∃ b, n0 ≤ b ∧ IL Z hh o b [x0, x1, x0, x1, (ushr64 x2 (32 : Int32)).toInt32, x2.toInt32, (ushr64 x3 (32 : Int32)).toInt32, x3.toInt32, x0] (List.replicate 7 0)) 119 #[.val (.int x0), .val (.int x1), .val (.long x2), .second, .val (.long x3), .second, .val (.int x4), .val (.int (4 : Int32)), .val (.ref o), .unset, .unset, .unset, .unset, .unset, .unset, .unset, .unset] [] := s267.mono fun _ q => q.2
    obtain ⟨b, s270⟩ := s269.ex
    have s271 : Sit p l e _ s m _ below meth c _ st n0 3 26 (fun hh => n0 ≤ b ∧ IL Z hh o b [x0, x1, x0, x1, (ushr64 x2 (32 : Int32)).toInt32, x2.toInt32, (ushr64 x3 (32 : Int32)).toInt32, x3.toInt32, x0] (List.replicate 7 0)) 119 #[.val (.int x0), .val (.int x1), .val (.long x2), .second, .val (.long x3), .second, .val (.int x4), .val (.int (4 : Int32)), .val (.ref o), .unset, .unset, .unset, .unset, .unset, .unset, .unset, .unset] [] := s270
    obtain ⟨_, g_b, -⟩ := s271.facts
    have s272 : Sit p l e _ s m _ below meth c _ st n0 3 26 (fun hh => IL Z hh o b [x0, x1, x0, x1, (ushr64 x2 (32 : Int32)).toInt32, x2.toInt32, (ushr64 x3 (32 : Int32)).toInt32, x3.toInt32, x0] [0, 0, 0, 0, 0, 0, 0]) 119 #[.val (.int x0), .val (.int x1), .val (.long x2), .second, .val (.long x3), .second, .val (.int x4), .val (.int (4 : Int32)), .val (.ref o), .unset, .unset, .unset, .unset, .unset, .unset, .unset, .unset] [] := s271.mono fun hh q => q.2
    have s273 : Sit p l e _ s m _ below meth c _ st n0 3 26 _ 122 #[.val (.int x0), .val (.int x1), .val (.long x2), .second, .val (.long x3), .second, .val (.int x4), .val (.int (4 : Int32)), .val (.ref o), .unset, .unset, .unset, .unset, .unset, .unset, .unset, .unset] [(.int x1), (.ref o)] := s272
      |>.aload at_119 rfl rfl
      |>.iloadN at_121 rfl rfl
    obtain ⟨r275, s274⟩ := Sit.callV (C := "reenact/trace/IntList") (y := (⟨"reenact/trace/IntList", "add", "(I)V"⟩ : MethodName)) (W := 0) (Q := fun rv_ hh => (rv_ = none) ∧ (fun hh => IL Z hh o b [x0, x1, x0, x1, (ushr64 x2 (32 : Int32)).toInt32, x2.toInt32, (ushr64 x3 (32 : Int32)).toInt32, x3.toInt32, x0, x1] [0, 0, 0, 0, 0, 0]) hh) [(.int x1)] [] s273 hZ hown (wi hw 12 rfl) (wi hw 13 rfl) (wi hw 15 rfl) (wi hw 14 rfl) (wi hw 16 rfl) (wi hw 2 rfl) (by decide) (fun hh q => q.1) (fun h1 hP hn => (rmAdd l Z a0 hw [] o x1 b [x0, x1, x0, x1, (ushr64 x2 (32 : Int32)).toInt32, x2.toInt32, (ushr64 x3 (32 : Int32)).toInt32, x3.toInt32, x0] 0 [0, 0, 0, 0, 0, 0] h1 n0 hn g_o g_b hP (by simp)).mono fun rv_ hh q => q) hml rfl (lenOf pd_2 rfl) at_122 (Nat.le_of_eq rfl) (by decide) (by decide) (by decide) (by decide) (pc' := 125) rfl
    obtain ⟨_, er275, _⟩ := s274.facts
    subst er275
    have s276 : Sit p l e _ s m _ below meth c _ st n0 3 26 (fun hh => IL Z hh o b [x0, x1, x0, x1, (ushr64 x2 (32 : Int32)).toInt32, x2.toInt32, (ushr64 x3 (32 : Int32)).toInt32, x3.toInt32, x0, x1] [0, 0, 0, 0, 0, 0]) 125 #[.val (.int x0), .val (.int x1), .val (.long x2), .second, .val (.long x3), .second, .val (.int x4), .val (.int (4 : Int32)), .val (.ref o), .unset, .unset, .unset, .unset, .unset, .unset, .unset, .unset] [] := s274.mono fun _ q => q.2
    have s277 : Sit p l e _ s m _ below meth c _ st n0 3 26 _ 129 #[.val (.int x0), .val (.int x1), .val (.long x2), .second, .val (.long x3), .second, .val (.int x4), .val (.int (4 : Int32)), .val (.ref o), .unset, .unset, .unset, .unset, .unset, .unset, .unset, .unset] [(.int (4 : Int32)), (.ref o)] := s276
      |>.aload at_125 rfl rfl
      |>.iload at_127 rfl rfl
    obtain ⟨r279, s278⟩ := Sit.callV (C := "reenact/trace/IntList") (y := (⟨"reenact/trace/IntList", "getWide", "(I)J"⟩ : MethodName)) (W := 0) (Q := fun rv_ hh => (rv_ = some (.long (wide2 (ushr64 x2 (32 : Int32)).toInt32 x2.toInt32))) ∧ (fun hh => IL Z hh o b [x0, x1, x0, x1, (ushr64 x2 (32 : Int32)).toInt32, x2.toInt32, (ushr64 x3 (32 : Int32)).toInt32, x3.toInt32, x0, x1] [0, 0, 0, 0, 0, 0]) hh) [(.int (4 : Int32))] [] s277 hZ hown (wi hw 25 rfl) (wi hw 26 rfl) (wi hw 28 rfl) (wi hw 27 rfl) (wi hw 29 rfl) (wi hw 2 rfl) (by decide) (fun hh q => q.1) (fun h1 hP hn => (rmGet l Z a0 hw [] o (4 : Int32) b [x0, x1, x0, x1, (ushr64 x2 (32 : Int32)).toInt32, x2.toInt32, (ushr64 x3 (32 : Int32)).toInt32, x3.toInt32, x0, x1] [0, 0, 0, 0, 0, 0] 4 (ushr64 x2 (32 : Int32)).toInt32 x2.toInt32 h1 n0 hn hP rfl (by decide) rfl rfl).mono fun rv_ hh q => ⟨q.1, q.2 ▸ hP⟩) hml rfl (lenOf pd_5 rfl) at_129 (Nat.le_of_eq rfl) (by decide) (by decide) (by decide) (by decide) (pc' := 132) rfl
    obtain ⟨_, er279, _⟩ := s278.facts
    subst er279
    have s280 : Sit p l e _ s m _ below meth c _ st n0 3 26 (fun hh => IL Z hh o b [x0, x1, x0, x1, (ushr64 x2 (32 : Int32)).toInt32, x2.toInt32, (ushr64 x3 (32 : Int32)).toInt32, x3.toInt32, x0, x1] [0, 0, 0, 0, 0, 0]) 132 #[.val (.int x0), .val (.int x1), .val (.long x2), .second, .val (.long x3), .second, .val (.int x4), .val (.int (4 : Int32)), .val (.ref o), .unset, .unset, .unset, .unset, .unset, .unset, .unset, .unset] [(.long (wide2 (ushr64 x2 (32 : Int32)).toInt32 x2.toInt32))] := s278.mono fun _ q => q.2
    have s281 : Sit p l e _ s m _ below meth c _ st n0 3 26 _ 140 #[.val (.int x0), .val (.int x1), .val (.long x2), .second, .val (.long x3), .second, .val (.int x4), .val (.int (4 : Int32)), .val (.ref o), .val (.long (wide2 (ushr64 x2 (32 : Int32)).toInt32 x2.toInt32)), .second, .unset, .unset, .unset, .unset, .unset, .unset] [(.int ((4 : Int32) + (2 : Int32))), (.ref o)] := s280
      |>.lstore #[.val (.int x0), .val (.int x1), .val (.long x2), .second, .val (.long x3), .second, .val (.int x4), .val (.int (4 : Int32)), .val (.ref o), .val (.long (wide2 (ushr64 x2 (32 : Int32)).toInt32 x2.toInt32)), .second, .unset, .unset, .unset, .unset, .unset, .unset] at_132 rfl rfl
      |>.aload at_134 rfl rfl
      |>.iload at_136 rfl rfl
      |>.iconst (2 : Int32) at_138 rfl rfl
      |>.iadd at_139 rfl
    obtain ⟨r283, s282⟩ := Sit.callV (C := "reenact/trace/IntList") (y := (⟨"reenact/trace/IntList", "getWide", "(I)J"⟩ : MethodName)) (W := 0) (Q := fun rv_ hh => (rv_ = some (.long (wide2 (ushr64 x3 (32 : Int32)).toInt32 x3.toInt32))) ∧ (fun hh => IL Z hh o b [x0, x1, x0, x1, (ushr64 x2 (32 : Int32)).toInt32, x2.toInt32, (ushr64 x3 (32 : Int32)).toInt32, x3.toInt32, x0, x1] [0, 0, 0, 0, 0, 0]) hh) [(.int ((4 : Int32) + (2 : Int32)))] [] s281 hZ hown (wi hw 25 rfl) (wi hw 26 rfl) (wi hw 28 rfl) (wi hw 27 rfl) (wi hw 29 rfl) (wi hw 2 rfl) (by decide) (fun hh q => q.1) (fun h1 hP hn => (rmGet l Z a0 hw [] o ((4 : Int32) + (2 : Int32)) b [x0, x1, x0, x1, (ushr64 x2 (32 : Int32)).toInt32, x2.toInt32, (ushr64 x3 (32 : Int32)).toInt32, x3.toInt32, x0, x1] [0, 0, 0, 0, 0, 0] 6 (ushr64 x3 (32 : Int32)).toInt32 x3.toInt32 h1 n0 hn hP rfl (by decide) rfl rfl).mono fun rv_ hh q => ⟨q.1, q.2 ▸ hP⟩) hml rfl (lenOf pd_5 rfl) at_140 (Nat.le_of_eq rfl) (by decide) (by decide) (by decide) (by decide) (pc' := 143) rfl
    obtain ⟨_, er283, _⟩ := s282.facts
    subst er283
    have s284 : Sit p l e _ s m _ below meth c _ st n0 3 26 (fun hh => IL Z hh o b [x0, x1, x0, x1, (ushr64 x2 (32 : Int32)).toInt32, x2.toInt32, (ushr64 x3 (32 : Int32)).toInt32, x3.toInt32, x0, x1] [0, 0, 0, 0, 0, 0]) 143 #[.val (.int x0), .val (.int x1), .val (.long x2), .second, .val (.long x3), .second, .val (.int x4), .val (.int (4 : Int32)), .val (.ref o), .val (.long (wide2 (ushr64 x2 (32 : Int32)).toInt32 x2.toInt32)), .second, .unset, .unset, .unset, .unset, .unset, .unset] [(.long (wide2 (ushr64 x3 (32 : Int32)).toInt32 x3.toInt32))] := s282.mono fun _ q => q.2
    have s285 : Sit p l e _ s m _ below meth c _ st n0 3 26 _ 151 #[.val (.int x0), .val (.int x1), .val (.long x2), .second, .val (.long x3), .second, .val (.int x4), .val (.int (4 : Int32)), .val (.ref o), .val (.long (wide2 (ushr64 x2 (32 : Int32)).toInt32 x2.toInt32)), .second, .val (.long (wide2 (ushr64 x3 (32 : Int32)).toInt32 x3.toInt32)), .second, .unset, .unset, .unset, .unset] [(.int ((4 : Int32) + (4 : Int32))), (.ref o)] := s284
      |>.lstore #[.val (.int x0), .val (.int x1), .val (.long x2), .second, .val (.long x3), .second, .val (.int x4), .val (.int (4 : Int32)), .val (.ref o), .val (.long (wide2 (ushr64 x2 (32 : Int32)).toInt32 x2.toInt32)), .second, .val (.long (wide2 (ushr64 x3 (32 : Int32)).toInt32 x3.toInt32)), .second, .unset, .unset, .unset, .unset] at_143 rfl rfl
      |>.aload at_145 rfl rfl
      |>.iload at_147 rfl rfl
      |>.iconst (4 : Int32) at_149 rfl rfl
      |>.iadd at_150 rfl
    obtain ⟨r287, s286⟩ := Sit.callV (C := "reenact/trace/IntList") (y := (⟨"reenact/trace/IntList", "getWide", "(I)J"⟩ : MethodName)) (W := 0) (Q := fun rv_ hh => (rv_ = some (.long (wide2 x0 x1))) ∧ (fun hh => IL Z hh o b [x0, x1, x0, x1, (ushr64 x2 (32 : Int32)).toInt32, x2.toInt32, (ushr64 x3 (32 : Int32)).toInt32, x3.toInt32, x0, x1] [0, 0, 0, 0, 0, 0]) hh) [(.int ((4 : Int32) + (4 : Int32)))] [] s285 hZ hown (wi hw 25 rfl) (wi hw 26 rfl) (wi hw 28 rfl) (wi hw 27 rfl) (wi hw 29 rfl) (wi hw 2 rfl) (by decide) (fun hh q => q.1) (fun h1 hP hn => (rmGet l Z a0 hw [] o ((4 : Int32) + (4 : Int32)) b [x0, x1, x0, x1, (ushr64 x2 (32 : Int32)).toInt32, x2.toInt32, (ushr64 x3 (32 : Int32)).toInt32, x3.toInt32, x0, x1] [0, 0, 0, 0, 0, 0] 8 x0 x1 h1 n0 hn hP rfl (by decide) rfl rfl).mono fun rv_ hh q => ⟨q.1, q.2 ▸ hP⟩) hml rfl (lenOf pd_5 rfl) at_151 (Nat.le_of_eq rfl) (by decide) (by decide) (by decide) (by decide) (pc' := 154) rfl
    obtain ⟨_, er287, _⟩ := s286.facts
    subst er287
    have s288 : Sit p l e _ s m _ below meth c _ st n0 3 26 (fun hh => IL Z hh o b [x0, x1, x0, x1, (ushr64 x2 (32 : Int32)).toInt32, x2.toInt32, (ushr64 x3 (32 : Int32)).toInt32, x3.toInt32, x0, x1] [0, 0, 0, 0, 0, 0]) 154 #[.val (.int x0), .val (.int x1), .val (.long x2), .second, .val (.long x3), .second, .val (.int x4), .val (.int (4 : Int32)), .val (.ref o), .val (.long (wide2 (ushr64 x2 (32 : Int32)).toInt32 x2.toInt32)), .second, .val (.long (wide2 (ushr64 x3 (32 : Int32)).toInt32 x3.toInt32)), .second, .unset, .unset, .unset, .unset] [(.long (wide2 x0 x1))] := s286.mono fun _ q => q.2
    have s289 : Sit p l e _ s m _ below meth c _ st n0 3 26 _ 163 #[.val (.int x0), .val (.int x1), .val (.long x2), .second, .val (.long x3), .second, .val (.int x4), .val (.int (4 : Int32)), .val (.ref o), .val (.long (wide2 (ushr64 x2 (32 : Int32)).toInt32 x2.toInt32)), .second, .val (.long (wide2 (ushr64 x3 (32 : Int32)).toInt32 x3.toInt32)), .second, .val (.long (wide2 x0 x1)), .second, .unset, .unset] [(.int x0), (.int (ushr64 (wide2 x0 x1) (32 : Int32)).toInt32)] := s288
      |>.lstore #[.val (.int x0), .val (.int x1), .val (.long x2), .second, .val (.long x3), .second, .val (.int x4), .val (.int (4 : Int32)), .val (.ref o), .val (.long (wide2 (ushr64 x2 (32 : Int32)).toInt32 x2.toInt32)), .second, .val (.long (wide2 (ushr64 x3 (32 : Int32)).toInt32 x3.toInt32)), .second, .val (.long (wide2 x0 x1)), .second, .unset, .unset] at_154 rfl rfl
      |>.lload at_156 rfl rfl
      |>.bipush (32 : Int32) at_158 rfl rfl
      |>.lushr at_160 rfl
      |>.l2i at_161 rfl
      |>.iloadN at_162 rfl rfl
    have s290 : Sit p l e _ s m _ below meth c _ st n0 3 26 _ 177 #[.val (.int x0), .val (.int x1), .val (.long x2), .second, .val (.long x3), .second, .val (.int x4), .val (.int (4 : Int32)), .val (.ref o), .val (.long (wide2 (ushr64 x2 (32 : Int32)).toInt32 x2.toInt32)), .second, .val (.long (wide2 (ushr64 x3 (32 : Int32)).toInt32 x3.toInt32)), .second, .val (.long (wide2 x0 x1)), .second, .val (.int (1 : Int32)), .unset] [(.int x1), (.int (wide2 x0 x1).toInt32)] := s289
      |>.icmpN at_163 ((neF (Classical.not_not.mp (show ¬ (¬ (ushr64 (wide2 x0 x1) (32 : Int32)).toInt32 = x0) from fun h => h (wide_hi x0 x1))))) rfl
      |>.iconst (1 : Int32) at_166 rfl rfl
      |>.goto at_167 (by decide) (by decide)
      |>.istore #[.val (.int x0), .val (.int x1), .val (.long x2), .second, .val (.long x3), .second, .val (.int x4), .val (.int (4 : Int32)), .val (.ref o), .val (.long (wide2 (ushr64 x2 (32 : Int32)).toInt32 x2.toInt32)), .second, .val (.long (wide2 (ushr64 x3 (32 : Int32)).toInt32 x3.toInt32)), .second, .val (.long (wide2 x0 x1)), .second, .val (.int (1 : Int32)), .unset] at_171 rfl rfl
      |>.lload at_173 rfl rfl
      |>.l2i at_175 rfl
      |>.iloadN at_176 rfl rfl
    have s291 : Sit p l e _ s m _ below meth c _ st n0 3 26 _ 191 #[.val (.int x0), .val (.int x1), .val (.long x2), .second, .val (.long x3), .second, .val (.int x4), .val (.int (4 : Int32)), .val (.ref o), .val (.long (wide2 (ushr64 x2 (32 : Int32)).toInt32 x2.toInt32)), .second, .val (.long (wide2 (ushr64 x3 (32 : Int32)).toInt32 x3.toInt32)), .second, .val (.long (wide2 x0 x1)), .second, .val (.int (1 : Int32)), .val (.int (1 : Int32))] [(.int (lcmp3 (wide2 (ushr64 x2 (32 : Int32)).toInt32 x2.toInt32) x2))] := s290
      |>.icmpN at_177 ((neF (Classical.not_not.mp (show ¬ (¬ (wide2 x0 x1).toInt32 = x1) from fun h => h (wide_lo x0 x1))))) rfl
      |>.iconst (1 : Int32) at_180 rfl rfl
      |>.goto at_181 (by decide) (by decide)
      |>.istore #[.val (.int x0), .val (.int x1), .val (.long x2), .second, .val (.long x3), .second, .val (.int x4), .val (.int (4 : Int32)), .val (.ref o), .val (.long (wide2 (ushr64 x2 (32 : Int32)).toInt32 x2.toInt32)), .second, .val (.long (wide2 (ushr64 x3 (32 : Int32)).toInt32 x3.toInt32)), .second, .val (.long (wide2 x0 x1)), .second, .val (.int (1 : Int32)), .val (.int (1 : Int32))] at_185 rfl rfl
      |>.lload at_187 rfl rfl
      |>.lloadN at_189 rfl rfl
      |>.lcmp at_190 rfl
    have s292 : Sit p l e _ s m _ below meth c _ st n0 3 26 _ 199 #[.val (.int x0), .val (.int x1), .val (.long x2), .second, .val (.long x3), .second, .val (.int x4), .val (.int (4 : Int32)), .val (.ref o), .val (.long (wide2 (ushr64 x2 (32 : Int32)).toInt32 x2.toInt32)), .second, .val (.long (wide2 (ushr64 x3 (32 : Int32)).toInt32 x3.toInt32)), .second, .val (.long (wide2 x0 x1)), .second, .val (.int (1 : Int32)), .val (.int (1 : Int32))] [(.int (lcmp3 (wide2 (ushr64 x3 (32 : Int32)).toInt32 x3.toInt32) x3))] := s291
      |>.ifN at_191 (lcF (cd := .ne) (show ¬ (¬ (wide2 (ushr64 x2 (32 : Int32)).toInt32 x2.toInt32) = x2) from fun h => h (wide_back x2))) rfl
      |>.lload at_194 rfl rfl
      |>.lload at_196 rfl rfl
      |>.lcmp at_198 rfl
    have s293 : Sit p l e _ s m _ below meth c _ st n0 3 26 _ 204 #[.val (.int x0), .val (.int x1), .val (.long x2), .second, .val (.long x3), .second, .val (.int x4), .val (.int (4 : Int32)), .val (.ref o), .val (.long (wide2 (ushr64 x2 (32 : Int32)).toInt32 x2.toInt32)), .second, .val (.long (wide2 (ushr64 x3 (32 : Int32)).toInt32 x3.toInt32)), .second, .val (.long (wide2 x0 x1)), .second, .val (.int (1 : Int32)), .val (.int (1 : Int32))] [(.int (1 : Int32))] := s292
      |>.ifN at_199 (lcF (cd := .ne) (show ¬ (¬ (wide2 (ushr64 x3 (32 : Int32)).toInt32 x3.toInt32) = x3) from fun h => h (wide_back x3))) rfl
      |>.iload at_202 rfl rfl
    have s294 : Sit p l e _ s m _ below meth c _ st n0 3 26 _ 209 #[.val (.int x0), .val (.int x1), .val (.long x2), .second, .val (.long x3), .second, .val (.int x4), .val (.int (4 : Int32)), .val (.ref o), .val (.long (wide2 (ushr64 x2 (32 : Int32)).toInt32 x2.toInt32)), .second, .val (.long (wide2 (ushr64 x3 (32 : Int32)).toInt32 x3.toInt32)), .second, .val (.long (wide2 x0 x1)), .second, .val (.int (1 : Int32)), .val (.int (1 : Int32))] [(.int (1 : Int32))] := s293
      |>.ifN at_204 (eqF (show ¬ ((1 : Int32) = 0) from by decide)) rfl
      |>.iload at_207 rfl rfl
    have s295 : Sit p l e _ s m _ below meth c _ st n0 3 26 _ 214 #[.val (.int x0), .val (.int x1), .val (.long x2), .second, .val (.long x3), .second, .val (.int x4), .val (.int (4 : Int32)), .val (.ref o), .val (.long (wide2 (ushr64 x2 (32 : Int32)).toInt32 x2.toInt32)), .second, .val (.long (wide2 (ushr64 x3 (32 : Int32)).toInt32 x3.toInt32)), .second, .val (.long (wide2 x0 x1)), .second, .val (.int (1 : Int32)), .val (.int (1 : Int32))] [(.ref o)] := s294
      |>.ifN at_209 (eqF (show ¬ ((1 : Int32) = 0) from by decide)) rfl
      |>.aload at_212 rfl rfl
    obtain ⟨r297, s296⟩ := Sit.callV (C := "reenact/trace/IntList") (y := (⟨"reenact/trace/IntList", "size", "()I"⟩ : MethodName)) (W := 0) (Q := fun rv_ hh => (rv_ = some (.int (Int32.ofNat 10))) ∧ (fun hh => IL Z hh o b [x0, x1, x0, x1, (ushr64 x2 (32 : Int32)).toInt32, x2.toInt32, (ushr64 x3 (32 : Int32)).toInt32, x3.toInt32, x0, x1] [0, 0, 0, 0, 0, 0]) hh) [] [] s295 hZ hown (wi hw 31 rfl) (wi hw 32 rfl) (wi hw 34 rfl) (wi hw 33 rfl) (wi hw 35 rfl) (wi hw 2 rfl) (by decide) (fun hh q => q.1) (fun h1 hP hn => (rmSize l Z a0 hw [] o b [x0, x1, x0, x1, (ushr64 x2 (32 : Int32)).toInt32, x2.toInt32, (ushr64 x3 (32 : Int32)).toInt32, x3.toInt32, x0, x1] [0, 0, 0, 0, 0, 0] h1 n0 hn hP).mono fun rv_ hh q => ⟨q.1, q.2 ▸ hP⟩) hml rfl (lenOf pd_6 rfl) at_214 (Nat.le_of_eq rfl) (by decide) (by decide) (by decide) (by decide) (pc' := 217) rfl
    obtain ⟨_, er297, _⟩ := s296.facts
    subst er297
    have s298 : Sit p l e _ s m _ below meth c _ st n0 3 26 (fun hh => IL Z hh o b [x0, x1, x0, x1, (ushr64 x2 (32 : Int32)).toInt32, x2.toInt32, (ushr64 x3 (32 : Int32)).toInt32, x3.toInt32, x0, x1] [0, 0, 0, 0, 0, 0]) 217 #[.val (.int x0), .val (.int x1), .val (.long x2), .second, .val (.long x3), .second, .val (.int x4), .val (.int (4 : Int32)), .val (.ref o), .val (.long (wide2 (ushr64 x2 (32 : Int32)).toInt32 x2.toInt32)), .second, .val (.long (wide2 (ushr64 x3 (32 : Int32)).toInt32 x3.toInt32)), .second, .val (.long (wide2 x0 x1)), .second, .val (.int (1 : Int32)), .val (.int (1 : Int32))] [(.int (Int32.ofNat 10))] := s296.mono fun _ q => q.2
    have s299 : Sit p l e _ s m _ below meth c _ st n0 3 26 _ 222 #[.val (.int x0), .val (.int x1), .val (.long x2), .second, .val (.long x3), .second, .val (.int x4), .val (.int (4 : Int32)), .val (.ref o), .val (.long (wide2 (ushr64 x2 (32 : Int32)).toInt32 x2.toInt32)), .second, .val (.long (wide2 (ushr64 x3 (32 : Int32)).toInt32 x3.toInt32)), .second, .val (.long (wide2 x0 x1)), .second, .val (.int (1 : Int32)), .val (.int (1 : Int32))] [(.int ((4 : Int32) + (6 : Int32))), (.int (Int32.ofNat 10))] := s298
      |>.iload at_217 rfl rfl
      |>.bipush (6 : Int32) at_219 rfl rfl
      |>.iadd at_221 rfl
    have s300 : Sit p l e _ s m _ below meth c _ st n0 3 26 _ 230 #[.val (.int x0), .val (.int x1), .val (.long x2), .second, .val (.long x3), .second, .val (.int x4), .val (.int (4 : Int32)), .val (.ref o), .val (.long (wide2 (ushr64 x2 (32 : Int32)).toInt32 x2.toInt32)), .second, .val (.long (wide2 (ushr64 x3 (32 : Int32)).toInt32 x3.toInt32)), .second, .val (.long (wide2 x0 x1)), .second, .val (.int (1 : Int32)), .val (.int (1 : Int32))] [(.int (1 : Int32))] := s299
      |>.icmpN at_222 ((neF (Classical.not_not.mp (show ¬ (¬ (Int32.ofNat 10) = ((4 : Int32) + (6 : Int32))) from by decide)))) rfl
      |>.iconst (1 : Int32) at_225 rfl rfl
      |>.goto at_226 (by decide) (by decide)
    exact (s300.bound (by decide) (by decide)).retZ at_230 hret hlk (fun hh q => rfl)
  · have s301 : Sit p l e _ s m _ below meth c _ st n0 2 10 (fun hh => IL Z hh o v [] [0, 0, 0, 0, 0, 0, 0, 0]) 16 #[.val (.int x0), .val (.int x1), .val (.long x2), .second, .val (.long x3), .second, .val (.int x4), .val (.int (5 : Int32)), .val (.ref o), .unset, .unset, .unset, .unset, .unset, .unset, .unset, .unset] [] := s14
    have s302 : Sit p l e _ s m _ below meth c _ st n0 2 10 _ 18 #[.val (.int x0), .val (.int x1), .val (.long x2), .second, .val (.long x3), .second, .val (.int x4), .val (.int (5 : Int32)), .val (.ref o), .unset, .unset, .unset, .unset, .unset, .unset, .unset, .unset] [(.int (5 : Int32))] := s301
      |>.iload at_16 rfl rfl
    have s303 : Sit p l e _ s m _ below meth c _ st n0 2 10 _ 24 #[.val (.int x0), .val (.int x1), .val (.long x2), .second, .val (.long x3), .second, .val (.int x4), .val (.int (5 : Int32)), .val (.ref o), .unset, .unset, .unset, .unset, .unset, .unset, .unset, .unset] [(.int x0), (.ref o)] := s302
      |>.ifN at_18 (cmpF0 (cd := .le) (show ¬ ((5 : Int) ≤ 0) from by decide)) rfl
      |>.aload at_21 rfl rfl
      |>.iloadN at_23 rfl rfl
    obtain ⟨r305, s304⟩ := Sit.callV (C := "reenact/trace/IntList") (y := (⟨"reenact/trace/IntList", "add", "(I)V"⟩ : MethodName)) (W := 0) (Q := fun rv_ hh => (rv_ = none) ∧ (fun hh => IL Z hh o v [x0] [0, 0, 0, 0, 0, 0, 0]) hh) [(.int x0)] [] s303 hZ hown (wi hw 12 rfl) (wi hw 13 rfl) (wi hw 15 rfl) (wi hw 14 rfl) (wi hw 16 rfl) (wi hw 2 rfl) (by decide) (fun hh q => q.1) (fun h1 hP hn => (rmAdd l Z a0 hw [] o x0 v [] 0 [0, 0, 0, 0, 0, 0, 0] h1 n0 hn g_o g_v hP (by simp)).mono fun rv_ hh q => q) hml rfl (lenOf pd_2 rfl) at_24 (Nat.le_of_eq rfl) (by decide) (by decide) (by decide) (by decide) (pc' := 27) rfl
    obtain ⟨_, er305, _⟩ := s304.facts
    subst er305
    have s306 : Sit p l e _ s m _ below meth c _ st n0 2 10 (fun hh => IL Z hh o v [x0] [0, 0, 0, 0, 0, 0, 0]) 27 #[.val (.int x0), .val (.int x1), .val (.long x2), .second, .val (.long x3), .second, .val (.int x4), .val (.int (5 : Int32)), .val (.ref o), .unset, .unset, .unset, .unset, .unset, .unset, .unset, .unset] [] := s304.mono fun _ q => q.2
    have s307 : Sit p l e _ s m _ below meth c _ st n0 2 10 _ 30 #[.val (.int x0), .val (.int x1), .val (.long x2), .second, .val (.long x3), .second, .val (.int x4), .val (.int (5 : Int32)), .val (.ref o), .unset, .unset, .unset, .unset, .unset, .unset, .unset, .unset] [(.int (1 : Int32)), (.int (5 : Int32))] := s306
      |>.iload at_27 rfl rfl
      |>.iconst (1 : Int32) at_29 rfl rfl
    have s308 : Sit p l e _ s m _ below meth c _ st n0 2 10 _ 36 #[.val (.int x0), .val (.int x1), .val (.long x2), .second, .val (.long x3), .second, .val (.int x4), .val (.int (5 : Int32)), .val (.ref o), .unset, .unset, .unset, .unset, .unset, .unset, .unset, .unset] [(.int x1), (.ref o)] := s307
      |>.icmpN at_30 (cmpF (cd := .le) (show ¬ ((5 : Int) ≤ (1 : Int)) from by decide)) rfl
      |>.aload at_33 rfl rfl
      |>.iloadN at_35 rfl rfl
    obtain ⟨r310, s309⟩ := Sit.callV (C := "reenact/trace/IntList") (y := (⟨"reenact/trace/IntList", "add", "(I)V"⟩ : MethodName)) (W := 0) (Q := fun rv_ hh => (rv_ = none) ∧ (fun hh => IL Z hh o v [x0, x1] [0, 0, 0, 0, 0, 0]) hh) [(.int x1)] [] s308 hZ hown (wi hw 12 rfl) (wi hw 13 rfl) (wi hw 15 rfl) (wi hw 14 rfl) (wi hw 16 rfl) (wi hw 2 rfl) (by decide) (fun hh q => q.1) (fun h1 hP hn => (rmAdd l Z a0 hw [] o x1 v [x0] 0 [0, 0, 0, 0, 0, 0] h1 n0 hn g_o g_v hP (by simp)).mono fun rv_ hh q => q) hml rfl (lenOf pd_2 rfl) at_36 (Nat.le_of_eq rfl) (by decide) (by decide) (by decide) (by decide) (pc' := 39) rfl
    obtain ⟨_, er310, _⟩ := s309.facts
    subst er310
    have s311 : Sit p l e _ s m _ below meth c _ st n0 2 10 (fun hh => IL Z hh o v [x0, x1] [0, 0, 0, 0, 0, 0]) 39 #[.val (.int x0), .val (.int x1), .val (.long x2), .second, .val (.long x3), .second, .val (.int x4), .val (.int (5 : Int32)), .val (.ref o), .unset, .unset, .unset, .unset, .unset, .unset, .unset, .unset] [] := s309.mono fun _ q => q.2
    have s312 : Sit p l e _ s m _ below meth c _ st n0 2 10 _ 42 #[.val (.int x0), .val (.int x1), .val (.long x2), .second, .val (.long x3), .second, .val (.int x4), .val (.int (5 : Int32)), .val (.ref o), .unset, .unset, .unset, .unset, .unset, .unset, .unset, .unset] [(.int (2 : Int32)), (.int (5 : Int32))] := s311
      |>.iload at_39 rfl rfl
      |>.iconst (2 : Int32) at_41 rfl rfl
    have s313 : Sit p l e _ s m _ below meth c _ st n0 2 10 _ 48 #[.val (.int x0), .val (.int x1), .val (.long x2), .second, .val (.long x3), .second, .val (.int x4), .val (.int (5 : Int32)), .val (.ref o), .unset, .unset, .unset, .unset, .unset, .unset, .unset, .unset] [(.int x0), (.ref o)] := s312
      |>.icmpN at_42 (cmpF (cd := .le) (show ¬ ((5 : Int) ≤ (2 : Int)) from by decide)) rfl
      |>.aload at_45 rfl rfl
      |>.iloadN at_47 rfl rfl
    obtain ⟨r315, s314⟩ := Sit.callV (C := "reenact/trace/IntList") (y := (⟨"reenact/trace/IntList", "add", "(I)V"⟩ : MethodName)) (W := 0) (Q := fun rv_ hh => (rv_ = none) ∧ (fun hh => IL Z hh o v [x0, x1, x0] [0, 0, 0, 0, 0]) hh) [(.int x0)] [] s313 hZ hown (wi hw 12 rfl) (wi hw 13 rfl) (wi hw 15 rfl) (wi hw 14 rfl) (wi hw 16 rfl) (wi hw 2 rfl) (by decide) (fun hh q => q.1) (fun h1 hP hn => (rmAdd l Z a0 hw [] o x0 v [x0, x1] 0 [0, 0, 0, 0, 0] h1 n0 hn g_o g_v hP (by simp)).mono fun rv_ hh q => q) hml rfl (lenOf pd_2 rfl) at_48 (Nat.le_of_eq rfl) (by decide) (by decide) (by decide) (by decide) (pc' := 51) rfl
    obtain ⟨_, er315, _⟩ := s314.facts
    subst er315
    have s316 : Sit p l e _ s m _ below meth c _ st n0 2 10 (fun hh => IL Z hh o v [x0, x1, x0] [0, 0, 0, 0, 0]) 51 #[.val (.int x0), .val (.int x1), .val (.long x2), .second, .val (.long x3), .second, .val (.int x4), .val (.int (5 : Int32)), .val (.ref o), .unset, .unset, .unset, .unset, .unset, .unset, .unset, .unset] [] := s314.mono fun _ q => q.2
    have s317 : Sit p l e _ s m _ below meth c _ st n0 2 10 _ 54 #[.val (.int x0), .val (.int x1), .val (.long x2), .second, .val (.long x3), .second, .val (.int x4), .val (.int (5 : Int32)), .val (.ref o), .unset, .unset, .unset, .unset, .unset, .unset, .unset, .unset] [(.int (3 : Int32)), (.int (5 : Int32))] := s316
      |>.iload at_51 rfl rfl
      |>.iconst (3 : Int32) at_53 rfl rfl
    have s318 : Sit p l e _ s m _ below meth c _ st n0 2 10 _ 60 #[.val (.int x0), .val (.int x1), .val (.long x2), .second, .val (.long x3), .second, .val (.int x4), .val (.int (5 : Int32)), .val (.ref o), .unset, .unset, .unset, .unset, .unset, .unset, .unset, .unset] [(.int x1), (.ref o)] := s317
      |>.icmpN at_54 (cmpF (cd := .le) (show ¬ ((5 : Int) ≤ (3 : Int)) from by decide)) rfl
      |>.aload at_57 rfl rfl
      |>.iloadN at_59 rfl rfl
    obtain ⟨r320, s319⟩ := Sit.callV (C := "reenact/trace/IntList") (y := (⟨"reenact/trace/IntList", "add", "(I)V"⟩ : MethodName)) (W := 0) (Q := fun rv_ hh => (rv_ = none) ∧ (fun hh => IL Z hh o v [x0, x1, x0, x1] [0, 0, 0, 0]) hh) [(.int x1)] [] s318 hZ hown (wi hw 12 rfl) (wi hw 13 rfl) (wi hw 15 rfl) (wi hw 14 rfl) (wi hw 16 rfl) (wi hw 2 rfl) (by decide) (fun hh q => q.1) (fun h1 hP hn => (rmAdd l Z a0 hw [] o x1 v [x0, x1, x0] 0 [0, 0, 0, 0] h1 n0 hn g_o g_v hP (by simp)).mono fun rv_ hh q => q) hml rfl (lenOf pd_2 rfl) at_60 (Nat.le_of_eq rfl) (by decide) (by decide) (by decide) (by decide) (pc' := 63) rfl
    obtain ⟨_, er320, _⟩ := s319.facts
    subst er320
    have s321 : Sit p l e _ s m _ below meth c _ st n0 2 10 (fun hh => IL Z hh o v [x0, x1, x0, x1] [0, 0, 0, 0]) 63 #[.val (.int x0), .val (.int x1), .val (.long x2), .second, .val (.long x3), .second, .val (.int x4), .val (.int (5 : Int32)), .val (.ref o), .unset, .unset, .unset, .unset, .unset, .unset, .unset, .unset] [] := s319.mono fun _ q => q.2
    have s322 : Sit p l e _ s m _ below meth c _ st n0 2 10 _ 66 #[.val (.int x0), .val (.int x1), .val (.long x2), .second, .val (.long x3), .second, .val (.int x4), .val (.int (5 : Int32)), .val (.ref o), .unset, .unset, .unset, .unset, .unset, .unset, .unset, .unset] [(.int (4 : Int32)), (.int (5 : Int32))] := s321
      |>.iload at_63 rfl rfl
      |>.iconst (4 : Int32) at_65 rfl rfl
    have s323 : Sit p l e _ s m _ below meth c _ st n0 2 10 _ 72 #[.val (.int x0), .val (.int x1), .val (.long x2), .second, .val (.long x3), .second, .val (.int x4), .val (.int (5 : Int32)), .val (.ref o), .unset, .unset, .unset, .unset, .unset, .unset, .unset, .unset] [(.int x0), (.ref o)] := s322
      |>.icmpN at_66 (cmpF (cd := .le) (show ¬ ((5 : Int) ≤ (4 : Int)) from by decide)) rfl
      |>.aload at_69 rfl rfl
      |>.iloadN at_71 rfl rfl
    obtain ⟨r325, s324⟩ := Sit.callV (C := "reenact/trace/IntList") (y := (⟨"reenact/trace/IntList", "add", "(I)V"⟩ : MethodName)) (W := 0) (Q := fun rv_ hh => (rv_ = none) ∧ (fun hh => IL Z hh o v [x0, x1, x0, x1, x0] [0, 0, 0]) hh) [(.int x0)] [] s323 hZ hown (wi hw 12 rfl) (wi hw 13 rfl) (wi hw 15 rfl) (wi hw 14 rfl) (wi hw 16 rfl) (wi hw 2 rfl) (by decide) (fun hh q => q.1) (fun h1 hP hn => (rmAdd l Z a0 hw [] o x0 v [x0, x1, x0, x1] 0 [0, 0, 0] h1 n0 hn g_o g_v hP (by simp)).mono fun rv_ hh q => q) hml rfl (lenOf pd_2 rfl) at_72 (Nat.le_of_eq rfl) (by decide) (by decide) (by decide) (by decide) (pc' := 75) rfl
    obtain ⟨_, er325, _⟩ := s324.facts
    subst er325
    have s326 : Sit p l e _ s m _ below meth c _ st n0 2 10 (fun hh => IL Z hh o v [x0, x1, x0, x1, x0] [0, 0, 0]) 75 #[.val (.int x0), .val (.int x1), .val (.long x2), .second, .val (.long x3), .second, .val (.int x4), .val (.int (5 : Int32)), .val (.ref o), .unset, .unset, .unset, .unset, .unset, .unset, .unset, .unset] [] := s324.mono fun _ q => q.2
    have s327 : Sit p l e _ s m _ below meth c _ st n0 2 10 _ 78 #[.val (.int x0), .val (.int x1), .val (.long x2), .second, .val (.long x3), .second, .val (.int x4), .val (.int (5 : Int32)), .val (.ref o), .unset, .unset, .unset, .unset, .unset, .unset, .unset, .unset] [(.int (5 : Int32)), (.int (5 : Int32))] := s326
      |>.iload at_75 rfl rfl
      |>.iconst (5 : Int32) at_77 rfl rfl
    have s328 : Sit p l e _ s m _ below meth c _ st n0 2 10 _ 91 #[.val (.int x0), .val (.int x1), .val (.long x2), .second, .val (.long x3), .second, .val (.int x4), .val (.int (5 : Int32)), .val (.ref o), .unset, .unset, .unset, .unset, .unset, .unset, .unset, .unset] [(.int (6 : Int32)), (.int (5 : Int32))] := s327
      |>.icmpY at_78 (cmpT (cd := .le) (show (5 : Int) ≤ (5 : Int) from by decide)) (by decide) (by decide)
      |>.iload at_87 rfl rfl
      |>.bipush (6 : Int32) at_89 rfl rfl
    have s329 : Sit p l e _ s m _ below meth c _ st n0 2 10 _ 103 #[.val (.int x0), .val (.int x1), .val (.long x2), .second, .val (.long x3), .second, .val (.int x4), .val (.int (5 : Int32)), .val (.ref o), .unset, .unset, .unset, .unset, .unset, .unset, .unset, .unset] [(.long x2), (.ref o)] := s328
      |>.icmpY at_91 (cmpT (cd := .le) (show (5 : Int) ≤ (6 : Int) from by decide)) (by decide) (by decide)
      |>.aload at_100 rfl rfl
      |>.lloadN at_102 rfl rfl
    obtain ⟨r331, s330⟩ := Sit.callV (C := "reenact/trace/IntList") (y := (⟨"reenact/trace/IntList", "addWide", "(J)V"⟩ : MethodName)) (W := 0) (Q := fun rv_ hh => (rv_ = none) ∧ (fun hh => IL Z hh o v [x0, x1, x0, x1, x0, (ushr64 x2 (32 : Int32)).toInt32, x2.toInt32] [0]) hh) [(.long x2)] [] s329 hZ hown (wi hw 19 rfl) (wi hw 20 rfl) (wi hw 22 rfl) (wi hw 21 rfl) (wi hw 23 rfl) (wi hw 2 rfl) (by decide) (fun hh q => q.1) (fun h1 hP hn => (rmWnn l Z a0 hw [] o x2 v [x0, x1, x0, x1, x0] 0 0 [0] h1 n0 hn g_o g_v hP (by simp)).mono fun rv_ hh q => q) hml rfl (lenOf pd_4 rfl) at_103 (Nat.le_of_eq rfl) (by decide) (by decide) (by decide) (by decide) (pc' := 106) rfl
    obtain ⟨_, er331, _⟩ := s330.facts
    subst er331
    have s332 : Sit p l e _ s m _ below meth c _ st n0 2 10 (fun hh => IL Z hh o v [x0, x1, x0, x1, x0, (ushr64 x2 (32 : Int32)).toInt32, x2.toInt32] [0]) 106 #[.val (.int x0), .val (.int x1), .val (.long x2), .second, .val (.long x3), .second, .val (.int x4), .val (.int (5 : Int32)), .val (.ref o), .unset, .unset, .unset, .unset, .unset, .unset, .unset, .unset] [] := s330.mono fun _ q => q.2
    have s333 : Sit p l e _ s m _ below meth c _ st n0 2 10 _ 110 #[.val (.int x0), .val (.int x1), .val (.long x2), .second, .val (.long x3), .second, .val (.int x4), .val (.int (5 : Int32)), .val (.ref o), .unset, .unset, .unset, .unset, .unset, .unset, .unset, .unset] [(.long x3), (.ref o)] := s332
      |>.aload at_106 rfl rfl
      |>.lload at_108 rfl rfl
    obtain ⟨r335, s334⟩ := Sit.callV (C := "reenact/trace/IntList") (y := (⟨"reenact/trace/IntList", "addWide", "(J)V"⟩ : MethodName)) (W := 0) (Q := fun rv_ hh => (rv_ = none) ∧ (fun hh => ∃ b, n0 ≤ b ∧ IL Z hh o b [x0, x1, x0, x1, x0, (ushr64 x2 (32 : Int32)).toInt32, x2.toInt32, (ushr64 x3 (32 : Int32)).toInt32, x3.toInt32] (List.replicate 7 0)) hh) [(.long x3)] [] s333 hZ hown (wi hw 19 rfl) (wi hw 20 rfl) (wi hw 22 rfl) (wi hw 21 rfl) (wi hw 23 rfl) (wi hw 2 rfl) (by decide) (fun hh q => q.1) (fun h1 hP hn => (rmWng l Z a0 hw [] o x3 v [x0, x1, x0, x1, x0, (ushr64 x2 (32 : Int32)).toInt32, x2.toInt32] 0 h1 n0 hn g_o g_v hP rfl).mono fun rv_ hh q => q) hml rfl (lenOf pd_4 rfl) at_110 (Nat.le_of_eq rfl) (by decide) (by decide) (by decide) (by decide) (pc' := 113) rfl
    obtain ⟨_, er335, _⟩ := s334.facts
    subst er335
    have s336 : Sit p l e _ s m _ below meth c _ st n0 3 26 (fun hh => ∃ b, n0 ≤ b ∧ IL Z hh o b [x0, x1, x0, x1, x0, (ushr64 x2 (32 : Int32)).toInt32, x2.toInt32, (ushr64 x3 (32 : Int32)).toInt32, x3.toInt32] (List.replicate 7 0)) 113 #[.val (.int x0), .val (.int x1), .val (.long x2), .second, .val (.long x3), .second, .val (.int x4), .val (.int (5 : Int32)), .val (.ref o), .unset, .unset, .unset, .unset, .unset, .unset, .unset, .unset] [] := s334.mono fun _ q => q.2
    obtain ⟨b, s337⟩ := s336.ex
    have s338 : Sit p l e _ s m _ below meth c _ st n0 3 26 (fun hh => n0 ≤ b ∧ IL Z hh o b [x0, x1, x0, x1, x0, (ushr64 x2 (32 : Int32)).toInt32, x2.toInt32, (ushr64 x3 (32 : Int32)).toInt32, x3.toInt32] (List.replicate 7 0)) 113 #[.val (.int x0), .val (.int x1), .val (.long x2), .second, .val (.long x3), .second, .val (.int x4), .val (.int (5 : Int32)), .val (.ref o), .unset, .unset, .unset, .unset, .unset, .unset, .unset, .unset] [] := s337
    obtain ⟨_, g_b, -⟩ := s338.facts
    have s339 : Sit p l e _ s m _ below meth c _ st n0 3 26 (fun hh => IL Z hh o b [x0, x1, x0, x1, x0, (ushr64 x2 (32 : Int32)).toInt32, x2.toInt32, (ushr64 x3 (32 : Int32)).toInt32, x3.toInt32] [0, 0, 0, 0, 0, 0, 0]) 113 #[.val (.int x0), .val (.int x1), .val (.long x2), .second, .val (.long x3), .second, .val (.int x4), .val (.int (5 : Int32)), .val (.ref o), .unset, .unset, .unset, .unset, .unset, .unset, .unset, .unset] [] := s338.mono fun hh q => q.2
    have s340 : Sit p l e _ s m _ below meth c _ st n0 3 26 _ 116 #[.val (.int x0), .val (.int x1), .val (.long x2), .second, .val (.long x3), .second, .val (.int x4), .val (.int (5 : Int32)), .val (.ref o), .unset, .unset, .unset, .unset, .unset, .unset, .unset, .unset] [(.int x0), (.ref o)] := s339
      |>.aload at_113 rfl rfl
      |>.iloadN at_115 rfl rfl
    obtain ⟨r342, s341⟩ := Sit.callV (C := "reenact/trace/IntList") (y := (⟨"reenact/trace/IntList", "add", "(I)V"⟩ : MethodName)) (W := 0) (Q := fun rv_ hh => (rv_ = none) ∧ (fun hh => IL Z hh o b [x0, x1, x0, x1, x0, (ushr64 x2 (32 : Int32)).toInt32, x2.toInt32, (ushr64 x3 (32 : Int32)).toInt32, x3.toInt32, x0] [0, 0, 0, 0, 0, 0]) hh) [(.int x0)] [] s340 hZ hown (wi hw 12 rfl) (wi hw 13 rfl) (wi hw 15 rfl) (wi hw 14 rfl) (wi hw 16 rfl) (wi hw 2 rfl) (by decide) (fun hh q => q.1) (fun h1 hP hn => (rmAdd l Z a0 hw [] o x0 b [x0, x1, x0, x1, x0, (ushr64 x2 (32 : Int32)).toInt32, x2.toInt32, (ushr64 x3 (32 : Int32)).toInt32, x3.toInt32] 0 [0, 0, 0, 0, 0, 0] h1 n0 hn g_o g_b hP (by simp)).mono fun rv_ hh q => q) hml rfl (lenOf pd_2 rfl) at_116 (Nat.le_of_eq rfl) (by decide) (by decide) (by decide) (by decide) (pc' := 119) rfl
    obtain ⟨_, er342, _⟩ := s341.facts
    subst er342
    have s343 : Sit p l e _ s m _ below meth c _ st n0 3 26 (fun hh => IL Z hh o b [x0, x1, x0, x1, x0, (ushr64 x2 (32 : Int32)).toInt32, x2.toInt32, (ushr64 x3 (32 : Int32)).toInt32, x3.toInt32, x0] [0, 0, 0, 0, 0, 0]) 119 #[.val (.int x0), .val (.int x1), .val (.long x2), .second, .val (.long x3), .second, .val (.int x4), .val (.int (5 : Int32)), .val (.ref o), .unset, .unset, .unset, .unset, .unset, .unset, .unset, .unset] [] := s341.mono fun _ q => q.2
    have s344 : Sit p l e _ s m _ below meth c _ st n0 3 26 _ 122 #[.val (.int x0), .val (.int x1), .val (.long x2), .second, .val (.long x3), .second, .val (.int x4), .val (.int (5 : Int32)), .val (.ref o), .unset, .unset, .unset, .unset, .unset, .unset, .unset, .unset] [(.int x1), (.ref o)] := s343
      |>.aload at_119 rfl rfl
      |>.iloadN at_121 rfl rfl
    obtain ⟨r346, s345⟩ := Sit.callV (C := "reenact/trace/IntList") (y := (⟨"reenact/trace/IntList", "add", "(I)V"⟩ : MethodName)) (W := 0) (Q := fun rv_ hh => (rv_ = none) ∧ (fun hh => IL Z hh o b [x0, x1, x0, x1, x0, (ushr64 x2 (32 : Int32)).toInt32, x2.toInt32, (ushr64 x3 (32 : Int32)).toInt32, x3.toInt32, x0, x1] [0, 0, 0, 0, 0]) hh) [(.int x1)] [] s344 hZ hown (wi hw 12 rfl) (wi hw 13 rfl) (wi hw 15 rfl) (wi hw 14 rfl) (wi hw 16 rfl) (wi hw 2 rfl) (by decide) (fun hh q => q.1) (fun h1 hP hn => (rmAdd l Z a0 hw [] o x1 b [x0, x1, x0, x1, x0, (ushr64 x2 (32 : Int32)).toInt32, x2.toInt32, (ushr64 x3 (32 : Int32)).toInt32, x3.toInt32, x0] 0 [0, 0, 0, 0, 0] h1 n0 hn g_o g_b hP (by simp)).mono fun rv_ hh q => q) hml rfl (lenOf pd_2 rfl) at_122 (Nat.le_of_eq rfl) (by decide) (by decide) (by decide) (by decide) (pc' := 125) rfl
    obtain ⟨_, er346, _⟩ := s345.facts
    subst er346
    have s347 : Sit p l e _ s m _ below meth c _ st n0 3 26 (fun hh => IL Z hh o b [x0, x1, x0, x1, x0, (ushr64 x2 (32 : Int32)).toInt32, x2.toInt32, (ushr64 x3 (32 : Int32)).toInt32, x3.toInt32, x0, x1] [0, 0, 0, 0, 0]) 125 #[.val (.int x0), .val (.int x1), .val (.long x2), .second, .val (.long x3), .second, .val (.int x4), .val (.int (5 : Int32)), .val (.ref o), .unset, .unset, .unset, .unset, .unset, .unset, .unset, .unset] [] := s345.mono fun _ q => q.2
    have s348 : Sit p l e _ s m _ below meth c _ st n0 3 26 _ 129 #[.val (.int x0), .val (.int x1), .val (.long x2), .second, .val (.long x3), .second, .val (.int x4), .val (.int (5 : Int32)), .val (.ref o), .unset, .unset, .unset, .unset, .unset, .unset, .unset, .unset] [(.int (5 : Int32)), (.ref o)] := s347
      |>.aload at_125 rfl rfl
      |>.iload at_127 rfl rfl
    obtain ⟨r350, s349⟩ := Sit.callV (C := "reenact/trace/IntList") (y := (⟨"reenact/trace/IntList", "getWide", "(I)J"⟩ : MethodName)) (W := 0) (Q := fun rv_ hh => (rv_ = some (.long (wide2 (ushr64 x2 (32 : Int32)).toInt32 x2.toInt32))) ∧ (fun hh => IL Z hh o b [x0, x1, x0, x1, x0, (ushr64 x2 (32 : Int32)).toInt32, x2.toInt32, (ushr64 x3 (32 : Int32)).toInt32, x3.toInt32, x0, x1] [0, 0, 0, 0, 0]) hh) [(.int (5 : Int32))] [] s348 hZ hown (wi hw 25 rfl) (wi hw 26 rfl) (wi hw 28 rfl) (wi hw 27 rfl) (wi hw 29 rfl) (wi hw 2 rfl) (by decide) (fun hh q => q.1) (fun h1 hP hn => (rmGet l Z a0 hw [] o (5 : Int32) b [x0, x1, x0, x1, x0, (ushr64 x2 (32 : Int32)).toInt32, x2.toInt32, (ushr64 x3 (32 : Int32)).toInt32, x3.toInt32, x0, x1] [0, 0, 0, 0, 0] 5 (ushr64 x2 (32 : Int32)).toInt32 x2.toInt32 h1 n0 hn hP rfl (by decide) rfl rfl).mono fun rv_ hh q => ⟨q.1, q.2 ▸ hP⟩) hml rfl (lenOf pd_5 rfl) at_129 (Nat.le_of_eq rfl) (by decide) (by decide) (by decide) (by decide) (pc' := 132) rfl
    obtain ⟨_, er350, _⟩ := s349.facts
    subst er350
    have s351 : Sit p l e _ s m _ below meth c _ st n0 3 26 (fun hh => IL Z hh o b [x0, x1, x0, x1, x0, (ushr64 x2 (32 : Int32)).toInt32, x2.toInt32, (ushr64 x3 (32 : Int32)).toInt32, x3.toInt32, x0, x1] [0, 0, 0, 0, 0]) 132 #[.val (.int x0), .val (.int x1), .val (.long x2), .second, .val (.long x3), .second, .val (.int x4), .val (.int (5 : Int32)), .val (.ref o), .unset, .unset, .unset, .unset, .unset, .unset, .unset, .unset] [(.long (wide2 (ushr64 x2 (32 : Int32)).toInt32 x2.toInt32))] := s349.mono fun _ q => q.2
    have s352 : Sit p l e _ s m _ below meth c _ st n0 3 26 _ 140 #[.val (.int x0), .val (.int x1), .val (.long x2), .second, .val (.long x3), .second, .val (.int x4), .val (.int (5 : Int32)), .val (.ref o), .val (.long (wide2 (ushr64 x2 (32 : Int32)).toInt32 x2.toInt32)), .second, .unset, .unset, .unset, .unset, .unset, .unset] [(.int ((5 : Int32) + (2 : Int32))), (.ref o)] := s351
      |>.lstore #[.val (.int x0), .val (.int x1), .val (.long x2), .second, .val (.long x3), .second, .val (.int x4), .val (.int (5 : Int32)), .val (.ref o), .val (.long (wide2 (ushr64 x2 (32 : Int32)).toInt32 x2.toInt32)), .second, .unset, .unset, .unset, .unset, .unset, .unset] at_132 rfl rfl
      |>.aload at_134 rfl rfl
      |>.iload at_136 rfl rfl
      |>.iconst (2 : Int32) at_138 rfl rfl
      |>.iadd at_139 rfl
    obtain ⟨r354, s353⟩ := Sit.callV (C := "reenact/trace/IntList") (y := (⟨"reenact/trace/IntList", "getWide", "(I)J"⟩ : MethodName)) (W := 0) (Q := fun rv_ hh => (rv_ = some (.long (wide2 (ushr64 x3 (32 : Int32)).toInt32 x3.toInt32))) ∧ (fun hh => IL Z hh o b [x0, x1, x0, x1, x0, (ushr64 x2 (32 : Int32)).toInt32, x2.toInt32, (ushr64 x3 (32 : Int32)).toInt32, x3.toInt32, x0, x1] [0, 0, 0, 0, 0]) hh) [(.int ((5 : Int32) + (2 : Int32)))] [] s352 hZ hown (wi hw 25 rfl) (wi hw 26 rfl) (wi hw 28 rfl) (wi hw 27 rfl) (wi hw 29 rfl) (wi hw 2 rfl) (by decide) (fun hh q => q.1) (fun h1 hP hn => (rmGet l Z a0 hw [] o ((5 : Int32) + (2 : Int32)) b [x0, x1, x0, x1, x0, (ushr64 x2 (32 : Int32)).toInt32, x2.toInt32, (ushr64 x3 (32 : Int32)).toInt32, x3.toInt32, x0, x1] [0, 0, 0, 0, 0] 7 (ushr64 x3 (32 : Int32)).toInt32 x3.toInt32 h1 n0 hn hP rfl (by decide) rfl rfl).mono fun rv_ hh q => ⟨q.1, q.2 ▸ hP⟩) hml rfl (lenOf pd_5 rfl) at_140 (Nat.le_of_eq rfl) (by decide) (by decide) (by decide) (by decide) (pc' := 143) rfl
    obtain ⟨_, er354, _⟩ := s353.facts
    subst er354
    have s355 : Sit p l e _ s m _ below meth c _ st n0 3 26 (fun hh => IL Z hh o b [x0, x1, x0, x1, x0, (ushr64 x2 (32 : Int32)).toInt32, x2.toInt32, (ushr64 x3 (32 : Int32)).toInt32, x3.toInt32, x0, x1] [0, 0, 0, 0, 0]) 143 #[.val (.int x0), .val (.int x1), .val (.long x2), .second, .val (.long x3), .second, .val (.int x4), .val (.int (5 : Int32)), .val (.ref o), .val (.long (wide2 (ushr64 x2 (32 : Int32)).toInt32 x2.toInt32)), .second, .unset, .unset, .unset, .unset, .unset, .unset] [(.long (wide2 (ushr64 x3 (32 : Int32)).toInt32 x3.toInt32))] := s353.mono fun _ q => q.2
    have s356 : Sit p l e _ s m _ below meth c _ st n0 3 26 _ 151 #[.val (.int x0), .val (.int x1), .val (.long x2), .second, .val (.long x3), .second, .val (.int x4), .val (.int (5 : Int32)), .val (.ref o), .val (.long (wide2 (ushr64 x2 (32 : Int32)).toInt32 x2.toInt32)), .second, .val (.long (wide2 (ushr64 x3 (32 : Int32)).toInt32 x3.toInt32)), .second, .unset, .unset, .unset, .unset] [(.int ((5 : Int32) + (4 : Int32))), (.ref o)] := s355
      |>.lstore #[.val (.int x0), .val (.int x1), .val (.long x2), .second, .val (.long x3), .second, .val (.int x4), .val (.int (5 : Int32)), .val (.ref o), .val (.long (wide2 (ushr64 x2 (32 : Int32)).toInt32 x2.toInt32)), .second, .val (.long (wide2 (ushr64 x3 (32 : Int32)).toInt32 x3.toInt32)), .second, .unset, .unset, .unset, .unset] at_143 rfl rfl
      |>.aload at_145 rfl rfl
      |>.iload at_147 rfl rfl
      |>.iconst (4 : Int32) at_149 rfl rfl
      |>.iadd at_150 rfl
    obtain ⟨r358, s357⟩ := Sit.callV (C := "reenact/trace/IntList") (y := (⟨"reenact/trace/IntList", "getWide", "(I)J"⟩ : MethodName)) (W := 0) (Q := fun rv_ hh => (rv_ = some (.long (wide2 x0 x1))) ∧ (fun hh => IL Z hh o b [x0, x1, x0, x1, x0, (ushr64 x2 (32 : Int32)).toInt32, x2.toInt32, (ushr64 x3 (32 : Int32)).toInt32, x3.toInt32, x0, x1] [0, 0, 0, 0, 0]) hh) [(.int ((5 : Int32) + (4 : Int32)))] [] s356 hZ hown (wi hw 25 rfl) (wi hw 26 rfl) (wi hw 28 rfl) (wi hw 27 rfl) (wi hw 29 rfl) (wi hw 2 rfl) (by decide) (fun hh q => q.1) (fun h1 hP hn => (rmGet l Z a0 hw [] o ((5 : Int32) + (4 : Int32)) b [x0, x1, x0, x1, x0, (ushr64 x2 (32 : Int32)).toInt32, x2.toInt32, (ushr64 x3 (32 : Int32)).toInt32, x3.toInt32, x0, x1] [0, 0, 0, 0, 0] 9 x0 x1 h1 n0 hn hP rfl (by decide) rfl rfl).mono fun rv_ hh q => ⟨q.1, q.2 ▸ hP⟩) hml rfl (lenOf pd_5 rfl) at_151 (Nat.le_of_eq rfl) (by decide) (by decide) (by decide) (by decide) (pc' := 154) rfl
    obtain ⟨_, er358, _⟩ := s357.facts
    subst er358
    have s359 : Sit p l e _ s m _ below meth c _ st n0 3 26 (fun hh => IL Z hh o b [x0, x1, x0, x1, x0, (ushr64 x2 (32 : Int32)).toInt32, x2.toInt32, (ushr64 x3 (32 : Int32)).toInt32, x3.toInt32, x0, x1] [0, 0, 0, 0, 0]) 154 #[.val (.int x0), .val (.int x1), .val (.long x2), .second, .val (.long x3), .second, .val (.int x4), .val (.int (5 : Int32)), .val (.ref o), .val (.long (wide2 (ushr64 x2 (32 : Int32)).toInt32 x2.toInt32)), .second, .val (.long (wide2 (ushr64 x3 (32 : Int32)).toInt32 x3.toInt32)), .second, .unset, .unset, .unset, .unset] [(.long (wide2 x0 x1))] := s357.mono fun _ q => q.2
    have s360 : Sit p l e _ s m _ below meth c _ st n0 3 26 _ 163 #[.val (.int x0), .val (.int x1), .val (.long x2), .second, .val (.long x3), .second, .val (.int x4), .val (.int (5 : Int32)), .val (.ref o), .val (.long (wide2 (ushr64 x2 (32 : Int32)).toInt32 x2.toInt32)), .second, .val (.long (wide2 (ushr64 x3 (32 : Int32)).toInt32 x3.toInt32)), .second, .val (.long (wide2 x0 x1)), .second, .unset, .unset] [(.int x0), (.int (ushr64 (wide2 x0 x1) (32 : Int32)).toInt32)] := s359
      |>.lstore #[.val (.int x0), .val (.int x1), .val (.long x2), .second, .val (.long x3), .second, .val (.int x4), .val (.int (5 : Int32)), .val (.ref o), .val (.long (wide2 (ushr64 x2 (32 : Int32)).toInt32 x2.toInt32)), .second, .val (.long (wide2 (ushr64 x3 (32 : Int32)).toInt32 x3.toInt32)), .second, .val (.long (wide2 x0 x1)), .second, .unset, .unset] at_154 rfl rfl
      |>.lload at_156 rfl rfl
      |>.bipush (32 : Int32) at_158 rfl rfl
      |>.lushr at_160 rfl
      |>.l2i at_161 rfl
      |>.iloadN at_162 rfl rfl
    have s361 : Sit p l e _ s m _ below meth c _ st n0 3 26 _ 177 #[.val (.int x0), .val (.int x1), .val (.long x2), .second, .val (.long x3), .second, .val (.int x4), .val (.int (5 : Int32)), .val (.ref o), .val (.long (wide2 (ushr64 x2 (32 : Int32)).toInt32 x2.toInt32)), .second, .val (.long (wide2 (ushr64 x3 (32 : Int32)).toInt32 x3.toInt32)), .second, .val (.long (wide2 x0 x1)), .second, .val (.int (1 : Int32)), .unset] [(.int x1), (.int (wide2 x0 x1).toInt32)] := s360
      |>.icmpN at_163 ((neF (Classical.not_not.mp (show ¬ (¬ (ushr64 (wide2 x0 x1) (32 : Int32)).toInt32 = x0) from fun h => h (wide_hi x0 x1))))) rfl
      |>.iconst (1 : Int32) at_166 rfl rfl
      |>.goto at_167 (by decide) (by decide)
      |>.istore #[.val (.int x0), .val (.int x1), .val (.long x2), .second, .val (.long x3), .second, .val (.int x4), .val (.int (5 : Int32)), .val (.ref o), .val (.long (wide2 (ushr64 x2 (32 : Int32)).toInt32 x2.toInt32)), .second, .val (.long (wide2 (ushr64 x3 (32 : Int32)).toInt32 x3.toInt32)), .second, .val (.long (wide2 x0 x1)), .second, .val (.int (1 : Int32)), .unset] at_171 rfl rfl
      |>.lload at_173 rfl rfl
      |>.l2i at_175 rfl
      |>.iloadN at_176 rfl rfl
    have s362 : Sit p l e _ s m _ below meth c _ st n0 3 26 _ 191 #[.val (.int x0), .val (.int x1), .val (.long x2), .second, .val (.long x3), .second, .val (.int x4), .val (.int (5 : Int32)), .val (.ref o), .val (.long (wide2 (ushr64 x2 (32 : Int32)).toInt32 x2.toInt32)), .second, .val (.long (wide2 (ushr64 x3 (32 : Int32)).toInt32 x3.toInt32)), .second, .val (.long (wide2 x0 x1)), .second, .val (.int (1 : Int32)), .val (.int (1 : Int32))] [(.int (lcmp3 (wide2 (ushr64 x2 (32 : Int32)).toInt32 x2.toInt32) x2))] := s361
      |>.icmpN at_177 ((neF (Classical.not_not.mp (show ¬ (¬ (wide2 x0 x1).toInt32 = x1) from fun h => h (wide_lo x0 x1))))) rfl
      |>.iconst (1 : Int32) at_180 rfl rfl
      |>.goto at_181 (by decide) (by decide)
      |>.istore #[.val (.int x0), .val (.int x1), .val (.long x2), .second, .val (.long x3), .second, .val (.int x4), .val (.int (5 : Int32)), .val (.ref o), .val (.long (wide2 (ushr64 x2 (32 : Int32)).toInt32 x2.toInt32)), .second, .val (.long (wide2 (ushr64 x3 (32 : Int32)).toInt32 x3.toInt32)), .second, .val (.long (wide2 x0 x1)), .second, .val (.int (1 : Int32)), .val (.int (1 : Int32))] at_185 rfl rfl
      |>.lload at_187 rfl rfl
      |>.lloadN at_189 rfl rfl
      |>.lcmp at_190 rfl
    have s363 : Sit p l e _ s m _ below meth c _ st n0 3 26 _ 199 #[.val (.int x0), .val (.int x1), .val (.long x2), .second, .val (.long x3), .second, .val (.int x4), .val (.int (5 : Int32)), .val (.ref o), .val (.long (wide2 (ushr64 x2 (32 : Int32)).toInt32 x2.toInt32)), .second, .val (.long (wide2 (ushr64 x3 (32 : Int32)).toInt32 x3.toInt32)), .second, .val (.long (wide2 x0 x1)), .second, .val (.int (1 : Int32)), .val (.int (1 : Int32))] [(.int (lcmp3 (wide2 (ushr64 x3 (32 : Int32)).toInt32 x3.toInt32) x3))] := s362
      |>.ifN at_191 (lcF (cd := .ne) (show ¬ (¬ (wide2 (ushr64 x2 (32 : Int32)).toInt32 x2.toInt32) = x2) from fun h => h (wide_back x2))) rfl
      |>.lload at_194 rfl rfl
      |>.lload at_196 rfl rfl
      |>.lcmp at_198 rfl
    have s364 : Sit p l e _ s m _ below meth c _ st n0 3 26 _ 204 #[.val (.int x0), .val (.int x1), .val (.long x2), .second, .val (.long x3), .second, .val (.int x4), .val (.int (5 : Int32)), .val (.ref o), .val (.long (wide2 (ushr64 x2 (32 : Int32)).toInt32 x2.toInt32)), .second, .val (.long (wide2 (ushr64 x3 (32 : Int32)).toInt32 x3.toInt32)), .second, .val (.long (wide2 x0 x1)), .second, .val (.int (1 : Int32)), .val (.int (1 : Int32))] [(.int (1 : Int32))] := s363
      |>.ifN at_199 (lcF (cd := .ne) (show ¬ (¬ (wide2 (ushr64 x3 (32 : Int32)).toInt32 x3.toInt32) = x3) from fun h => h (wide_back x3))) rfl
      |>.iload at_202 rfl rfl
    have s365 : Sit p l e _ s m _ below meth c _ st n0 3 26 _ 209 #[.val (.int x0), .val (.int x1), .val (.long x2), .second, .val (.long x3), .second, .val (.int x4), .val (.int (5 : Int32)), .val (.ref o), .val (.long (wide2 (ushr64 x2 (32 : Int32)).toInt32 x2.toInt32)), .second, .val (.long (wide2 (ushr64 x3 (32 : Int32)).toInt32 x3.toInt32)), .second, .val (.long (wide2 x0 x1)), .second, .val (.int (1 : Int32)), .val (.int (1 : Int32))] [(.int (1 : Int32))] := s364
      |>.ifN at_204 (eqF (show ¬ ((1 : Int32) = 0) from by decide)) rfl
      |>.iload at_207 rfl rfl
    have s366 : Sit p l e _ s m _ below meth c _ st n0 3 26 _ 214 #[.val (.int x0), .val (.int x1), .val (.long x2), .second, .val (.long x3), .second, .val (.int x4), .val (.int (5 : Int32)), .val (.ref o), .val (.long (wide2 (ushr64 x2 (32 : Int32)).toInt32 x2.toInt32)), .second, .val (.long (wide2 (ushr64 x3 (32 : Int32)).toInt32 x3.toInt32)), .second, .val (.long (wide2 x0 x1)), .second, .val (.int (1 : Int32)), .val (.int (1 : Int32))] [(.ref o)] := s365
      |>.ifN at_209 (eqF (show ¬ ((1 : Int32) = 0) from by decide)) rfl
      |>.aload at_212 rfl rfl
    obtain ⟨r368, s367⟩ := Sit.callV (C := "reenact/trace/IntList") (y := (⟨"reenact/trace/IntList", "size", "()I"⟩ : MethodName)) (W := 0) (Q := fun rv_ hh => (rv_ = some (.int (Int32.ofNat 11))) ∧ (fun hh => IL Z hh o b [x0, x1, x0, x1, x0, (ushr64 x2 (32 : Int32)).toInt32, x2.toInt32, (ushr64 x3 (32 : Int32)).toInt32, x3.toInt32, x0, x1] [0, 0, 0, 0, 0]) hh) [] [] s366 hZ hown (wi hw 31 rfl) (wi hw 32 rfl) (wi hw 34 rfl) (wi hw 33 rfl) (wi hw 35 rfl) (wi hw 2 rfl) (by decide) (fun hh q => q.1) (fun h1 hP hn => (rmSize l Z a0 hw [] o b [x0, x1, x0, x1, x0, (ushr64 x2 (32 : Int32)).toInt32, x2.toInt32, (ushr64 x3 (32 : Int32)).toInt32, x3.toInt32, x0, x1] [0, 0, 0, 0, 0] h1 n0 hn hP).mono fun rv_ hh q => ⟨q.1, q.2 ▸ hP⟩) hml rfl (lenOf pd_6 rfl) at_214 (Nat.le_of_eq rfl) (by decide) (by decide) (by decide) (by decide) (pc' := 217) rfl
    obtain ⟨_, er368, _⟩ := s367.facts
    subst er368
    have s369 : Sit p l e _ s m _ below meth c _ st n0 3 26 (fun hh => IL Z hh o b [x0, x1, x0, x1, x0, (ushr64 x2 (32 : Int32)).toInt32, x2.toInt32, (ushr64 x3 (32 : Int32)).toInt32, x3.toInt32, x0, x1] [0, 0, 0, 0, 0]) 217 #[.val (.int x0), .val (.int x1), .val (.long x2), .second, .val (.long x3), .second, .val (.int x4), .val (.int (5 : Int32)), .val (.ref o), .val (.long (wide2 (ushr64 x2 (32 : Int32)).toInt32 x2.toInt32)), .second, .val (.long (wide2 (ushr64 x3 (32 : Int32)).toInt32 x3.toInt32)), .second, .val (.long (wide2 x0 x1)), .second, .val (.int (1 : Int32)), .val (.int (1 : Int32))] [(.int (Int32.ofNat 11))] := s367.mono fun _ q => q.2
    have s370 : Sit p l e _ s m _ below meth c _ st n0 3 26 _ 222 #[.val (.int x0), .val (.int x1), .val (.long x2), .second, .val (.long x3), .second, .val (.int x4), .val (.int (5 : Int32)), .val (.ref o), .val (.long (wide2 (ushr64 x2 (32 : Int32)).toInt32 x2.toInt32)), .second, .val (.long (wide2 (ushr64 x3 (32 : Int32)).toInt32 x3.toInt32)), .second, .val (.long (wide2 x0 x1)), .second, .val (.int (1 : Int32)), .val (.int (1 : Int32))] [(.int ((5 : Int32) + (6 : Int32))), (.int (Int32.ofNat 11))] := s369
      |>.iload at_217 rfl rfl
      |>.bipush (6 : Int32) at_219 rfl rfl
      |>.iadd at_221 rfl
    have s371 : Sit p l e _ s m _ below meth c _ st n0 3 26 _ 230 #[.val (.int x0), .val (.int x1), .val (.long x2), .second, .val (.long x3), .second, .val (.int x4), .val (.int (5 : Int32)), .val (.ref o), .val (.long (wide2 (ushr64 x2 (32 : Int32)).toInt32 x2.toInt32)), .second, .val (.long (wide2 (ushr64 x3 (32 : Int32)).toInt32 x3.toInt32)), .second, .val (.long (wide2 x0 x1)), .second, .val (.int (1 : Int32)), .val (.int (1 : Int32))] [(.int (1 : Int32))] := s370
      |>.icmpN at_222 ((neF (Classical.not_not.mp (show ¬ (¬ (Int32.ofNat 11) = ((5 : Int32) + (6 : Int32))) from by decide)))) rfl
      |>.iconst (1 : Int32) at_225 rfl rfl
      |>.goto at_226 (by decide) (by decide)
    exact (s371.bound (by decide) (by decide)).retZ at_230 hret hlk (fun hh q => rfl)
  · have s372 : Sit p l e _ s m _ below meth c _ st n0 2 10 (fun hh => IL Z hh o v [] [0, 0, 0, 0, 0, 0, 0, 0]) 16 #[.val (.int x0), .val (.int x1), .val (.long x2), .second, .val (.long x3), .second, .val (.int x4), .val (.int (6 : Int32)), .val (.ref o), .unset, .unset, .unset, .unset, .unset, .unset, .unset, .unset] [] := s14
    have s373 : Sit p l e _ s m _ below meth c _ st n0 2 10 _ 18 #[.val (.int x0), .val (.int x1), .val (.long x2), .second, .val (.long x3), .second, .val (.int x4), .val (.int (6 : Int32)), .val (.ref o), .unset, .unset, .unset, .unset, .unset, .unset, .unset, .unset] [(.int (6 : Int32))] := s372
      |>.iload at_16 rfl rfl
    have s374 : Sit p l e _ s m _ below meth c _ st n0 2 10 _ 24 #[.val (.int x0), .val (.int x1), .val (.long x2), .second, .val (.long x3), .second, .val (.int x4), .val (.int (6 : Int32)), .val (.ref o), .unset, .unset, .unset, .unset, .unset, .unset, .unset, .unset] [(.int x0), (.ref o)] := s373
      |>.ifN at_18 (cmpF0 (cd := .le) (show ¬ ((6 : Int) ≤ 0) from by decide)) rfl
      |>.aload at_21 rfl rfl
      |>.iloadN at_23 rfl rfl
    obtain ⟨r376, s375⟩ := Sit.callV (C := "reenact/trace/IntList") (y := (⟨"reenact/trace/IntList", "add", "(I)V"⟩ : MethodName)) (W := 0) (Q := fun rv_ hh => (rv_ = none) ∧ (fun hh => IL Z hh o v [x0] [0, 0, 0, 0, 0, 0, 0]) hh) [(.int x0)] [] s374 hZ hown (wi hw 12 rfl) (wi hw 13 rfl) (wi hw 15 rfl) (wi hw 14 rfl) (wi hw 16 rfl) (wi hw 2 rfl) (by decide) (fun hh q => q.1) (fun h1 hP hn => (rmAdd l Z a0 hw [] o x0 v [] 0 [0, 0, 0, 0, 0, 0, 0] h1 n0 hn g_o g_v hP (by simp)).mono fun rv_ hh q => q) hml rfl (lenOf pd_2 rfl) at_24 (Nat.le_of_eq rfl) (by decide) (by decide) (by decide) (by decide) (pc' := 27) rfl
    obtain ⟨_, er376, _⟩ := s375.facts
    subst er376
    have s377 : Sit p l e _ s m _ below meth c _ st n0 2 10 (fun hh => IL Z hh o v [x0] [0, 0, 0, 0, 0, 0, 0]) 27 #[.val (.int x0), .val (.int x1), .val (.long x2), .second, .val (.long x3), .second, .val (.int x4), .val (.int (6 : Int32)), .val (.ref o), .unset, .unset, .unset, .unset, .unset, .unset, .unset, .unset] [] := s375.mono fun _ q => q.2
    have s378 : Sit p l e _ s m _ below meth c _ st n0 2 10 _ 30 #[.val (.int x0), .val (.int x1), .val (.long x2), .second, .val (.long x3), .second, .val (.int x4), .val (.int (6 : Int32)), .val (.ref o), .unset, .unset, .unset, .unset, .unset, .unset, .unset, .unset] [(.int (1 : Int32)), (.int (6 : Int32))] := s377
      |>.iload at_27 rfl rfl
      |>.iconst (1 : Int32) at_29 rfl rfl
    have s379 : Sit p l e _ s m _ below meth c _ st n0 2 10 _ 36 #[.val (.int x0), .val (.int x1), .val (.long x2), .second, .val (.long x3), .second, .val (.int x4), .val (.int (6 : Int32)), .val (.ref o), .unset, .unset, .unset, .unset, .unset, .unset, .unset, .unset] [(.int x1), (.ref o)] := s378
      |>.icmpN at_30 (cmpF (cd := .le) (show ¬ ((6 : Int) ≤ (1 : Int)) from by decide)) rfl
      |>.aload at_33 rfl rfl
      |>.iloadN at_35 rfl rfl
    obtain ⟨r381, s380⟩ := Sit.callV (C := "reenact/trace/IntList") (y := (⟨"reenact/trace/IntList", "add", "(I)V"⟩ : MethodName)) (W := 0) (Q := fun rv_ hh => (rv_ = none) ∧ (fun hh => IL Z hh o v [x0, x1] [0, 0, 0, 0, 0, 0]) hh) [(.int x1)] [] s379 hZ hown (wi hw 12 rfl) (wi hw 13 rfl) (wi hw 15 rfl) (wi hw 14 rfl) (wi hw 16 rfl) (wi hw 2 rfl) (by decide) (fun hh q => q.1) (fun h1 hP hn => (rmAdd l Z a0 hw [] o x1 v [x0] 0 [0, 0, 0, 0, 0, 0] h1 n0 hn g_o g_v hP (by simp)).mono fun rv_ hh q => q) hml rfl (lenOf pd_2 rfl) at_36 (Nat.le_of_eq rfl) (by decide) (by decide) (by decide) (by decide) (pc' := 39) rfl
    obtain ⟨_, er381, _⟩ := s380.facts
    subst er381
    have s382 : Sit p l e _ s m _ below meth c _ st n0 2 10 (fun hh => IL Z hh o v [x0, x1] [0, 0, 0, 0, 0, 0]) 39 #[.val (.int x0), .val (.int x1), .val (.long x2), .second, .val (.long x3), .second, .val (.int x4), .val (.int (6 : Int32)), .val (.ref o), .unset, .unset, .unset, .unset, .unset, .unset, .unset, .unset] [] := s380.mono fun _ q => q.2
    have s383 : Sit p l e _ s m _ below meth c _ st n0 2 10 _ 42 #[.val (.int x0), .val (.int x1), .val (.long x2), .second, .val (.long x3), .second, .val (.int x4), .val (.int (6 : Int32)), .val (.ref o), .unset, .unset, .unset, .unset, .unset, .unset, .unset, .unset] [(.int (2 : Int32)), (.int (6 : Int32))] := s382
      |>.iload at_39 rfl rfl
      |>.iconst (2 : Int32) at_41 rfl rfl
    have s384 : Sit p l e _ s m _ below meth c _ st n0 2 10 _ 48 #[.val (.int x0), .val (.int x1), .val (.long x2), .second, .val (.long x3), .second, .val (.int x4), .val (.int (6 : Int32)), .val (.ref o), .unset, .unset, .unset, .unset, .unset, .unset, .unset, .unset] [(.int x0), (.ref o)] := s383
      |>.icmpN at_42 (cmpF (cd := .le) (show ¬ ((6 : Int) ≤ (2 : Int)) from by decide)) rfl
      |>.aload at_45 rfl rfl
      |>.iloadN at_47 rfl rfl
    obtain ⟨r386, s385⟩ := Sit.callV (C := "reenact/trace/IntList") (y := (⟨"reenact/trace/IntList", "add", "(I)V"⟩ : MethodName)) (W := 0) (Q := fun rv_ hh => (rv_ = none) ∧ (fun hh => IL Z hh o v [x0, x1, x0] [0, 0, 0, 0, 0]) hh) [(.int x0)] [] s384 hZ hown (wi hw 12 rfl) (wi hw 13 rfl) (wi hw 15 rfl) (wi hw 14 rfl) (wi hw 16 rfl) (wi hw 2 rfl) (by decide) (fun hh q => q.1) (fun h1 hP hn => (rmAdd l Z a0 hw [] o x0 v [x0, x1] 0 [0, 0, 0, 0, 0] h1 n0 hn g_o g_v hP (by simp)).mono fun rv_ hh q => q) hml rfl (lenOf pd_2 rfl) at_48 (Nat.le_of_eq rfl) (by decide) (by decide) (by decide) (by decide) (pc' := 51) rfl
    obtain ⟨_, er386, _⟩ := s385.facts
    subst er386
    have s387 : Sit p l e _ s m _ below meth c _ st n0 2 10 (fun hh => IL Z hh o v [x0, x1, x0] [0, 0, 0, 0, 0]) 51 #[.val (.int x0), .val (.int x1), .val (.long x2), .second, .val (.long x3), .second, .val (.int x4), .val (.int (6 : Int32)), .val (.ref o), .unset, .unset, .unset, .unset, .unset, .unset, .unset, .unset] [] := s385.mono fun _ q => q.2
    have s388 : Sit p l e _ s m _ below meth c _ st n0 2 10 _ 54 #[.val (.int x0), .val (.int x1), .val (.long x2), .second, .val (.long x3), .second, .val (.int x4), .val (.int (6 : Int32)), .val (.ref o), .unset, .unset, .unset, .unset, .unset, .unset, .unset, .unset] [(.int (3 : Int32)), (.int (6 : Int32))] := s387
      |>.iload at_51 rfl rfl
      |>.iconst (3 : Int32) at_53 rfl rfl
    have s389 : Sit p l e _ s m _ below meth c _ st n0 2 10 _ 60 #[.val (.int x0), .val (.int x1), .val (.long x2), .second, .val (.long x3), .second, .val (.int x4), .val (.int (6 : Int32)), .val (.ref o), .unset, .unset, .unset, .unset, .unset, .unset, .unset, .unset] [(.int x1), (.ref o)] := s388
      |>.icmpN at_54 (cmpF (cd := .le) (show ¬ ((6 : Int) ≤ (3 : Int)) from by decide)) rfl
      |>.aload at_57 rfl rfl
      |>.iloadN at_59 rfl rfl
    obtain ⟨r391, s390⟩ := Sit.callV (C := "reenact/trace/IntList") (y := (⟨"reenact/trace/IntList", "add", "(I)V"⟩ : MethodName)) (W := 0) (Q := fun rv_ hh => (rv_ = none) ∧ (fun hh => IL Z hh o v [x0, x1, x0, x1] [0, 0, 0, 0]) hh) [(.int x1)] [] s389 hZ hown (wi hw 12 rfl) (wi hw 13 rfl) (wi hw 15 rfl) (wi hw 14 rfl) (wi hw 16 rfl) (wi hw 2 rfl) (by decide) (fun hh q => q.1) (fun h1 hP hn => (rmAdd l Z a0 hw [] o x1 v [x0, x1, x0] 0 [0, 0, 0, 0] h1 n0 hn g_o g_v hP (by simp)).mono fun rv_ hh q => q) hml rfl (lenOf pd_2 rfl) at_60 (Nat.le_of_eq rfl) (by decide) (by decide) (by decide) (by decide) (pc' := 63) rfl
    obtain ⟨_, er391, _⟩ := s390.facts
    subst er391
    have s392 : Sit p l e _ s m _ below meth c _ st n0 2 10 (fun hh => IL Z hh o v [x0, x1, x0, x1] [0, 0, 0, 0]) 63 #[.val (.int x0), .val (.int x1), .val (.long x2), .second, .val (.long x3), .second, .val (.int x4), .val (.int (6 : Int32)), .val (.ref o), .unset, .unset, .unset, .unset, .unset, .unset, .unset, .unset] [] := s390.mono fun _ q => q.2
    have s393 : Sit p l e _ s m _ below meth c _ st n0 2 10 _ 66 #[.val (.int x0), .val (.int x1), .val (.long x2), .second, .val (.long x3), .second, .val (.int x4), .val (.int (6 : Int32)), .val (.ref o), .unset, .unset, .unset, .unset, .unset, .unset, .unset, .unset] [(.int (4 : Int32)), (.int (6 : Int32))] := s392
      |>.iload at_63 rfl rfl
      |>.iconst (4 : Int32) at_65 rfl rfl
    have s394 : Sit p l e _ s m _ below meth c _ st n0 2 10 _ 72 #[.val (.int x0), .val (.int x1), .val (.long x2), .second, .val (.long x3), .second, .val (.int x4), .val (.int (6 : Int32)), .val (.ref o), .unset, .unset, .unset, .unset, .unset, .unset, .unset, .unset] [(.int x0), (.ref o)] := s393
      |>.icmpN at_66 (cmpF (cd := .le) (show ¬ ((6 : Int) ≤ (4 : Int)) from by decide)) rfl
      |>.aload at_69 rfl rfl
      |>.iloadN at_71 rfl rfl
    obtain ⟨r396, s395⟩ := Sit.callV (C := "reenact/trace/IntList") (y := (⟨"reenact/trace/IntList", "add", "(I)V"⟩ : MethodName)) (W := 0) (Q := fun rv_ hh => (rv_ = none) ∧ (fun hh => IL Z hh o v [x0, x1, x0, x1, x0] [0, 0, 0]) hh) [(.int x0)] [] s394 hZ hown (wi hw 12 rfl) (wi hw 13 rfl) (wi hw 15 rfl) (wi hw 14 rfl) (wi hw 16 rfl) (wi hw 2 rfl) (by decide) (fun hh q => q.1) (fun h1 hP hn => (rmAdd l Z a0 hw [] o x0 v [x0, x1, x0, x1] 0 [0, 0, 0] h1 n0 hn g_o g_v hP (by simp)).mono fun rv_ hh q => q) hml rfl (lenOf pd_2 rfl) at_72 (Nat.le_of_eq rfl) (by decide) (by decide) (by decide) (by decide) (pc' := 75) rfl
    obtain ⟨_, er396, _⟩ := s395.facts
    subst er396
    have s397 : Sit p l e _ s m _ below meth c _ st n0 2 10 (fun hh => IL Z hh o v [x0, x1, x0, x1, x0] [0, 0, 0]) 75 #[.val (.int x0), .val (.int x1), .val (.long x2), .second, .val (.long x3), .second, .val (.int x4), .val (.int (6 : Int32)), .val (.ref o), .unset, .unset, .unset, .unset, .unset, .unset, .unset, .unset] [] := s395.mono fun _ q => q.2
    have s398 : Sit p l e _ s m _ below meth c _ st n0 2 10 _ 78 #[.val (.int x0), .val (.int x1), .val (.long x2), .second, .val (.long x3), .second, .val (.int x4), .val (.int (6 : Int32)), .val (.ref o), .unset, .unset, .unset, .unset, .unset, .unset, .unset, .unset] [(.int (5 : Int32)), (.int (6 : Int32))] := s397
      |>.iload at_75 rfl rfl
      |>.iconst (5 : Int32) at_77 rfl rfl
    have s399 : Sit p l e _ s m _ below meth c _ st n0 2 10 _ 84 #[.val (.int x0), .val (.int x1), .val (.long x2), .second, .val (.long x3), .second, .val (.int x4), .val (.int (6 : Int32)), .val (.ref o), .unset, .unset, .unset, .unset, .unset, .unset, .unset, .unset] [(.int x1), (.ref o)] := s398
      |>.icmpN at_78 (cmpF (cd := .le) (show ¬ ((6 : Int) ≤ (5 : Int)) from by decide)) rfl
      |>.aload at_81 rfl rfl
      |>.iloadN at_83 rfl rfl
    obtain ⟨r401, s400⟩ := Sit.callV (C := "reenact/trace/IntList") (y := (⟨"reenact/trace/IntList", "add", "(I)V"⟩ : MethodName)) (W := 0) (Q := fun rv_ hh => (rv_ = none) ∧ (fun hh => IL Z hh o v [x0, x1, x0, x1, x0, x1] [0, 0]) hh) [(.int x1)] [] s399 hZ hown (wi hw 12 rfl) (wi hw 13 rfl) (wi hw 15 rfl) (wi hw 14 rfl) (wi hw 16 rfl) (wi hw 2 rfl) (by decide) (fun hh q => q.1) (fun h1 hP hn => (rmAdd l Z a0 hw [] o x1 v [x0, x1, x0, x1, x0] 0 [0, 0] h1 n0 hn g_o g_v hP (by simp)).mono fun rv_ hh q => q) hml rfl (lenOf pd_2 rfl) at_84 (Nat.le_of_eq rfl) (by decide) (by decide) (by decide) (by decide) (pc' := 87) rfl
    obtain ⟨_, er401, _⟩ := s400.facts
    subst er401
    have s402 : Sit p l e _ s m _ below meth c _ st n0 2 10 (fun hh => IL Z hh o v [x0, x1, x0, x1, x0, x1] [0, 0]) 87 #[.val (.int x0), .val (.int x1), .val (.long x2), .second, .val (.long x3), .second, .val (.int x4), .val (.int (6 : Int32)), .val (.ref o), .unset, .unset, .unset, .unset, .unset, .unset, .unset, .unset] [] := s400.mono fun _ q => q.2
    have s403 : Sit p l e _ s m _ below meth c _ st n0 2 10 _ 91 #[.val (.int x0), .val (.int x1), .val (.long x2), .second, .val (.long x3), .second, .val (.int x4), .val (.int (6 : Int32)), .val (.ref o), .unset, .unset, .unset, .unset, .unset, .unset, .unset, .unset] [(.int (6 : Int32)), (.int (6 : Int32))] := s402
      |>.iload at_87 rfl rfl
      |>.bipush (6 : Int32) at_89 rfl rfl
    have s404 : Sit p l e _ s m _ below meth c _ st n0 2 10 _ 103 #[.val (.int x0), .val (.int x1), .val (.long x2), .second, .val (.long x3), .second, .val (.int x4), .val (.int (6 : Int32)), .val (.ref o), .unset, .unset, .unset, .unset, .unset, .unset, .unset, .unset] [(.long x2), (.ref o)] := s403
      |>.icmpY at_91 (cmpT (cd := .le) (show (6 : Int) ≤ (6 : Int) from by decide)) (by decide) (by decide)
      |>.aload at_100 rfl rfl
      |>.lloadN at_102 rfl rfl
    obtain ⟨r406, s405⟩ := Sit.callV (C := "reenact/trace/IntList") (y := (⟨"reenact/trace/IntList", "addWide", "(J)V"⟩ : MethodName)) (W := 0) (Q := fun rv_ hh => (rv_ = none) ∧ (fun hh => IL Z hh o v [x0, x1, x0, x1, x0, x1, (ushr64 x2 (32 : Int32)).toInt32, x2.toInt32] []) hh) [(.long x2)] [] s404 hZ hown (wi hw 19 rfl) (wi hw 20 rfl) (wi hw 22 rfl) (wi hw 21 rfl) (wi hw 23 rfl) (wi hw 2 rfl) (by decide) (fun hh q => q.1) (fun h1 hP hn => (rmWnn l Z a0 hw [] o x2 v [x0, x1, x0, x1, x0, x1] 0 0 [] h1 n0 hn g_o g_v hP (by simp)).mono fun rv_ hh q => q) hml rfl (lenOf pd_4 rfl) at_103 (Nat.le_of_eq rfl) (by decide) (by decide) (by decide) (by decide) (pc' := 106) rfl
    obtain ⟨_, er406, _⟩ := s405.facts
    subst er406
    have s407 : Sit p l e _ s m _ below meth c _ st n0 2 10 (fun hh => IL Z hh o v [x0, x1, x0, x1, x0, x1, (ushr64 x2 (32 : Int32)).toInt32, x2.toInt32] []) 106 #[.val (.int x0), .val (.int x1), .val (.long x2), .second, .val (.long x3), .second, .val (.int x4), .val (.int (6 : Int32)), .val (.ref o), .unset, .unset, .unset, .unset, .unset, .unset, .unset, .unset] [] := s405.mono fun _ q => q.2
    have s408 : Sit p l e _ s m _ below meth c _ st n0 2 10 _ 110 #[.val (.int x0), .val (.int x1), .val (.long x2), .second, .val (.long x3), .second, .val (.int x4), .val (.int (6 : Int32)), .val (.ref o), .unset, .unset, .unset, .unset, .unset, .unset, .unset, .unset] [(.long x3), (.ref o)] := s407
      |>.aload at_106 rfl rfl
      |>.lload at_108 rfl rfl
    obtain ⟨r410, s409⟩ := Sit.callV (C := "reenact/trace/IntList") (y := (⟨"reenact/trace/IntList", "addWide", "(J)V"⟩ : MethodName)) (W := 0) (Q := fun rv_ hh => (rv_ = none) ∧ (fun hh => ∃ b, n0 ≤ b ∧ IL Z hh o b [x0, x1, x0, x1, x0, x1, (ushr64 x2 (32 : Int32)).toInt32, x2.toInt32, (ushr64 x3 (32 : Int32)).toInt32, x3.toInt32] (List.replicate 6 0)) hh) [(.long x3)] [] s408 hZ hown (wi hw 19 rfl) (wi hw 20 rfl) (wi hw 22 rfl) (wi hw 21 rfl) (wi hw 23 rfl) (wi hw 2 rfl) (by decide) (fun hh q => q.1) (fun h1 hP hn => (rmWgn l Z a0 hw [] o x3 v [x0, x1, x0, x1, x0, x1, (ushr64 x2 (32 : Int32)).toInt32, x2.toInt32] h1 n0 hn g_o g_v hP rfl).mono fun rv_ hh q => q) hml rfl (lenOf pd_4 rfl) at_110 (Nat.le_of_eq rfl) (by decide) (by decide) (by decide) (by decide) (pc' := 113) rfl
    obtain ⟨_, er410, _⟩ := s409.facts
    subst er410
    have s411 : Sit p l e _ s m _ below meth c _ st n0 3 26 (fun hh => ∃ b, n0 ≤ b ∧ IL Z hh o b [x0, x1, x0, x1, x0, x1, (ushr64 x2 (32 : Int32)).toInt32, x2.toInt32, (ushr64 x3 (32 : Int32)).toInt32, x3.toInt32] (List.replicate 6 0)) 113 #[.val (.int x0), .val (.int x1), .val (.long x2), .second, .val (.long x3), .second, .val (.int x4), .val (.int (6 : Int32)), .val (.ref o), .unset, .unset, .unset, .unset, .unset, .unset, .unset, .unset] [] := s409.mono fun _ q => q.2
    obtain ⟨b, s412⟩ := s411.ex
    have s413 : Sit p l e _ s m _ below meth c _ st n0 3 26 (fun hh => n0 ≤ b ∧ IL Z hh o b [x0, x1, x0, x1, x0, x1, (ushr64 x2 (32 : Int32)).toInt32, x2.toInt32, (ushr64 x3 (32 : Int32)).toInt32, x3.toInt32] (List.replicate 6 0)) 113 #[.val (.int x0), .val (.int x1), .val (.long x2), .second, .val (.long x3), .second, .val (.int x4), .val (.int (6 : Int32)), .val (.ref o), .unset, .unset, .unset, .unset, .unset, .unset, .unset, .unset] [] := s412
    obtain ⟨_, g_b, -⟩ := s413.facts
    have s414 : Sit p l e _ s m _ below meth c _ st n0 3 26 (fun hh => IL Z hh o b [x0, x1, x0, x1, x0, x1, (ushr64 x2 (32 : Int32)).toInt32, x2.toInt32, (ushr64 x3 (32 : Int32)).toInt32, x3.toInt32] [0, 0, 0, 0, 0, 0]) 113 #[.val (.int x0), .val (.int x1), .val (.long x2), .second, .val (.long x3), .second, .val (.int x4), .val (.int (6 : Int32)), .val (.ref o), .unset, .unset, .unset, .unset, .unset, .unset, .unset, .unset] [] := s413.mono fun hh q => q.2
    have s415 : Sit p l e _ s m _ below meth c _ st n0 3 26 _ 116 #[.val (.int x0), .val (.int x1), .val (.long x2), .second, .val (.long x3), .second, .val (.int x4), .val (.int (6 : Int32)), .val (.ref o), .unset, .unset, .unset, .unset, .unset, .unset, .unset, .unset] [(.int x0), (.ref o)] := s414
      |>.aload at_113 rfl rfl
      |>.iloadN at_115 rfl rfl
    obtain ⟨r417, s416⟩ := Sit.callV (C := "reenact/trace/IntList") (y := (⟨"reenact/trace/IntList", "add", "(I)V"⟩ : MethodName)) (W := 0) (Q := fun rv_ hh => (rv_ = none) ∧ (fun hh => IL Z hh o b [x0, x1, x0, x1, x0, x1, (ushr64 x2 (32 : Int32)).toInt32, x2.toInt32, (ushr64 x3 (32 : Int32)).toInt32, x3.toInt32, x0] [0, 0, 0, 0, 0]) hh) [(.int x0)] [] s415 hZ hown (wi hw 12 rfl) (wi hw 13 rfl) (wi hw 15 rfl) (wi hw 14 rfl) (wi hw 16 rfl) (wi hw 2 rfl) (by decide) (fun hh q => q.1) (fun h1 hP hn => (rmAdd l Z a0 hw [] o x0 b [x0, x1, x0, x1, x0, x1, (ushr64 x2 (32 : Int32)).toInt32, x2.toInt32, (ushr64 x3 (32 : Int32)).toInt32, x3.toInt32] 0 [0, 0, 0, 0, 0] h1 n0 hn g_o g_b hP (by simp)).mono fun rv_ hh q => q) hml rfl (lenOf pd_2 rfl) at_116 (Nat.le_of_eq rfl) (by decide) (by decide) (by decide) (by decide) (pc' := 119) rfl
    obtain ⟨_, er417, _⟩ := s416.facts
    subst er417
    have s418 : Sit p l e _ s m _ below meth c _ st n0 3 26 (fun hh => IL Z hh o b [x0, x1, x0, x1, x0, x1, (ushr64 x2 (32 : Int32)).toInt32, x2.toInt32, (ushr64 x3 (32 : Int32)).toInt32, x3.toInt32, x0] [0, 0, 0, 0, 0]) 119 #[.val (.int x0), .val (.int x1), .val (.long x2), .second, .val (.long x3), .second, .val (.int x4), .val (.int (6 : Int32)), .val (.ref o), .unset, .unset, .unset, .unset, .unset, .unset, .unset, .unset] [] := s416.mono fun _ q => q.2
    have s419 : Sit p l e _ s m _ below meth c _ st n0 3 26 _ 122 #[.val (.int x0), .val (.int x1), .val (.long x2), .second, .val (.long x3), .second, .val (.int x4), .val (.int (6 : Int32)), .val (.ref o), .unset, .unset, .unset, .unset, .unset, .unset, .unset, .unset] [(.int x1), (.ref o)] := s418
      |>.aload at_119 rfl rfl
      |>.iloadN at_121 rfl rfl
    obtain ⟨r421, s420⟩ := Sit.callV (C := "reenact/trace/IntList") (y := (⟨"reenact/trace/IntList", "add", "(I)V"⟩ : MethodName)) (W := 0) (Q := fun rv_ hh => (rv_ = none) ∧ (fun hh => IL Z hh o b [x0, x1, x0, x1, x0, x1, (ushr64 x2 (32 : Int32)).toInt32, x2.toInt32, (ushr64 x3 (32 : Int32)).toInt32, x3.toInt32, x0, x1] [0, 0, 0, 0]) hh) [(.int x1)] [] s419 hZ hown (wi hw 12 rfl) (wi hw 13 rfl) (wi hw 15 rfl) (wi hw 14 rfl) (wi hw 16 rfl) (wi hw 2 rfl) (by decide) (fun hh q => q.1) (fun h1 hP hn => (rmAdd l Z a0 hw [] o x1 b [x0, x1, x0, x1, x0, x1, (ushr64 x2 (32 : Int32)).toInt32, x2.toInt32, (ushr64 x3 (32 : Int32)).toInt32, x3.toInt32, x0] 0 [0, 0, 0, 0] h1 n0 hn g_o g_b hP (by simp)).mono fun rv_ hh q => q) hml rfl (lenOf pd_2 rfl) at_122 (Nat.le_of_eq rfl) (by decide) (by decide) (by decide) (by decide) (pc' := 125) rfl
    obtain ⟨_, er421, _⟩ := s420.facts
    subst er421
    have s422 : Sit p l e _ s m _ below meth c _ st n0 3 26 (fun hh => IL Z hh o b [x0, x1, x0, x1, x0, x1, (ushr64 x2 (32 : Int32)).toInt32, x2.toInt32, (ushr64 x3 (32 : Int32)).toInt32, x3.toInt32, x0, x1] [0, 0, 0, 0]) 125 #[.val (.int x0), .val (.int x1), .val (.long x2), .second, .val (.long x3), .second, .val (.int x4), .val (.int (6 : Int32)), .val (.ref o), .unset, .unset, .unset, .unset, .unset, .unset, .unset, .unset] [] := s420.mono fun _ q => q.2
    have s423 : Sit p l e _ s m _ below meth c _ st n0 3 26 _ 129 #[.val (.int x0), .val (.int x1), .val (.long x2), .second, .val (.long x3), .second, .val (.int x4), .val (.int (6 : Int32)), .val (.ref o), .unset, .unset, .unset, .unset, .unset, .unset, .unset, .unset] [(.int (6 : Int32)), (.ref o)] := s422
      |>.aload at_125 rfl rfl
      |>.iload at_127 rfl rfl
    obtain ⟨r425, s424⟩ := Sit.callV (C := "reenact/trace/IntList") (y := (⟨"reenact/trace/IntList", "getWide", "(I)J"⟩ : MethodName)) (W := 0) (Q := fun rv_ hh => (rv_ = some (.long (wide2 (ushr64 x2 (32 : Int32)).toInt32 x2.toInt32))) ∧ (fun hh => IL Z hh o b [x0, x1, x0, x1, x0, x1, (ushr64 x2 (32 : Int32)).toInt32, x2.toInt32, (ushr64 x3 (32 : Int32)).toInt32, x3.toInt32, x0, x1] [0, 0, 0, 0]) hh) [(.int (6 : Int32))] [] s423 hZ hown (wi hw 25 rfl) (wi hw 26 rfl) (wi hw 28 rfl) (wi hw 27 rfl) (wi hw 29 rfl) (wi hw 2 rfl) (by decide) (fun hh q => q.1) (fun h1 hP hn => (rmGet l Z a0 hw [] o (6 : Int32) b [x0, x1, x0, x1, x0, x1, (ushr64 x2 (32 : Int32)).toInt32, x2.toInt32, (ushr64 x3 (32 : Int32)).toInt32, x3.toInt32, x0, x1] [0, 0, 0, 0] 6 (ushr64 x2 (32 : Int32)).toInt32 x2.toInt32 h1 n0 hn hP rfl (by decide) rfl rfl).mono fun rv_ hh q => ⟨q.1, q.2 ▸ hP⟩) hml rfl (lenOf pd_5 rfl) at_129 (Nat.le_of_eq rfl) (by decide) (by decide) (by decide) (by decide) (pc' := 132) rfl
    obtain ⟨_, er425, _⟩ := s424.facts
    subst er425
    have s426 : Sit p l e _ s m _ below meth c _ st n0 3 26 (fun hh => IL Z hh o b [x0, x1, x0, x1, x0, x1, (ushr64 x2 (32 : Int32)).toInt32, x2.toInt32, (ushr64 x3 (32 : Int32)).toInt32, x3.toInt32, x0, x1] [0, 0, 0, 0]) 132 #[.val (.int x0), .val (.int x1), .val (.long x2), .second, .val (.long x3), .second, .val (.int x4), .val (.int (6 : Int32)), .val (.ref o), .unset, .unset, .unset, .unset, .unset, .unset, .unset, .unset] [(.long (wide2 (ushr64 x2 (32 : Int32)).toInt32 x2.toInt32))] := s424.mono fun _ q => q.2
    have s427 : Sit p l e _ s m _ below meth c _ st n0 3 26 _ 140 #[.val (.int x0), .val (.int x1), .val (.long x2), .second, .val (.long x3), .second, .val (.int x4), .val (.int (6 : Int32)), .val (.ref o), .val (.long (wide2 (ushr64 x2 (32 : Int32)).toInt32 x2.toInt32)), .second, .unset, .unset, .unset, .unset, .unset, .unset] [(.int ((6 : Int32) + (2 : Int32))), (.ref o)] := s426
      |>.lstore #[.val (.int x0), .val (.int x1), .val (.long x2), .second, .val (.long x3), .second, .val (.int x4), .val (.int (6 : Int32)), .val (.ref o), .val (.long (wide2 (ushr64 x2 (32 : Int32)).toInt32 x2.toInt32)), .second, .unset, .unset, .unset, .unset, .unset, .unset] at_132 rfl rfl
      |>.aload at_134 rfl rfl
      |>.iload at_136 rfl rfl
      |>.iconst (2 : Int32) at_138 rfl rfl
      |>.iadd at_139 rfl
    obtain ⟨r429, s428⟩ := Sit.callV (C := "reenact/trace/IntList") (y := (⟨"reenact/trace/IntList", "getWide", "(I)J"⟩ : MethodName)) (W := 0) (Q := fun rv_ hh => (rv_ = some (.long (wide2 (ushr64 x3 (32 : Int32)).toInt32 x3.toInt32))) ∧ (fun hh => IL Z hh o b [x0, x1, x0, x1, x0, x1, (ushr64 x2 (32 : Int32)).toInt32, x2.toInt32, (ushr64 x3 (32 : Int32)).toInt32, x3.toInt32, x0, x1] [0, 0, 0, 0]) hh) [(.int ((6 : Int32) + (2 : Int32)))] [] s427 hZ hown (wi hw 25 rfl) (wi hw 26 rfl) (wi hw 28 rfl) (wi hw 27 rfl) (wi hw 29 rfl) (wi hw 2 rfl) (by decide) (fun hh q => q.1) (fun h1 hP hn => (rmGet l Z a0 hw [] o ((6 : Int32) + (2 : Int32)) b [x0, x1, x0, x1, x0, x1, (ushr64 x2 (32 : Int32)).toInt32, x2.toInt32, (ushr64 x3 (32 : Int32)).toInt32, x3.toInt32, x0, x1] [0, 0, 0, 0] 8 (ushr64 x3 (32 : Int32)).toInt32 x3.toInt32 h1 n0 hn hP rfl (by decide) rfl rfl).mono fun rv_ hh q => ⟨q.1, q.2 ▸ hP⟩) hml rfl (lenOf pd_5 rfl) at_140 (Nat.le_of_eq rfl) (by decide) (by decide) (by decide) (by decide) (pc' := 143) rfl
    obtain ⟨_, er429, _⟩ := s428.facts
    subst er429
    have s430 : Sit p l e _ s m _ below meth c _ st n0 3 26 (fun hh => IL Z hh o b [x0, x1, x0, x1, x0, x1, (ushr64 x2 (32 : Int32)).toInt32, x2.toInt32, (ushr64 x3 (32 : Int32)).toInt32, x3.toInt32, x0, x1] [0, 0, 0, 0]) 143 #[.val (.int x0), .val (.int x1), .val (.long x2), .second, .val (.long x3), .second, .val (.int x4), .val (.int (6 : Int32)), .val (.ref o), .val (.long (wide2 (ushr64 x2 (32 : Int32)).toInt32 x2.toInt32)), .second, .unset, .unset, .unset, .unset, .unset, .unset] [(.long (wide2 (ushr64 x3 (32 : Int32)).toInt32 x3.toInt32))] := s428.mono fun _ q => q.2
    have s431 : Sit p l e _ s m _ below meth c _ st n0 3 26 _ 151 #[.val (.int x0), .val (.int x1), .val (.long x2), .second, .val (.long x3), .second, .val (.int x4), .val (.int (6 : Int32)), .val (.ref o), .val (.long (wide2 (ushr64 x2 (32 : Int32)).toInt32 x2.toInt32)), .second, .val (.long (wide2 (ushr64 x3 (32 : Int32)).toInt32 x3.toInt32)), .second, .unset, .unset, .unset, .unset] [(.int ((6 : Int32) + (4 : Int32))), (.ref o)] := s430
      |>.lstore #[.val (.int x0), .val (.int x1), .val (.long x2), .second, .val (.long x3), .second, .val (.int x4), .val (.int (6 : Int32)), .val (.ref o), .val (.long (wide2 (ushr64 x2 (32 : Int32)).toInt32 x2.toInt32)), .second, .val (.long (wide2 (ushr64 x3 (32 : Int32)).toInt32 x3.toInt32)), .second, .unset, .unset, .unset, .unset] at_143 rfl rfl
      |>.aload at_145 rfl rfl
      |>.iload at_147 rfl rfl
      |>.iconst (4 : Int32) at_149 rfl rfl
      |>.iadd at_150 rfl
    obtain ⟨r433, s432⟩ := Sit.callV (C := "reenact/trace/IntList") (y := (⟨"reenact/trace/IntList", "getWide", "(I)J"⟩ : MethodName)) (W := 0) (Q := fun rv_ hh => (rv_ = some (.long (wide2 x0 x1))) ∧ (fun hh => IL Z hh o b [x0, x1, x0, x1, x0, x1, (ushr64 x2 (32 : Int32)).toInt32, x2.toInt32, (ushr64 x3 (32 : Int32)).toInt32, x3.toInt32, x0, x1] [0, 0, 0, 0]) hh) [(.int ((6 : Int32) + (4 : Int32)))] [] s431 hZ hown (wi hw 25 rfl) (wi hw 26 rfl) (wi hw 28 rfl) (wi hw 27 rfl) (wi hw 29 rfl) (wi hw 2 rfl) (by decide) (fun hh q => q.1) (fun h1 hP hn => (rmGet l Z a0 hw [] o ((6 : Int32) + (4 : Int32)) b [x0, x1, x0, x1, x0, x1, (ushr64 x2 (32 : Int32)).toInt32, x2.toInt32, (ushr64 x3 (32 : Int32)).toInt32, x3.toInt32, x0, x1] [0, 0, 0, 0] 10 x0 x1 h1 n0 hn hP rfl (by decide) rfl rfl).mono fun rv_ hh q => ⟨q.1, q.2 ▸ hP⟩) hml rfl (lenOf pd_5 rfl) at_151 (Nat.le_of_eq rfl) (by decide) (by decide) (by decide) (by decide) (pc' := 154) rfl
    obtain ⟨_, er433, _⟩ := s432.facts
    subst er433
    have s434 : Sit p l e _ s m _ below meth c _ st n0 3 26 (fun hh => IL Z hh o b [x0, x1, x0, x1, x0, x1, (ushr64 x2 (32 : Int32)).toInt32, x2.toInt32, (ushr64 x3 (32 : Int32)).toInt32, x3.toInt32, x0, x1] [0, 0, 0, 0]) 154 #[.val (.int x0), .val (.int x1), .val (.long x2), .second, .val (.long x3), .second, .val (.int x4), .val (.int (6 : Int32)), .val (.ref o), .val (.long (wide2 (ushr64 x2 (32 : Int32)).toInt32 x2.toInt32)), .second, .val (.long (wide2 (ushr64 x3 (32 : Int32)).toInt32 x3.toInt32)), .second, .unset, .unset, .unset, .unset] [(.long (wide2 x0 x1))] := s432.mono fun _ q => q.2
    have s435 : Sit p l e _ s m _ below meth c _ st n0 3 26 _ 163 #[.val (.int x0), .val (.int x1), .val (.long x2), .second, .val (.long x3), .second, .val (.int x4), .val (.int (6 : Int32)), .val (.ref o), .val (.long (wide2 (ushr64 x2 (32 : Int32)).toInt32 x2.toInt32)), .second, .val (.long (wide2 (ushr64 x3 (32 : Int32)).toInt32 x3.toInt32)), .second, .val (.long (wide2 x0 x1)), .second, .unset, .unset] [(.int x0), (.int (ushr64 (wide2 x0 x1) (32 : Int32)).toInt32)] := s434
      |>.lstore #[.val (.int x0), .val (.int x1), .val (.long x2), .second, .val (.long x3), .second, .val (.int x4), .val (.int (6 : Int32)), .val (.ref o), .val (.long (wide2 (ushr64 x2 (32 : Int32)).toInt32 x2.toInt32)), .second, .val (.long (wide2 (ushr64 x3 (32 : Int32)).toInt32 x3.toInt32)), .second, .val (.long (wide2 x0 x1)), .second, .unset, .unset] at_154 rfl rfl
      |>.lload at_156 rfl rfl
      |>.bipush (32 : Int32) at_158 rfl rfl
      |>.lushr at_160 rfl
      |>.l2i at_161 rfl
      |>.iloadN at_162 rfl rfl
    have s436 : Sit p l e _ s m _ below meth c _ st n0 3 26 _ 177 #[.val (.int x0), .val (.int x1), .val (.long x2), .second, .val (.long x3), .second, .val (.int x4), .val (.int (6 : Int32)), .val (.ref o), .val (.long (wide2 (ushr64 x2 (32 : Int32)).toInt32 x2.toInt32)), .second, .val (.long (wide2 (ushr64 x3 (32 : Int32)).toInt32 x3.toInt32)), .second, .val (.long (wide2 x0 x1)), .second, .val (.int (1 : Int32)), .unset] [(.int x1), (.int (wide2 x0 x1).toInt32)] := s435
      |>.icmpN at_163 ((neF (Classical.not_not.mp (show ¬ (¬ (ushr64 (wide2 x0 x1) (32 : Int32)).toInt32 = x0) from fun h => h (wide_hi x0 x1))))) rfl
      |>.iconst (1 : Int32) at_166 rfl rfl
      |>.goto at_167 (by decide) (by decide)
      |>.istore #[.val (.int x0), .val (.int x1), .val (.long x2), .second, .val (.long x3), .second, .val (.int x4), .val (.int (6 : Int32)), .val (.ref o), .val (.long (wide2 (ushr64 x2 (32 : Int32)).toInt32 x2.toInt32)), .second, .val (.long (wide2 (ushr64 x3 (32 : Int32)).toInt32 x3.toInt32)), .second, .val (.long (wide2 x0 x1)), .second, .val (.int (1 : Int32)), .unset] at_171 rfl rfl
      |>.lload at_173 rfl rfl
      |>.l2i at_175 rfl
      |>.iloadN at_176 rfl rfl
    have s437 : Sit p l e _ s m _ below meth c _ st n0 3 26 _ 191 #[.val (.int x0), .val (.int x1), .val (.long x2), .second, .val (.long x3), .second, .val (.int x4), .val (.int (6 : Int32)), .val (.ref o), .val (.long (wide2 (ushr64 x2 (32 : Int32)).toInt32 x2.toInt32)), .second, .val (.long (wide2 (ushr64 x3 (32 : Int32)).toInt32 x3.toInt32)), .second, .val (.long (wide2 x0 x1)), .second, .val (.int (1 : Int32)), .val (.int (1 : Int32))] [(.int (lcmp3 (wide2 (ushr64 x2 (32 : Int32)).toInt32 x2.toInt32) x2))] := s436
      |>.icmpN at_177 ((neF (Classical.not_not.mp (show ¬ (¬ (wide2 x0 x1).toInt32 = x1) from fun h => h (wide_lo x0 x1))))) rfl
      |>.iconst (1 : Int32) at_180 rfl rfl
      |>.goto at_181 (by decide) (by decide)
      |>.istore #[.val (.int x0), .val (.int x1), .val (.long x2), .second, .val (.long x3), .second, .val (.int x4), .val (.int (6 : Int32)), .val (.ref o), .val (.long (wide2 (ushr64 x2 (32 : Int32)).toInt32 x2.toInt32)), .second, .val (.long (wide2 (ushr64 x3 (32 : Int32)).toInt32 x3.toInt32)), .second, .val (.long (wide2 x0 x1)), .second, .val (.int (1 : Int32)), .val (.int (1 : Int32))] at_185 rfl rfl
      |>.lload at_187 rfl rfl
      |>.lloadN at_189 rfl rfl
      |>.lcmp at_190 rfl
    have s438 : Sit p l e _ s m _ below meth c _ st n0 3 26 _ 199 #[.val (.int x0), .val (.int x1), .val (.long x2), .second, .val (.long x3), .second, .val (.int x4), .val (.int (6 : Int32)), .val (.ref o), .val (.long (wide2 (ushr64 x2 (32 : Int32)).toInt32 x2.toInt32)), .second, .val (.long (wide2 (ushr64 x3 (32 : Int32)).toInt32 x3.toInt32)), .second, .val (.long (wide2 x0 x1)), .second, .val (.int (1 : Int32)), .val (.int (1 : Int32))] [(.int (lcmp3 (wide2 (ushr64 x3 (32 : Int32)).toInt32 x3.toInt32) x3))] := s437
      |>.ifN at_191 (lcF (cd := .ne) (show ¬ (¬ (wide2 (ushr64 x2 (32 : Int32)).toInt32 x2.toInt32) = x2) from fun h => h (wide_back x2))) rfl
      |>.lload at_194 rfl rfl
      |>.lload at_196 rfl rfl
      |>.lcmp at_198 rfl
    have s439 : Sit p l e _ s m _ below meth c _ st n0 3 26 _ 204 #[.val (.int x0), .val (.int x1), .val (.long x2), .second, .val (.long x3), .second, .val (.int x4), .val (.int (6 : Int32)), .val (.ref o), .val (.long (wide2 (ushr64 x2 (32 : Int32)).toInt32 x2.toInt32)), .second, .val (.long (wide2 (ushr64 x3 (32 : Int32)).toInt32 x3.toInt32)), .second, .val (.long (wide2 x0 x1)), .second, .val (.int (1 : Int32)), .val (.int (1 : Int32))] [(.int (1 : Int32))] := s438
      |>.ifN at_199 (lcF (cd := .ne) (show ¬ (¬ (wide2 (ushr64 x3 (32 : Int32)).toInt32 x3.toInt32) = x3) from fun h => h (wide_back x3))) rfl
      |>.iload at_202 rfl rfl
    have s440 : Sit p l e _ s m _ below meth c _ st n0 3 26 _ 209 #[.val (.int x0), .val (.int x1), .val (.long x2), .second, .val (.long x3), .second, .val (.int x4), .val (.int (6 : Int32)), .val (.ref o), .val (.long (wide2 (ushr64 x2 (32 : Int32)).toInt32 x2.toInt32)), .second, .val (.long (wide2 (ushr64 x3 (32 : Int32)).toInt32 x3.toInt32)), .second, .val (.long (wide2 x0 x1)), .second, .val (.int (1 : Int32)), .val (.int (1 : Int32))] [(.int (1 : Int32))] := s439
      |>.ifN at_204 (eqF (show ¬ ((1 : Int32) = 0) from by decide)) rfl
      |>.iload at_207 rfl rfl
    have s441 : Sit p l e _ s m _ below meth c _ st n0 3 26 _ 214 #[.val (.int x0), .val (.int x1), .val (.long x2), .second, .val (.long x3), .second, .val (.int x4), .val (.int (6 : Int32)), .val (.ref o), .val (.long (wide2 (ushr64 x2 (32 : Int32)).toInt32 x2.toInt32)), .second, .val (.long (wide2 (ushr64 x3 (32 : Int32)).toInt32 x3.toInt32)), .second, .val (.long (wide2 x0 x1)), .second, .val (.int (1 : Int32)), .val (.int (1 : Int32))] [(.ref o)] := s440
      |>.ifN at_209 (eqF (show ¬ ((1 : Int32) = 0) from by decide)) rfl
      |>.aload at_212 rfl rfl
    obtain ⟨r443, s442⟩ := Sit.callV (C := "reenact/trace/IntList") (y := (⟨"reenact/trace/IntList", "size", "()I"⟩ : MethodName)) (W := 0) (Q := fun rv_ hh => (rv_ = some (.int (Int32.ofNat 12))) ∧ (fun hh => IL Z hh o b [x0, x1, x0, x1, x0, x1, (ushr64 x2 (32 : Int32)).toInt32, x2.toInt32, (ushr64 x3 (32 : Int32)).toInt32, x3.toInt32, x0, x1] [0, 0, 0, 0]) hh) [] [] s441 hZ hown (wi hw 31 rfl) (wi hw 32 rfl) (wi hw 34 rfl) (wi hw 33 rfl) (wi hw 35 rfl) (wi hw 2 rfl) (by decide) (fun hh q => q.1) (fun h1 hP hn => (rmSize l Z a0 hw [] o b [x0, x1, x0, x1, x0, x1, (ushr64 x2 (32 : Int32)).toInt32, x2.toInt32, (ushr64 x3 (32 : Int32)).toInt32, x3.toInt32, x0, x1] [0, 0, 0, 0] h1 n0 hn hP).mono fun rv_ hh q => ⟨q.1, q.2 ▸ hP⟩) hml rfl (lenOf pd_6 rfl) at_214 (Nat.le_of_eq rfl) (by decide) (by decide) (by decide) (by decide) (pc' := 217) rfl
    obtain ⟨_, er443, _⟩ := s442.facts
    subst er443
    have s444 : Sit p l e _ s m _ below meth c _ st n0 3 26 (fun hh => IL Z hh o b [x0, x1, x0, x1, x0, x1, (ushr64 x2 (32 : Int32)).toInt32, x2.toInt32, (ushr64 x3 (32 : Int32)).toInt32, x3.toInt32, x0, x1] [0, 0, 0, 0]) 217 #[.val (.int x0), .val (.int x1), .val (.long x2), .second, .val (.long x3), .second, .val (.int x4), .val (.int (6 : Int32)), .val (.ref o), .val (.long (wide2 (ushr64 x2 (32 : Int32)).toInt32 x2.toInt32)), .second, .val (.long (wide2 (ushr64 x3 (32 : Int32)).toInt32 x3.toInt32)), .second, .val (.long (wide2 x0 x1)), .second, .val (.int (1 : Int32)), .val (.int (1 : Int32))] [(.int (Int32.ofNat 12))] := s442.mono fun _ q => q.2
    have s445 : Sit p l e _ s m _ below meth c _ st n0 3 26 _ 222 #[.val (.int x0), .val (.int x1), .val (.long x2), .second, .val (.long x3), .second, .val (.int x4), .val (.int (6 : Int32)), .val (.ref o), .val (.long (wide2 (ushr64 x2 (32 : Int32)).toInt32 x2.toInt32)), .second, .val (.long (wide2 (ushr64 x3 (32 : Int32)).toInt32 x3.toInt32)), .second, .val (.long (wide2 x0 x1)), .second, .val (.int (1 : Int32)), .val (.int (1 : Int32))] [(.int ((6 : Int32) + (6 : Int32))), (.int (Int32.ofNat 12))] := s444
      |>.iload at_217 rfl rfl
      |>.bipush (6 : Int32) at_219 rfl rfl
      |>.iadd at_221 rfl
    have s446 : Sit p l e _ s m _ below meth c _ st n0 3 26 _ 230 #[.val (.int x0), .val (.int x1), .val (.long x2), .second, .val (.long x3), .second, .val (.int x4), .val (.int (6 : Int32)), .val (.ref o), .val (.long (wide2 (ushr64 x2 (32 : Int32)).toInt32 x2.toInt32)), .second, .val (.long (wide2 (ushr64 x3 (32 : Int32)).toInt32 x3.toInt32)), .second, .val (.long (wide2 x0 x1)), .second, .val (.int (1 : Int32)), .val (.int (1 : Int32))] [(.int (1 : Int32))] := s445
      |>.icmpN at_222 ((neF (Classical.not_not.mp (show ¬ (¬ (Int32.ofNat 12) = ((6 : Int32) + (6 : Int32))) from by decide)))) rfl
      |>.iconst (1 : Int32) at_225 rfl rfl
      |>.goto at_226 (by decide) (by decide)
    exact (s446.bound (by decide) (by decide)).retZ at_230 hret hlk (fun hh q => rfl)
  · have s447 : Sit p l e _ s m _ below meth c _ st n0 2 10 (fun hh => IL Z hh o v [] [0, 0, 0, 0, 0, 0, 0, 0]) 16 #[.val (.int x0), .val (.int x1), .val (.long x2), .second, .val (.long x3), .second, .val (.int x4), .val (.int (7 : Int32)), .val (.ref o), .unset, .unset, .unset, .unset, .unset, .unset, .unset, .unset] [] := s14
    have s448 : Sit p l e _ s m _ below meth c _ st n0 2 10 _ 18 #[.val (.int x0), .val (.int x1), .val (.long x2), .second, .val (.long x3), .second, .val (.int x4), .val (.int (7 : Int32)), .val (.ref o), .unset, .unset, .unset, .unset, .unset, .unset, .unset, .unset] [(.int (7 : Int32))] := s447
      |>.iload at_16 rfl rfl
    have s449 : Sit p l e _ s m _ below meth c _ st n0 2 10 _ 24 #[.val (.int x0), .val (.int x1), .val (.long x2), .second, .val (.long x3), .second, .val (.int x4), .val (.int (7 : Int32)), .val (.ref o), .unset, .unset, .unset, .unset, .unset, .unset, .unset, .unset] [(.int x0), (.ref o)] := s448
      |>.ifN at_18 (cmpF0 (cd := .le) (show ¬ ((7 : Int) ≤ 0) from by decide)) rfl
      |>.aload at_21 rfl rfl
      |>.iloadN at_23 rfl rfl
    obtain ⟨r451, s450⟩ := Sit.callV (C := "reenact/trace/IntList") (y := (⟨"reenact/trace/IntList", "add", "(I)V"⟩ : MethodName)) (W := 0) (Q := fun rv_ hh => (rv_ = none) ∧ (fun hh => IL Z hh o v [x0] [0, 0, 0, 0, 0, 0, 0]) hh) [(.int x0)] [] s449 hZ hown (wi hw 12 rfl) (wi hw 13 rfl) (wi hw 15 rfl) (wi hw 14 rfl) (wi hw 16 rfl) (wi hw 2 rfl) (by decide) (fun hh q => q.1) (fun h1 hP hn => (rmAdd l Z a0 hw [] o x0 v [] 0 [0, 0, 0, 0, 0, 0, 0] h1 n0 hn g_o g_v hP (by simp)).mono fun rv_ hh q => q) hml rfl (lenOf pd_2 rfl) at_24 (Nat.le_of_eq rfl) (by decide) (by decide) (by decide) (by decide) (pc' := 27) rfl
    obtain ⟨_, er451, _⟩ := s450.facts
    subst er451
    have s452 : Sit p l e _ s m _ below meth c _ st n0 2 10 (fun hh => IL Z hh o v [x0] [0, 0, 0, 0, 0, 0, 0]) 27 #[.val (.int x0), .val (.int x1), .val (.long x2), .second, .val (.long x3), .second, .val (.int x4), .val (.int (7 : Int32)), .val (.ref o), .unset, .unset, .unset, .unset, .unset, .unset, .unset, .unset] [] := s450.mono fun _ q => q.2
    have s453 : Sit p l e _ s m _ below meth c _ st n0 2 10 _ 30 #[.val (.int x0), .val (.int x1), .val (.long x2), .second, .val (.long x3), .second, .val (.int x4), .val (.int (7 : Int32)), .val (.ref o), .unset, .unset, .unset, .unset, .unset, .unset, .unset, .unset] [(.int (1 : Int32)), (.int (7 : Int32))] := s452
      |>.iload at_27 rfl rfl
      |>.iconst (1 : Int32) at_29 rfl rfl
    have s454 : Sit p l e _ s m _ below meth c _ st n0 2 10 _ 36 #[.val (.int x0), .val (.int x1), .val (.long x2), .second, .val (.long x3), .second, .val (.int x4), .val (.int (7 : Int32)), .val (.ref o), .unset, .unset, .unset, .unset, .unset, .unset, .unset, .unset] [(.int x1), (.ref o)] := s453
      |>.icmpN at_30 (cmpF (cd := .le) (show ¬ ((7 : Int) ≤ (1 : Int)) from by decide)) rfl
      |>.aload at_33 rfl rfl
      |>.iloadN at_35 rfl rfl
    obtain ⟨r456, s455⟩ := Sit.callV (C := "reenact/trace/IntList") (y := (⟨"reenact/trace/IntList", "add", "(I)V"⟩ : MethodName)) (W := 0) (Q := fun rv_ hh => (rv_ = none) ∧ (fun hh => IL Z hh o v [x0, x1] [0, 0, 0, 0, 0, 0]) hh) [(.int x1)] [] s454 hZ hown (wi hw 12 rfl) (wi hw 13 rfl) (wi hw 15 rfl) (wi hw 14 rfl) (wi hw 16 rfl) (wi hw 2 rfl) (by decide) (fun hh q => q.1) (fun h1 hP hn => (rmAdd l Z a0 hw [] o x1 v [x0] 0 [0, 0, 0, 0, 0, 0] h1 n0 hn g_o g_v hP (by simp)).mono fun rv_ hh q => q) hml rfl (lenOf pd_2 rfl) at_36 (Nat.le_of_eq rfl) (by decide) (by decide) (by decide) (by decide) (pc' := 39) rfl
    obtain ⟨_, er456, _⟩ := s455.facts
    subst er456
    have s457 : Sit p l e _ s m _ below meth c _ st n0 2 10 (fun hh => IL Z hh o v [x0, x1] [0, 0, 0, 0, 0, 0]) 39 #[.val (.int x0), .val (.int x1), .val (.long x2), .second, .val (.long x3), .second, .val (.int x4), .val (.int (7 : Int32)), .val (.ref o), .unset, .unset, .unset, .unset, .unset, .unset, .unset, .unset] [] := s455.mono fun _ q => q.2
    have s458 : Sit p l e _ s m _ below meth c _ st n0 2 10 _ 42 #[.val (.int x0), .val (.int x1), .val (.long x2), .second, .val (.long x3), .second, .val (.int x4), .val (.int (7 : Int32)), .val (.ref o), .unset, .unset, .unset, .unset, .unset, .unset, .unset, .unset] [(.int (2 : Int32)), (.int (7 : Int32))] := s457
      |>.iload at_39 rfl rfl
      |>.iconst (2 : Int32) at_41 rfl rfl
    have s459 : Sit p l e _ s m _ below meth c _ st n0 2 10 _ 48 #[.val (.int x0), .val (.int x1), .val (.long x2), .second, .val (.long x3), .second, .val (.int x4), .val (.int (7 : Int32)), .val (.ref o), .unset, .unset, .unset, .unset, .unset, .unset, .unset, .unset] [(.int x0), (.ref o)] := s458
      |>.icmpN at_42 (cmpF (cd := .le) (show ¬ ((7 : Int) ≤ (2 : Int)) from by decide)) rfl
      |>.aload at_45 rfl rfl
      |>.iloadN at_47 rfl rfl
    obtain ⟨r461, s460⟩ := Sit.callV (C := "reenact/trace/IntList") (y := (⟨"reenact/trace/IntList", "add", "(I)V"⟩ : MethodName)) (W := 0) (Q := fun rv_ hh => (rv_ = none) ∧ (fun hh => IL Z hh o v [x0, x1, x0] [0, 0, 0, 0, 0]) hh) [(.int x0)] [] s459 hZ hown (wi hw 12 rfl) (wi hw 13 rfl) (wi hw 15 rfl) (wi hw 14 rfl) (wi hw 16 rfl) (wi hw 2 rfl) (by decide) (fun hh q => q.1) (fun h1 hP hn => (rmAdd l Z a0 hw [] o x0 v [x0, x1] 0 [0, 0, 0, 0, 0] h1 n0 hn g_o g_v hP (by simp)).mono fun rv_ hh q => q) hml rfl (lenOf pd_2 rfl) at_48 (Nat.le_of_eq rfl) (by decide) (by decide) (by decide) (by decide) (pc' := 51) rfl
    obtain ⟨_, er461, _⟩ := s460.facts
    subst er461
    have s462 : Sit p l e _ s m _ below meth c _ st n0 2 10 (fun hh => IL Z hh o v [x0, x1, x0] [0, 0, 0, 0, 0]) 51 #[.val (.int x0), .val (.int x1), .val (.long x2), .second, .val (.long x3), .second, .val (.int x4), .val (.int (7 : Int32)), .val (.ref o), .unset, .unset, .unset, .unset, .unset, .unset, .unset, .unset] [] := s460.mono fun _ q => q.2
    have s463 : Sit p l e _ s m _ below meth c _ st n0 2 10 _ 54 #[.val (.int x0), .val (.int x1), .val (.long x2), .second, .val (.long x3), .second, .val (.int x4), .val (.int (7 : Int32)), .val (.ref o), .unset, .unset, .unset, .unset, .unset, .unset, .unset, .unset] [(.int (3 : Int32)), (.int (7 : Int32))] := s462
      |>.iload at_51 rfl rfl
      |>.iconst (3 : Int32) at_53 rfl rfl
    have s464 : Sit p l e _ s m _ below meth c _ st n0 2 10 _ 60 #[.val (.int x0), .val (.int x1), .val (.long x2), .second, .val (.long x3), .second, .val (.int x4), .val (.int (7 : Int32)), .val (.ref o), .unset, .unset, .unset, .unset, .unset, .unset, .unset, .unset] [(.int x1), (.ref o)] := s463
      |>.icmpN at_54 (cmpF (cd := .le) (show ¬ ((7 : Int) ≤ (3 : Int)) from by decide)) rfl
      |>.aload at_57 rfl rfl
      |>.iloadN at_59 rfl rfl
    obtain ⟨r466, s465⟩ := Sit.callV (C := "reenact/trace/IntList") (y := (⟨"reenact/trace/IntList", "add", "(I)V"⟩ : MethodName)) (W := 0) (Q := fun rv_ hh => (rv_ = none) ∧ (fun hh => IL Z hh o v [x0, x1, x0, x1] [0, 0, 0, 0]) hh) [(.int x1)] [] s464 hZ hown (wi hw 12 rfl) (wi hw 13 rfl) (wi hw 15 rfl) (wi hw 14 rfl) (wi hw 16 rfl) (wi hw 2 rfl) (by decide) (fun hh q => q.1) (fun h1 hP hn => (rmAdd l Z a0 hw [] o x1 v [x0, x1, x0] 0 [0, 0, 0, 0] h1 n0 hn g_o g_v hP (by simp)).mono fun rv_ hh q => q) hml rfl (lenOf pd_2 rfl) at_60 (Nat.le_of_eq rfl) (by decide) (by decide) (by decide) (by decide) (pc' := 63) rfl
    obtain ⟨_, er466, _⟩ := s465.facts
    subst er466
    have s467 : Sit p l e _ s m _ below meth c _ st n0 2 10 (fun hh => IL Z hh o v [x0, x1, x0, x1] [0, 0, 0, 0]) 63 #[.val (.int x0), .val (.int x1), .val (.long x2), .second, .val (.long x3), .second, .val (.int x4), .val (.int (7 : Int32)), .val (.ref o), .unset, .unset, .unset, .unset, .unset, .unset, .unset, .unset] [] := s465.mono fun _ q => q.2
    have s468 : Sit p l e _ s m _ below meth c _ st n0 2 10 _ 66 #[.val (.int x0), .val (.int x1), .val (.long x2), .second, .val (.long x3), .second, .val (.int x4), .val (.int (7 : Int32)), .val (.ref o), .unset, .unset, .unset, .unset, .unset, .unset, .unset, .unset] [(.int (4 : Int32)), (.int (7 : Int32))] := s467
      |>.iload at_63 rfl rfl
      |>.iconst (4 : Int32) at_65 rfl rfl
    have s469 : Sit p l e _ s m _ below meth c _ st n0 2 10 _ 72 #[.val (.int x0), .val (.int x1), .val (.long x2), .second, .val (.long x3), .second, .val (.int x4), .val (.int (7 : Int32)), .val (.ref o), .unset, .unset, .unset, .unset, .unset, .unset, .unset, .unset] [(.int x0), (.ref o)] := s468
      |>.icmpN at_66 (cmpF (cd := .le) (show ¬ ((7 : Int) ≤ (4 : Int)) from by decide)) rfl
      |>.aload at_69 rfl rfl
      |>.iloadN at_71 rfl rfl
    obtain ⟨r471, s470⟩ := Sit.callV (C := "reenact/trace/IntList") (y := (⟨"reenact/trace/IntList", "add", "(I)V"⟩ : MethodName)) (W := 0) (Q := fun rv_ hh => (rv_ = none) ∧ (fun hh => IL Z hh o v [x0, x1, x0, x1, x0] [0, 0, 0]) hh) [(.int x0)] [] s469 hZ hown (wi hw 12 rfl) (wi hw 13 rfl) (wi hw 15 rfl) (wi hw 14 rfl) (wi hw 16 rfl) (wi hw 2 rfl) (by decide) (fun hh q => q.1) (fun h1 hP hn => (rmAdd l Z a0 hw [] o x0 v [x0, x1, x0, x1] 0 [0, 0, 0] h1 n0 hn g_o g_v hP (by simp)).mono fun rv_ hh q => q) hml rfl (lenOf pd_2 rfl) at_72 (Nat.le_of_eq rfl) (by decide) (by decide) (by decide) (by decide) (pc' := 75) rfl
    obtain ⟨_, er471, _⟩ := s470.facts
    subst er471
    have s472 : Sit p l e _ s m _ below meth c _ st n0 2 10 (fun hh => IL Z hh o v [x0, x1, x0, x1, x0] [0, 0, 0]) 75 #[.val (.int x0), .val (.int x1), .val (.long x2), .second, .val (.long x3), .second, .val (.int x4), .val (.int (7 : Int32)), .val (.ref o), .unset, .unset, .unset, .unset, .unset, .unset, .unset, .unset] [] := s470.mono fun _ q => q.2
    have s473 : Sit p l e _ s m _ below meth c _ st n0 2 10 _ 78 #[.val (.int x0), .val (.int x1), .val (.long x2), .second, .val (.long x3), .second, .val (.int x4), .val (.int (7 : Int32)), .val (.ref o), .unset, .unset, .unset, .unset, .unset, .unset, .unset, .unset] [(.int (5 : Int32)), (.int (7 : Int32))] := s472
      |>.iload at_75 rfl rfl
      |>.iconst (5 : Int32) at_77 rfl rfl
    have s474 : Sit p l e _ s m _ below meth c _ st n0 2 10 _ 84 #[.val (.int x0), .val (.int x1), .val (.long x2), .second, .val (.long x3), .second, .val (.int x4), .val (.int (7 : Int32)), .val (.ref o), .unset, .unset, .unset, .unset, .unset, .unset, .unset, .unset] [(.int x1), (.ref o)] := s473
      |>.icmpN at_78 (cmpF (cd := .le) (show ¬ ((7 : Int) ≤ (5 : Int)) from by decide)) rfl
      |>.aload at_81 rfl rfl
      |>.iloadN at_83 rfl rfl
    obtain ⟨r476, s475⟩ := Sit.callV (C := "reenact/trace/IntList") (y := (⟨"reenact/trace/IntList", "add", "(I)V"⟩ : MethodName)) (W := 0) (Q := fun rv_ hh => (rv_ = none) ∧ (fun hh => IL Z hh o v [x0, x1, x0, x1, x0, x1] [0, 0]) hh) [(.int x1)] [] s474 hZ hown (wi hw 12 rfl) (wi hw 13 rfl) (wi hw 15 rfl) (wi hw 14 rfl) (wi hw 16 rfl) (wi hw 2 rfl) (by decide) (fun hh q => q.1) (fun h1 hP hn => (rmAdd l Z a0 hw [] o x1 v [x0, x1, x0, x1, x0] 0 [0, 0] h1 n0 hn g_o g_v hP (by simp)).mono fun rv_ hh q => q) hml rfl (lenOf pd_2 rfl) at_84 (Nat.le_of_eq rfl) (by decide) (by decide) (by decide) (by decide) (pc' := 87) rfl
    obtain ⟨_, er476, _⟩ := s475.facts
    subst er476
    have s477 : Sit p l e _ s m _ below meth c _ st n0 2 10 (fun hh => IL Z hh o v [x0, x1, x0, x1, x0, x1] [0, 0]) 87 #[.val (.int x0), .val (.int x1), .val (.long x2), .second, .val (.long x3), .second, .val (.int x4), .val (.int (7 : Int32)), .val (.ref o), .unset, .unset, .unset, .unset, .unset, .unset, .unset, .unset] [] := s475.mono fun _ q => q.2
    have s478 : Sit p l e _ s m _ below meth c _ st n0 2 10 _ 91 #[.val (.int x0), .val (.int x1), .val (.long x2), .second, .val (.long x3), .second, .val (.int x4), .val (.int (7 : Int32)), .val (.ref o), .unset, .unset, .unset, .unset, .unset, .unset, .unset, .unset] [(.int (6 : Int32)), (.int (7 : Int32))] := s477
      |>.iload at_87 rfl rfl
      |>.bipush (6 : Int32) at_89 rfl rfl
    have s479 : Sit p l e _ s m _ below meth c _ st n0 2 10 _ 97 #[.val (.int x0), .val (.int x1), .val (.long x2), .second, .val (.long x3), .second, .val (.int x4), .val (.int (7 : Int32)), .val (.ref o), .unset, .unset, .unset, .unset, .unset, .unset, .unset, .unset] [(.int x0), (.ref o)] := s478
      |>.icmpN at_91 (cmpF (cd := .le) (show ¬ ((7 : Int) ≤ (6 : Int)) from by decide)) rfl
      |>.aload at_94 rfl rfl
      |>.iloadN at_96 rfl rfl
    obtain ⟨r481, s480⟩ := Sit.callV (C := "reenact/trace/IntList") (y := (⟨"reenact/trace/IntList", "add", "(I)V"⟩ : MethodName)) (W := 0) (Q := fun rv_ hh => (rv_ = none) ∧ (fun hh => IL Z hh o v [x0, x1, x0, x1, x0, x1, x0] [0]) hh) [(.int x0)] [] s479 hZ hown (wi hw 12 rfl) (wi hw 13 rfl) (wi hw 15 rfl) (wi hw 14 rfl) (wi hw 16 rfl) (wi hw 2 rfl) (by decide) (fun hh q => q.1) (fun h1 hP hn => (rmAdd l Z a0 hw [] o x0 v [x0, x1, x0, x1, x0, x1] 0 [0] h1 n0 hn g_o g_v hP (by simp)).mono fun rv_ hh q => q) hml rfl (lenOf pd_2 rfl) at_97 (Nat.le_of_eq rfl) (by decide) (by decide) (by decide) (by decide) (pc' := 100) rfl
    obtain ⟨_, er481, _⟩ := s480.facts
    subst er481
    have s482 : Sit p l e _ s m _ below meth c _ st n0 2 10 (fun hh => IL Z hh o v [x0, x1, x0, x1, x0, x1, x0] [0]) 100 #[.val (.int x0), .val (.int x1), .val (.long x2), .second, .val (.long x3), .second, .val (.int x4), .val (.int (7 : Int32)), .val (.ref o), .unset, .unset, .unset, .unset, .unset, .unset, .unset, .unset] [] := s480.mono fun _ q => q.2
    have s483 : Sit p l e _ s m _ below meth c _ st n0 2 10 _ 103 #[.val (.int x0), .val (.int x1), .val (.long x2), .second, .val (.long x3), .second, .val (.int x4), .val (.int (7 : Int32)), .val (.ref o), .unset, .unset, .unset, .unset, .unset, .unset, .unset, .unset] [(.long x2), (.ref o)] := s482
      |>.aload at_100 rfl rfl
      |>.lloadN at_102 rfl rfl
    obtain ⟨r485, s484⟩ := Sit.callV (C := "reenact/trace/IntList") (y := (⟨"reenact/trace/IntList", "addWide", "(J)V"⟩ : MethodName)) (W := 0) (Q := fun rv_ hh => (rv_ = none) ∧ (fun hh => ∃ b, n0 ≤ b ∧ IL Z hh o b [x0, x1, x0, x1, x0, x1, x0, (ushr64 x2 (32 : Int32)).toInt32, x2.toInt32] (List.replicate 7 0)) hh) [(.long x2)] [] s483 hZ hown (wi hw 19 rfl) (wi hw 20 rfl) (wi hw 22 rfl) (wi hw 21 rfl) (wi hw 23 rfl) (wi hw 2 rfl) (by decide) (fun hh q => q.1) (fun h1 hP hn => (rmWng l Z a0 hw [] o x2 v [x0, x1, x0, x1, x0, x1, x0] 0 h1 n0 hn g_o g_v hP rfl).mono fun rv_ hh q => q) hml rfl (lenOf pd_4 rfl) at_103 (Nat.le_of_eq rfl) (by decide) (by decide) (by decide) (by decide) (pc' := 106) rfl
    obtain ⟨_, er485, _⟩ := s484.facts
    subst er485
    have s486 : Sit p l e _ s m _ below meth c _ st n0 3 26 (fun hh => ∃ b, n0 ≤ b ∧ IL Z hh o b [x0, x1, x0, x1, x0, x1, x0, (ushr64 x2 (32 : Int32)).toInt32, x2.toInt32] (List.replicate 7 0)) 106 #[.val (.int x0), .val (.int x1), .val (.long x2), .second, .val (.long x3), .second, .val (.int x4), .val (.int (7 : Int32)), .val (.ref o), .unset, .unset, .unset, .unset, .unset, .unset, .unset, .unset] [] := s484.mono fun _ q => q.2
    obtain ⟨b, s487⟩ := s486.ex
    have s488 : Sit p l e _ s m _ below meth c _ st n0 3 26 (fun hh => n0 ≤ b ∧ IL Z hh o b [x0, x1, x0, x1, x0, x1, x0, (ushr64 x2 (32 : Int32)).toInt32, x2.toInt32] (List.replicate 7 0)) 106 #[.val (.int x0), .val (.int x1), .val (.long x2), .second, .val (.long x3), .second, .val (.int x4), .val (.int (7 : Int32)), .val (.ref o), .unset, .unset, .unset, .unset, .unset, .unset, .unset, .unset] [] := s487
    obtain ⟨_, g_b, -⟩ := s488.facts
    have s489 : Sit p l e _ s m _ below meth c _ st n0 3 26 (fun hh => IL Z hh o b [x0, x1, x0, x1, x0, x1, x0, (ushr64 x2 (32 : Int32)).toInt32, x2.toInt32] [0, 0, 0, 0, 0, 0, 0]) 106 #[.val (.int x0), .val (.int x1), .val (.long x2), .second, .val (.long x3), .second, .val (.int x4), .val (.int (7 : Int32)), .val (.ref o), .unset, .unset, .unset, .unset, .unset, .unset, .unset, .unset] [] := s488.mono fun hh q => q.2
    have s490 : Sit p l e _ s m _ below meth c _ st n0 3 26 _ 110 #[.val (.int x0), .val (.int x1), .val (.long x2), .second, .val (.long x3), .second, .val (.int x4), .val (.int (7 : Int32)), .val (.ref o), .unset, .unset, .unset, .unset, .unset, .unset, .unset, .unset] [(.long x3), (.ref o)] := s489
      |>.aload at_106 rfl rfl
      |>.lload at_108 rfl rfl
    obtain ⟨r492, s491⟩ := Sit.callV (C := "reenact/trace/IntList") (y := (⟨"reenact/trace/IntList", "addWide", "(J)V"⟩ : MethodName)) (W := 0) (Q := fun rv_ hh => (rv_ = none) ∧ (fun hh => IL Z hh o b [x0, x1, x0, x1, x0, x1, x0, (ushr64 x2 (32 : Int32)).toInt32, x2.toInt32, (ushr64 x3 (32 : Int32)).toInt32, x3.toInt32] [0, 0, 0, 0, 0]) hh) [(.long x3)] [] s490 hZ hown (wi hw 19 rfl) (wi hw 20 rfl) (wi hw 22 rfl) (wi hw 21 rfl) (wi hw 23 rfl) (wi hw 2 rfl) (by decide) (fun hh q => q.1) (fun h1 hP hn => (rmWnn l Z a0 hw [] o x3 b [x0, x1, x0, x1, x0, x1, x0, (ushr64 x2 (32 : Int32)).toInt32, x2.toInt32] 0 0 [0, 0, 0, 0, 0] h1 n0 hn g_o g_b hP (by simp)).mono fun rv_ hh q => q) hml rfl (lenOf pd_4 rfl) at_110 (Nat.le_of_eq rfl) (by decide) (by decide) (by decide) (by decide) (pc' := 113) rfl
    obtain ⟨_, er492, _⟩ := s491.facts
    subst er492
    have s493 : Sit p l e _ s m _ below meth c _ st n0 3 26 (fun hh => IL Z hh o b [x0, x1, x0, x1, x0, x1, x0, (ushr64 x2 (32 : Int32)).toInt32, x2.toInt32, (ushr64 x3 (32 : Int32)).toInt32, x3.toInt32] [0, 0, 0, 0, 0]) 113 #[.val (.int x0), .val (.int x1), .val (.long x2), .second, .val (.long x3), .second, .val (.int x4), .val (.int (7 : Int32)), .val (.ref o), .unset, .unset, .unset, .unset, .unset, .unset, .unset, .unset] [] := s491.mono fun _ q => q.2
    have s494 : Sit p l e _ s m _ below meth c _ st n0 3 26 _ 116 #[.val (.int x0), .val (.int x1), .val (.long x2), .second, .val (.long x3), .second, .val (.int x4), .val (.int (7 : Int32)), .val (.ref o), .unset, .unset, .unset, .unset, .unset, .unset, .unset, .unset] [(.int x0), (.ref o)] := s493
      |>.aload at_113 rfl rfl
      |>.iloadN at_115 rfl rfl
    obtain ⟨r496, s495⟩ := Sit.callV (C := "reenact/trace/IntList") (y := (⟨"reenact/trace/IntList", "add", "(I)V"⟩ : MethodName)) (W := 0) (Q := fun rv_ hh => (rv_ = none) ∧ (fun hh => IL Z hh o b [x0, x1, x0, x1, x0, x1, x0, (ushr64 x2 (32 : Int32)).toInt32, x2.toInt32, (ushr64 x3 (32 : Int32)).toInt32, x3.toInt32, x0] [0, 0, 0, 0]) hh) [(.int x0)] [] s494 hZ hown (wi hw 12 rfl) (wi hw 13 rfl) (wi hw 15 rfl) (wi hw 14 rfl) (wi hw 16 rfl) (wi hw 2 rfl) (by decide) (fun hh q => q.1) (fun h1 hP hn => (rmAdd l Z a0 hw [] o x0 b [x0, x1, x0, x1, x0, x1, x0, (ushr64 x2 (32 : Int32)).toInt32, x2.toInt32, (ushr64 x3 (32 : Int32)).toInt32, x3.toInt32] 0 [0, 0, 0, 0] h1 n0 hn g_o g_b hP (by simp)).mono fun rv_ hh q => q) hml rfl (lenOf pd_2 rfl) at_116 (Nat.le_of_eq rfl) (by decide) (by decide) (by decide) (by decide) (pc' := 119) rfl
    obtain ⟨_, er496, _⟩ := s495.facts
    subst er496
    have s497 : Sit p l e _ s m _ below meth c _ st n0 3 26 (fun hh => IL Z hh o b [x0, x1, x0, x1, x0, x1, x0, (ushr64 x2 (32 : Int32)).toInt32, x2.toInt32, (ushr64 x3 (32 : Int32)).toInt32, x3.toInt32, x0] [0, 0, 0, 0]) 119 #[.val (.int x0), .val (.int x1), .val (.long x2), .second, .val (.long x3), .second, .val (.int x4), .val (.int (7 : Int32)), .val (.ref o), .unset, .unset, .unset, .unset, .unset, .unset, .unset, .unset] [] := s495.mono fun _ q => q.2
    have s498 : Sit p l e _ s m _ below meth c _ st n0 3 26 _ 122 #[.val (.int x0), .val (.int x1), .val (.long x2), .second, .val (.long x3), .second, .val (.int x4), .val (.int (7 : Int32)), .val (.ref o), .unset, .unset, .unset, .unset, .unset, .unset, .unset, .unset] [(.int x1), (.ref o)] := s497
      |>.aload at_119 rfl rfl
      |>.iloadN at_121 rfl rfl
    obtain ⟨r500, s499⟩ := Sit.callV (C := "reenact/trace/IntList") (y := (⟨"reenact/trace/IntList", "add", "(I)V"⟩ : MethodName)) (W := 0) (Q := fun rv_ hh => (rv_ = none) ∧ (fun hh => IL Z hh o b [x0, x1, x0, x1, x0, x1, x0, (ushr64 x2 (32 : Int32)).toInt32, x2.toInt32, (ushr64 x3 (32 : Int32)).toInt32, x3.toInt32, x0, x1] [0, 0, 0]) hh) [(.int x1)] [] s498 hZ hown (wi hw 12 rfl) (wi hw 13 rfl) (wi hw 15 rfl) (wi hw 14 rfl) (wi hw 16 rfl) (wi hw 2 rfl) (by decide) (fun hh q => q.1) (fun h1 hP hn => (rmAdd l Z a0 hw [] o x1 b [x0, x1, x0, x1, x0, x1, x0, (ushr64 x2 (32 : Int32)).toInt32, x2.toInt32, (ushr64 x3 (32 : Int32)).toInt32, x3.toInt32, x0] 0 [0, 0, 0] h1 n0 hn g_o g_b hP (by simp)).mono fun rv_ hh q => q) hml rfl (lenOf pd_2 rfl) at_122 (Nat.le_of_eq rfl) (by decide) (by decide) (by decide) (by decide) (pc' := 125) rfl
    obtain ⟨_, er500, _⟩ := s499.facts
    subst er500
    have s501 : Sit p l e _ s m _ below meth c _ st n0 3 26 (fun hh => IL Z hh o b [x0, x1, x0, x1, x0, x1, x0, (ushr64 x2 (32 : Int32)).toInt32, x2.toInt32, (ushr64 x3 (32 : Int32)).toInt32, x3.toInt32, x0, x1] [0, 0, 0]) 125 #[.val (.int x0), .val (.int x1), .val (.long x2), .second, .val (.long x3), .second, .val (.int x4), .val (.int (7 : Int32)), .val (.ref o), .unset, .unset, .unset, .unset, .unset, .unset, .unset, .unset] [] := s499.mono fun _ q => q.2
    have s502 : Sit p l e _ s m _ below meth c _ st n0 3 26 _ 129 #[.val (.int x0), .val (.int x1), .val (.long x2), .second, .val (.long x3), .second, .val (.int x4), .val (.int (7 : Int32)), .val (.ref o), .unset, .unset, .unset, .unset, .unset, .unset, .unset, .unset] [(.int (7 : Int32)), (.ref o)] := s501
      |>.aload at_125 rfl rfl
      |>.iload at_127 rfl rfl
    obtain ⟨r504, s503⟩ := Sit.callV (C := "reenact/trace/IntList") (y := (⟨"reenact/trace/IntList", "getWide", "(I)J"⟩ : MethodName)) (W := 0) (Q := fun rv_ hh => (rv_ = some (.long (wide2 (ushr64 x2 (32 : Int32)).toInt32 x2.toInt32))) ∧ (fun hh => IL Z hh o b [x0, x1, x0, x1, x0, x1, x0, (ushr64 x2 (32 : Int32)).toInt32, x2.toInt32, (ushr64 x3 (32 : Int32)).toInt32, x3.toInt32, x0, x1] [0, 0, 0]) hh) [(.int (7 : Int32))] [] s502 hZ hown (wi hw 25 rfl) (wi hw 26 rfl) (wi hw 28 rfl) (wi hw 27 rfl) (wi hw 29 rfl) (wi hw 2 rfl) (by decide) (fun hh q => q.1) (fun h1 hP hn => (rmGet l Z a0 hw [] o (7 : Int32) b [x0, x1, x0, x1, x0, x1, x0, (ushr64 x2 (32 : Int32)).toInt32, x2.toInt32, (ushr64 x3 (32 : Int32)).toInt32, x3.toInt32, x0, x1] [0, 0, 0] 7 (ushr64 x2 (32 : Int32)).toInt32 x2.toInt32 h1 n0 hn hP rfl (by decide) rfl rfl).mono fun rv_ hh q => ⟨q.1, q.2 ▸ hP⟩) hml rfl (lenOf pd_5 rfl) at_129 (Nat.le_of_eq rfl) (by decide) (by decide) (by decide) (by decide) (pc' := 132) rfl
    obtain ⟨_, er504, _⟩ := s503.facts
    subst er504
    have s505 : Sit p l e _ s m _ below meth c _ st n0 3 26 (fun hh => IL Z hh o b [x0, x1, x0, x1, x0, x1, x0, (ushr64 x2 (32 : Int32)).toInt32, x2.toInt32, (ushr64 x3 (32 : Int32)).toInt32, x3.toInt32, x0, x1] [0, 0, 0]) 132 #[.val (.int x0), .val (.int x1), .val (.long x2), .second, .val (.long x3), .second, .val (.int x4), .val (.int (7 : Int32)), .val (.ref o), .unset, .unset, .unset, .unset, .unset, .unset, .unset, .unset] [(.long (wide2 (ushr64 x2 (32 : Int32)).toInt32 x2.toInt32))] := s503.mono fun _ q => q.2
    have s506 : Sit p l e _ s m _ below meth c _ st n0 3 26 _ 140 #[.val (.int x0), .val (.int x1), .val (.long x2), .second, .val (.long x3), .second, .val (.int x4), .val (.int (7 : Int32)), .val (.ref o), .val (.long (wide2 (ushr64 x2 (32 : Int32)).toInt32 x2.toInt32)), .second, .unset, .unset, .unset, .unset, .unset, .unset] [(.int ((7 : Int32) + (2 : Int32))), (.ref o)] := s505
      |>.lstore #[.val (.int x0), .val (.int x1), .val (.long x2), .second, .val (.long x3), .second, .val (.int x4), .val (.int (7 : Int32)), .val (.ref o), .val (.long (wide2 (ushr64 x2 (32 : Int32)).toInt32 x2.toInt32)), .second, .unset, .unset, .unset, .unset, .unset, .unset] at_132 rfl rfl
      |>.aload at_134 rfl rfl
      |>.iload at_136 rfl rfl
      |>.iconst (2 : Int32) at_138 rfl rfl
      |>.iadd at_139 rfl
    obtain ⟨r508, s507⟩ := Sit.callV (C := "reenact/trace/IntList") (y := (⟨"reenact/trace/IntList", "getWide", "(I)J"⟩ : MethodName)) (W := 0) (Q := fun rv_ hh => (rv_ = some (.long (wide2 (ushr64 x3 (32 : Int32)).toInt32 x3.toInt32))) ∧ (fun hh => IL Z hh o b [x0, x1, x0, x1, x0, x1, x0, (ushr64 x2 (32 : Int32)).toInt32, x2.toInt32, (ushr64 x3 (32 : Int32)).toInt32, x3.toInt32, x0, x1] [0, 0, 0]) hh) [(.int ((7 : Int32) + (2 : Int32)))] [] s506 hZ hown (wi hw 25 rfl) (wi hw 26 rfl) (wi hw 28 rfl) (wi hw 27 rfl) (wi hw 29 rfl) (wi hw 2 rfl) (by decide) (fun hh q => q.1) (fun h1 hP hn => (rmGet l Z a0 hw [] o ((7 : Int32) + (2 : Int32)) b [x0, x1, x0, x1, x0, x1, x0, (ushr64 x2 (32 : Int32)).toInt32, x2.toInt32, (ushr64 x3 (32 : Int32)).toInt32, x3.toInt32, x0, x1] [0, 0, 0] 9 (ushr64 x3 (32 : Int32)).toInt32 x3.toInt32 h1 n0 hn hP rfl (by decide) rfl rfl).mono fun rv_ hh q => ⟨q.1, q.2 ▸ hP⟩) hml rfl (lenOf pd_5 rfl) at_140 (Nat.le_of_eq rfl) (by decide) (by decide) (by decide) (by decide) (pc' := 143) rfl
    obtain ⟨_, er508, _⟩ := s507.facts
    subst er508
    have s509 : Sit p l e _ s m _ below meth c _ st n0 3 26 (fun hh => IL Z hh o b [x0, x1, x0, x1, x0, x1, x0, (ushr64 x2 (32 : Int32)).toInt32, x2.toInt32, (ushr64 x3 (32 : Int32)).toInt32, x3.toInt32, x0, x1] [0, 0, 0]) 143 #[.val (.int x0), .val (.int x1), .val (.long x2), .second, .val (.long x3), .second, .val (.int x4), .val (.int (7 : Int32)), .val (.ref o), .val (.long (wide2 (ushr64 x2 (32 : Int32)).toInt32 x2.toInt32)), .second, .unset, .unset, .unset, .unset, .unset, .unset] [(.long (wide2 (ushr64 x3 (32 : Int32)).toInt32 x3.toInt32))] := s507.mono fun _ q => q.2
    have s510 : Sit p l e _ s m _ below meth c _ st n0 3 26 _ 151 #[.val (.int x0), .val (.int x1), .val (.long x2), .second, .val (.long x3), .second, .val (.int x4), .val (.int (7 : Int32)), .val (.ref o), .val (.long (wide2 (ushr64 x2 (32 : Int32)).toInt32 x2.toInt32)), .second, .val (.long (wide2 (ushr64 x3 (32 : Int32)).toInt32 x3.toInt32)), .second, .unset, .unset, .unset, .unset] [(.int ((7 : Int32) + (4 : Int32))), (.ref o)] := s509
      |>.lstore #[.val (.int x0), .val (.int x1), .val (.long x2), .second, .val (.long x3), .second, .val (.int x4), .val (.int (7 : Int32)), .val (.ref o), .val (.long (wide2 (ushr64 x2 (32 : Int32)).toInt32 x2.toInt32)), .second, .val (.long (wide2 (ushr64 x3 (32 : Int32)).toInt32 x3.toInt32)), .second, .unset, .unset, .unset, .unset] at_143 rfl rfl
      |>.aload at_145 rfl rfl
      |>.iload at_147 rfl rfl
      |>.iconst (4 : Int32) at_149 rfl rfl
      |>.iadd at_150 rfl
    obtain ⟨r512, s511⟩ := Sit.callV (C := "reenact/trace/IntList") (y := (⟨"reenact/trace/IntList", "getWide", "(I)J"⟩ : MethodName)) (W := 0) (Q := fun rv_ hh => (rv_ = some (.long (wide2 x0 x1))) ∧ (fun hh => IL Z hh o b [x0, x1, x0, x1, x0, x1, x0, (ushr64 x2 (32 : Int32)).toInt32, x2.toInt32, (ushr64 x3 (32 : Int32)).toInt32, x3.toInt32, x0, x1] [0, 0, 0]) hh) [(.int ((7 : Int32) + (4 : Int32)))] [] s510 hZ hown (wi hw 25 rfl) (wi hw 26 rfl) (wi hw 28 rfl) (wi hw 27 rfl) (wi hw 29 rfl) (wi hw 2 rfl) (by decide) (fun hh q => q.1) (fun h1 hP hn => (rmGet l Z a0 hw [] o ((7 : Int32) + (4 : Int32)) b [x0, x1, x0, x1, x0, x1, x0, (ushr64 x2 (32 : Int32)).toInt32, x2.toInt32, (ushr64 x3 (32 : Int32)).toInt32, x3.toInt32, x0, x1] [0, 0, 0] 11 x0 x1 h1 n0 hn hP rfl (by decide) rfl rfl).mono fun rv_ hh q => ⟨q.1, q.2 ▸ hP⟩) hml rfl (lenOf pd_5 rfl) at_151 (Nat.le_of_eq rfl) (by decide) (by decide) (by decide) (by decide) (pc' := 154) rfl
    obtain ⟨_, er512, _⟩ := s511.facts
    subst er512
    have s513 : Sit p l e _ s m _ below meth c _ st n0 3 26 (fun hh => IL Z hh o b [x0, x1, x0, x1, x0, x1, x0, (ushr64 x2 (32 : Int32)).toInt32, x2.toInt32, (ushr64 x3 (32 : Int32)).toInt32, x3.toInt32, x0, x1] [0, 0, 0]) 154 #[.val (.int x0), .val (.int x1), .val (.long x2), .second, .val (.long x3), .second, .val (.int x4), .val (.int (7 : Int32)), .val (.ref o), .val (.long (wide2 (ushr64 x2 (32 : Int32)).toInt32 x2.toInt32)), .second, .val (.long (wide2 (ushr64 x3 (32 : Int32)).toInt32 x3.toInt32)), .second, .unset, .unset, .unset, .unset] [(.long (wide2 x0 x1))] := s511.mono fun _ q => q.2
    have s514 : Sit p l e _ s m _ below meth c _ st n0 3 26 _ 163 #[.val (.int x0), .val (.int x1), .val (.long x2), .second, .val (.long x3), .second, .val (.int x4), .val (.int (7 : Int32)), .val (.ref o), .val (.long (wide2 (ushr64 x2 (32 : Int32)).toInt32 x2.toInt32)), .second, .val (.long (wide2 (ushr64 x3 (32 : Int32)).toInt32 x3.toInt32)), .second, .val (.long (wide2 x0 x1)), .second, .unset, .unset] [(.int x0), (.int (ushr64 (wide2 x0 x1) (32 : Int32)).toInt32)] := s513
      |>.lstore #[.val (.int x0), .val (.int x1), .val (.long x2), .second, .val (.long x3), .second, .val (.int x4), .val (.int (7 : Int32)), .val (.ref o), .val (.long (wide2 (ushr64 x2 (32 : Int32)).toInt32 x2.toInt32)), .second, .val (.long (wide2 (ushr64 x3 (32 : Int32)).toInt32 x3.toInt32)), .second, .val (.long (wide2 x0 x1)), .second, .unset, .unset] at_154 rfl rfl
      |>.lload at_156 rfl rfl
      |>.bipush (32 : Int32) at_158 rfl rfl
      |>.lushr at_160 rfl
      |>.l2i at_161 rfl
      |>.iloadN at_162 rfl rfl
    have s515 : Sit p l e _ s m _ below meth c _ st n0 3 26 _ 177 #[.val (.int x0), .val (.int x1), .val (.long x2), .second, .val (.long x3), .second, .val (.int x4), .val (.int (7 : Int32)), .val (.ref o), .val (.long (wide2 (ushr64 x2 (32 : Int32)).toInt32 x2.toInt32)), .second, .val (.long (wide2 (ushr64 x3 (32 : Int32)).toInt32 x3.toInt32)), .second, .val (.long (wide2 x0 x1)), .second, .val (.int (1 : Int32)), .unset] [(.int x1), (.int (wide2 x0 x1).toInt32)] := s514
      |>.icmpN at_163 ((neF (Classical.not_not.mp (show ¬ (¬ (ushr64 (wide2 x0 x1) (32 : Int32)).toInt32 = x0) from fun h => h (wide_hi x0 x1))))) rfl
      |>.iconst (1 : Int32) at_166 rfl rfl
      |>.goto at_167 (by decide) (by decide)
      |>.istore #[.val (.int x0), .val (.int x1), .val (.long x2), .second, .val (.long x3), .second, .val (.int x4), .val (.int (7 : Int32)), .val (.ref o), .val (.long (wide2 (ushr64 x2 (32 : Int32)).toInt32 x2.toInt32)), .second, .val (.long (wide2 (ushr64 x3 (32 : Int32)).toInt32 x3.toInt32)), .second, .val (.long (wide2 x0 x1)), .second, .val (.int (1 : Int32)), .unset] at_171 rfl rfl
      |>.lload at_173 rfl rfl
      |>.l2i at_175 rfl
      |>.iloadN at_176 rfl rfl
    have s516 : Sit p l e _ s m _ below meth c _ st n0 3 26 _ 191 #[.val (.int x0), .val (.int x1), .val (.long x2), .second, .val (.long x3), .second, .val (.int x4), .val (.int (7 : Int32)), .val (.ref o), .val (.long (wide2 (ushr64 x2 (32 : Int32)).toInt32 x2.toInt32)), .second, .val (.long (wide2 (ushr64 x3 (32 : Int32)).toInt32 x3.toInt32)), .second, .val (.long (wide2 x0 x1)), .second, .val (.int (1 : Int32)), .val (.int (1 : Int32))] [(.int (lcmp3 (wide2 (ushr64 x2 (32 : Int32)).toInt32 x2.toInt32) x2))] := s515
      |>.icmpN at_177 ((neF (Classical.not_not.mp (show ¬ (¬ (wide2 x0 x1).toInt32 = x1) from fun h => h (wide_lo x0 x1))))) rfl
      |>.iconst (1 : Int32) at_180 rfl rfl
      |>.goto at_181 (by decide) (by decide)
      |>.istore #[.val (.int x0), .val (.int x1), .val (.long x2), .second, .val (.long x3), .second, .val (.int x4), .val (.int (7 : Int32)), .val (.ref o), .val (.long (wide2 (ushr64 x2 (32 : Int32)).toInt32 x2.toInt32)), .second, .val (.long (wide2 (ushr64 x3 (32 : Int32)).toInt32 x3.toInt32)), .second, .val (.long (wide2 x0 x1)), .second, .val (.int (1 : Int32)), .val (.int (1 : Int32))] at_185 rfl rfl
      |>.lload at_187 rfl rfl
      |>.lloadN at_189 rfl rfl
      |>.lcmp at_190 rfl
    have s517 : Sit p l e _ s m _ below meth c _ st n0 3 26 _ 199 #[.val (.int x0), .val (.int x1), .val (.long x2), .second, .val (.long x3), .second, .val (.int x4), .val (.int (7 : Int32)), .val (.ref o), .val (.long (wide2 (ushr64 x2 (32 : Int32)).toInt32 x2.toInt32)), .second, .val (.long (wide2 (ushr64 x3 (32 : Int32)).toInt32 x3.toInt32)), .second, .val (.long (wide2 x0 x1)), .second, .val (.int (1 : Int32)), .val (.int (1 : Int32))] [(.int (lcmp3 (wide2 (ushr64 x3 (32 : Int32)).toInt32 x3.toInt32) x3))] := s516
      |>.ifN at_191 (lcF (cd := .ne) (show ¬ (¬ (wide2 (ushr64 x2 (32 : Int32)).toInt32 x2.toInt32) = x2) from fun h => h (wide_back x2))) rfl
      |>.lload at_194 rfl rfl
      |>.lload at_196 rfl rfl
      |>.lcmp at_198 rfl
    have s518 : Sit p l e _ s m _ below meth c _ st n0 3 26 _ 204 #[.val (.int x0), .val (.int x1), .val (.long x2), .second, .val (.long x3), .second, .val (.int x4), .val (.int (7 : Int32)), .val (.ref o), .val (.long (wide2 (ushr64 x2 (32 : Int32)).toInt32 x2.toInt32)), .second, .val (.long (wide2 (ushr64 x3 (32 : Int32)).toInt32 x3.toInt32)), .second, .val (.long (wide2 x0 x1)), .second, .val (.int (1 : Int32)), .val (.int (1 : Int32))] [(.int (1 : Int32))] := s517
      |>.ifN at_199 (lcF (cd := .ne) (show ¬ (¬ (wide2 (ushr64 x3 (32 : Int32)).toInt32 x3.toInt32) = x3) from fun h => h (wide_back x3))) rfl
      |>.iload at_202 rfl rfl
    have s519 : Sit p l e _ s m _ below meth c _ st n0 3 26 _ 209 #[.val (.int x0), .val (.int x1), .val (.long x2), .second, .val (.long x3), .second, .val (.int x4), .val (.int (7 : Int32)), .val (.ref o), .val (.long (wide2 (ushr64 x2 (32 : Int32)).toInt32 x2.toInt32)), .second, .val (.long (wide2 (ushr64 x3 (32 : Int32)).toInt32 x3.toInt32)), .second, .val (.long (wide2 x0 x1)), .second, .val (.int (1 : Int32)), .val (.int (1 : Int32))] [(.int (1 : Int32))] := s518
      |>.ifN at_204 (eqF (show ¬ ((1 : Int32) = 0) from by decide)) rfl
      |>.iload at_207 rfl rfl
    have s520 : Sit p l e _ s m _ below meth c _ st n0 3 26 _ 214 #[.val (.int x0), .val (.int x1), .val (.long x2), .second, .val (.long x3), .second, .val (.int x4), .val (.int (7 : Int32)), .val (.ref o), .val (.long (wide2 (ushr64 x2 (32 : Int32)).toInt32 x2.toInt32)), .second, .val (.long (wide2 (ushr64 x3 (32 : Int32)).toInt32 x3.toInt32)), .second, .val (.long (wide2 x0 x1)), .second, .val (.int (1 : Int32)), .val (.int (1 : Int32))] [(.ref o)] := s519
      |>.ifN at_209 (eqF (show ¬ ((1 : Int32) = 0) from by decide)) rfl
      |>.aload at_212 rfl rfl
    obtain ⟨r522, s521⟩ := Sit.callV (C := "reenact/trace/IntList") (y := (⟨"reenact/trace/IntList", "size", "()I"⟩ : MethodName)) (W := 0) (Q := fun rv_ hh => (rv_ = some (.int (Int32.ofNat 13))) ∧ (fun hh => IL Z hh o b [x0, x1, x0, x1, x0, x1, x0, (ushr64 x2 (32 : Int32)).toInt32, x2.toInt32, (ushr64 x3 (32 : Int32)).toInt32, x3.toInt32, x0, x1] [0, 0, 0]) hh) [] [] s520 hZ hown (wi hw 31 rfl) (wi hw 32 rfl) (wi hw 34 rfl) (wi hw 33 rfl) (wi hw 35 rfl) (wi hw 2 rfl) (by decide) (fun hh q => q.1) (fun h1 hP hn => (rmSize l Z a0 hw [] o b [x0, x1, x0, x1, x0, x1, x0, (ushr64 x2 (32 : Int32)).toInt32, x2.toInt32, (ushr64 x3 (32 : Int32)).toInt32, x3.toInt32, x0, x1] [0, 0, 0] h1 n0 hn hP).mono fun rv_ hh q => ⟨q.1, q.2 ▸ hP⟩) hml rfl (lenOf pd_6 rfl) at_214 (Nat.le_of_eq rfl) (by decide) (by decide) (by decide) (by decide) (pc' := 217) rfl
    obtain ⟨_, er522, _⟩ := s521.facts
    subst er522
    have s523 : Sit p l e _ s m _ below meth c _ st n0 3 26 (fun hh => IL Z hh o b [x0, x1, x0, x1, x0, x1, x0, (ushr64 x2 (32 : Int32)).toInt32, x2.toInt32, (ushr64 x3 (32 : Int32)).toInt32, x3.toInt32, x0, x1] [0, 0, 0]) 217 #[.val (.int x0), .val (.int x1), .val (.long x2), .second, .val (.long x3), .second, .val (.int x4), .val (.int (7 : Int32)), .val (.ref o), .val (.long (wide2 (ushr64 x2 (32 : Int32)).toInt32 x2.toInt32)), .second, .val (.long (wide2 (ushr64 x3 (32 : Int32)).toInt32 x3.toInt32)), .second, .val (.long (wide2 x0 x1)), .second, .val (.int (1 : Int32)), .val (.int (1 : Int32))] [(.int (Int32.ofNat 13))] := s521.mono fun _ q => q.2
    have s524 : Sit p l e _ s m _ below meth c _ st n0 3 26 _ 222 #[.val (.int x0), .val (.int x1), .val (.long x2), .second, .val (.long x3), .second, .val (.int x4), .val (.int (7 : Int32)), .val (.ref o), .val (.long (wide2 (ushr64 x2 (32 : Int32)).toInt32 x2.toInt32)), .second, .val (.long (wide2 (ushr64 x3 (32 : Int32)).toInt32 x3.toInt32)), .second, .val (.long (wide2 x0 x1)), .second, .val (.int (1 : Int32)), .val (.int (1 : Int32))] [(.int ((7 : Int32) + (6 : Int32))), (.int (Int32.ofNat 13))] := s523
      |>.iload at_217 rfl rfl
      |>.bipush (6 : Int32) at_219 rfl rfl
      |>.iadd at_221 rfl
    have s525 : Sit p l e _ s m _ below meth c _ st n0 3 26 _ 230 #[.val (.int x0), .val (.int x1), .val (.long x2), .second, .val (.long x3), .second, .val (.int x4), .val (.int (7 : Int32)), .val (.ref o), .val (.long (wide2 (ushr64 x2 (32 : Int32)).toInt32 x2.toInt32)), .second, .val (.long (wide2 (ushr64 x3 (32 : Int32)).toInt32 x3.toInt32)), .second, .val (.long (wide2 x0 x1)), .second, .val (.int (1 : Int32)), .val (.int (1 : Int32))] [(.int (1 : Int32))] := s524
      |>.icmpN at_222 ((neF (Classical.not_not.mp (show ¬ (¬ (Int32.ofNat 13) = ((7 : Int32) + (6 : Int32))) from by decide)))) rfl
      |>.iconst (1 : Int32) at_225 rfl rfl
      |>.goto at_226 (by decide) (by decide)
    exact (s525.bound (by decide) (by decide)).retZ at_230 hret hlk (fun hh q => rfl)
set_option maxRecDepth 65536 in
set_option maxHeartbeats 40000000 in
theorem comes_1 {Post : Tables → Env → Array Value → State → Outcome → State → Prop} (hpost : ∀ tb e args s v u, (limb_1_1.after args s (.returned v) u = true ∧ limb_1_2.after args s (.returned v) u = true ∧ True) → FrameEnd s (.returned v) u (Jvm.fieldLocs frame_1_writes args s ++ Jvm.arrayLocs frame_1_arrays args s ++ Jvm.staticLocs frame_1_statics s) 16 128 → Post tb e args s (.returned v) u) :
    ArmFor flags0 classFile x code maxLocals ret World_1 tables_1 room_1 Calls_1 rest_1 Pre_1 Post := by
  intro l hfl _ _ p e ha hc hk s m args below hf hA hF happ hP
  obtain ⟨hcalls, hrest, hpre⟩ := hP
  obtain ⟨-, -, -, hnamed, -, -, -, hat⟩ := (Spec.applies_iff hf).mp happ
  obtain ⟨hg, hn⟩ := and_e (Cond.before_iff.mp (show (Jvm.Cond.and given_1 narrow_1).before args s = true from hpre))
  obtain ⟨g0, q0⟩ := and_e hg
  obtain ⟨g1, q1⟩ := and_e q0
  obtain ⟨g2, q2⟩ := and_e q1
  obtain ⟨g3, q3⟩ := and_e q2
  obtain ⟨g4, q4⟩ := and_e q3
  obtain ⟨w0, w1, w2, w3, w4, rfl⟩ : ∃ w0 w1 w2 w3 w4 : Value, args = #[w0, w1, w2, w3, w4] := by
    have hs : args.size = 5 := by simpa [Cond.value, given_1] using g0
    obtain ⟨L⟩ := args
    match L, hs with
    | [w0, w1, w2, w3, w4], _ => exact ⟨w0, w1, w2, w3, w4, rfl⟩
  have hw := fun d (hd : d ∈ tables_1) => atoms_spec (ws := Jvm.Cond.code x code maxLocals ret :: tables_1) hat d (List.mem_cons_of_mem _ hd)
  obtain ⟨i0, ei0⟩ := is_v g1
  obtain rfl : w0 = (.int i0) := Option.some.inj ei0
  obtain ⟨i1, ei1⟩ := is_v g2
  obtain rfl : w1 = (.int i1) := Option.some.inj ei1
  obtain ⟨i2, ei2⟩ := isL_v g3
  obtain rfl : w2 = (.long i2) := Option.some.inj ei2
  obtain ⟨i3, ei3⟩ := isL_v g4
  obtain rfl : w3 = (.long i3) := Option.some.inj ei3
  obtain ⟨i4, ei4⟩ := is_v q4
  obtain rfl : w4 = (.int i4) := Option.some.inj ei4
  obtain ⟨n, o, h1, h2, h3, _, L, rfl, ⟨N, rfl⟩, hq⟩ := rm0 l s _ hw tables_1 i0 i1 i2 i3 i4 s.heap s.heap.size (Nat.le_refl _) p e ha hc hk s m _ below hf ((Spec.applies_iff_loose hf).mp happ).1 ⟨rfl, State.Warmed39.refl s, rfl⟩ trivial
  refine ⟨n, _, h1, h2, h3, hpost _ _ _ _ _ _ ⟨Cond.after_iff.mpr rfl, Cond.after_iff.mpr (eq_i res_at (Term.int_eval (1)) rfl), trivial⟩ ⟨hq.1, hq.2.1, (hq.2.2.sift fun y hy => Or.inr (N y hy)).mono (by decide) (by decide)⟩⟩
theorem main_1_1 : Claimed_1_1 := comes_1 fun _ _ _ _ _ _ h hF => ⟨h.1, hF⟩
theorem main_1_2 : Claimed_1_2 := comes_1 fun _ _ _ _ _ _ h hF => ⟨h.2.1, hF⟩
end Jvm.Pilot.@@N@@
namespace Jvm.Pilot.@@N@@
open Jvm Jvm.ClassFile Sem Op Lib Jvm.Free Jvm.Stand Jvm.Pilot.@@N@@.Jvm.D
/-! MADE BY PROGRAM (witnessworld.py) out of the Statement's table words and the real class files: 12 classes; the members and pool entries that the words name. The judged class is class 1, her method 1. -/
namespace start1
open Jvm.ClassFile
def u (s : String) : CpInfo := .utf8 (stringToUtf16 s)
/-- a pool by its gaps: so many unusable entries, then the entry; so many at the end -/
def gap : Nat → List CpInfo → List CpInfo
  | 0, r => r
  | n + 1, r => .unusable :: gap n r
def poolList (es : List (Nat × CpInfo)) (last : Nat) : List CpInfo := es.foldr (fun e r => gap e.1 (e.2 :: r)) (gap last [])
def pool (es : List (Nat × CpInfo)) (last : Nat) : Array CpInfo := ⟨poolList es last⟩
def fileOf (pool : Array CpInfo) (this : Nat) (attrs : Array Attribute := #[]) (ms : Array MethodInfo := #[]) (fl : Nat := 33) (sup : Nat := 0) (ifs : Array Nat := #[]) (fds : Array FieldInfo := #[]) : ClassFile where
  minorVersion := 0
  majorVersion := 65
  constantPool := pool
  accessFlags := fl
  thisClass := this
  superClass := sup
  interfaces := ifs
  fields := fds
  methods := ms
  attributes := attrs
def plain (name : String) (sup : Option ClassId) : Class where
  name := name
  kind := .ordinary
  loader := none
  accessFlags := 33
  super := sup
  interfaces := #[]
  cf := none
  fields := #[]
  methods := #[]
  instanceTypes := #[]
  staticTypes := #[]
  resolved := #[]
  callSites := []
  init := .initialized
  statics := none
  mirror := none

def pool0 : Array CpInfo := pool [(5, u "<init>"), (0, u "()V"), (1, .class_ 10), (1, u "java/lang/Object")] 113

def k0c0 : Code := { maxStack := 0, maxLocals := 1, code := object_method_1_code, exceptionTable := #[], attributes := #[] }
def k0m0 : Method := { name := "<init>", desc := "()V", sig := { parameters := [], returnType := none }, accessFlags := 1, code := some k0c0 }
/-- java/lang/Object -/
def k0 : Class := { plain "java/lang/Object" none with
  accessFlags := 33
  interfaces := #[]
  cf := some (fileOf pool0 8 #[] #[{ accessFlags := 1, nameIndex := 5, descriptorIndex := 6, attributes := #[] }] 33 0 #[] #[])
  fields := #[]
  methods := #[k0m0]
  instanceTypes := #[]
  staticTypes := #[]
  resolved := Array.replicate 124 none
  statics := none }

def pool1 : Array CpInfo := pool [(2, .class_ 4), (0, .nameAndType 5 6), (0, u "java/lang/Object"), (0, u "<init>"), (0, u "()V"), (0, .class_ 8), (0, u "reenact/trace/IntList"), (0, .methodref 7 3), (0, .methodref 7 11), (0, .nameAndType 12 13), (0, u "add"), (0, u "(I)V"), (0, .methodref 7 15), (0, .nameAndType 16 17), (0, u "addWide"), (0, u "(J)V"), (0, .methodref 7 19), (0, .nameAndType 20 21), (0, u "getWide"), (0, u "(I)J"), (0, .methodref 7 23), (0, .nameAndType 24 25), (0, u "size"), (0, u "()I"), (0, .class_ 27), (0, u "reenact/trace/IntListGetWidePinLaw"), (2, u "law"), (0, u "(IIJJI)Z")] 3

def k1m0 : Method := { name := "<init>", desc := "()V", sig := { parameters := [], returnType := none }, accessFlags := 1, code := none }
def k1c1 : Code := { maxStack := 4, maxLocals := 17, code := code, exceptionTable := #[], attributes := #[] }
def k1m1 : Method := { name := "law", desc := "(IIJJI)Z", sig := { parameters := [.int, .int, .long, .long, .int], returnType := some .boolean }, accessFlags := 9, code := some k1c1 }
/-- reenact/trace/IntListGetWidePinLaw -/
def k1 : Class := { plain "reenact/trace/IntListGetWidePinLaw" (some 0) with
  accessFlags := 49
  interfaces := #[]
  cf := some (fileOf pool1 26 #[] #[{ accessFlags := 1, nameIndex := 5, descriptorIndex := 6, attributes := #[] }, { accessFlags := 9, nameIndex := 30, descriptorIndex := 31, attributes := #[] }] 49 2 #[] #[])
  fields := #[]
  methods := #[k1m0, k1m1]
  instanceTypes := #[]
  staticTypes := #[]
  resolved := Array.replicate 35 none
  statics := none }

def pool2 : Array CpInfo := pool [(1, .methodref 2 3), (0, .class_ 4), (0, .nameAndType 5 6), (0, u "java/lang/Object"), (0, u "<init>"), (0, u "()V"), (0, .fieldref 8 9), (0, .class_ 10), (0, .nameAndType 11 12), (0, u "reenact/trace/IntList"), (0, u "values"), (0, u "[I"), (0, .fieldref 8 14), (0, .nameAndType 15 16), (0, u "size"), (0, u "I"), (0, .methodref 18 19), (0, .class_ 20), (0, .nameAndType 21 22), (0, u "java/util/Arrays"), (0, u "copyOf"), (0, u "([II)[I"), (2, .methodref 8 26), (0, .nameAndType 27 28), (0, u "add"), (0, u "(I)V"), (0, .long 4294967295), (10, u "addWide"), (0, u "(J)V"), (0, u "getWide"), (0, u "(I)J"), (0, u "()I")] 4

def k2c0 : Code := { maxStack := 2, maxLocals := 1, code := prog_150_method_1_code, exceptionTable := #[], attributes := #[] }
def k2m0 : Method := { name := "<init>", desc := "()V", sig := { parameters := [], returnType := none }, accessFlags := 0, code := some k2c0 }
def k2c1 : Code := { maxStack := 5, maxLocals := 2, code := prog_150_method_2_code, exceptionTable := #[], attributes := #[] }
def k2m1 : Method := { name := "add", desc := "(I)V", sig := { parameters := [.int], returnType := none }, accessFlags := 0, code := some k2c1 }
def k2c2 : Code := { maxStack := 4, maxLocals := 3, code := prog_150_method_4_code, exceptionTable := #[], attributes := #[] }
def k2m2 : Method := { name := "addWide", desc := "(J)V", sig := { parameters := [.long], returnType := none }, accessFlags := 0, code := some k2c2 }
def k2c3 : Code := { maxStack := 6, maxLocals := 2, code := prog_150_method_5_code, exceptionTable := #[], attributes := #[] }
def k2m3 : Method := { name := "getWide", desc := "(I)J", sig := { parameters := [.int], returnType := some .long }, accessFlags := 0, code := some k2c3 }
def k2c4 : Code := { maxStack := 1, maxLocals := 1, code := prog_150_method_6_code, exceptionTable := #[], attributes := #[] }
def k2m4 : Method := { name := "size", desc := "()I", sig := { parameters := [], returnType := some .int }, accessFlags := 0, code := some k2c4 }
/-- reenact/trace/IntList -/
def k2 : Class := { plain "reenact/trace/IntList" (some 0) with
  accessFlags := 48
  interfaces := #[]
  cf := some (fileOf pool2 8 #[] #[{ accessFlags := 0, nameIndex := 5, descriptorIndex := 6, attributes := #[] }, { accessFlags := 0, nameIndex := 27, descriptorIndex := 28, attributes := #[] }, { accessFlags := 0, nameIndex := 40, descriptorIndex := 41, attributes := #[] }, { accessFlags := 0, nameIndex := 42, descriptorIndex := 43, attributes := #[] }, { accessFlags := 0, nameIndex := 15, descriptorIndex := 44, attributes := #[] }] 48 2 #[] #[{ accessFlags := 2, nameIndex := 11, descriptorIndex := 12, attributes := #[] }, { accessFlags := 2, nameIndex := 15, descriptorIndex := 16, attributes := #[] }])
  fields := #[{ name := "values", type := (.array .int), accessFlags := 2, slot := 0, constantValue := 0 }, { name := "size", type := .int, accessFlags := 2, slot := 1, constantValue := 0 }]
  methods := #[k2m0, k2m1, k2m2, k2m3, k2m4]
  instanceTypes := #[(.array .int), .int]
  staticTypes := #[]
  resolved := Array.replicate 49 none
  statics := none }

def pool3 : Array CpInfo := pool [(2, .class_ 4), (1, u "java/lang/Object"), (0, u "<init>"), (0, u "()V"), (7, .class_ 16), (1, u "java/util/Arrays"), (57, .class_ 76), (1, u "java/util/Arrays$NaturalOrder"), (36, .class_ 115), (1, u "java/util/Arrays$LegacyMergeSort"), (1, u "Z"), (32, .methodref 151 152), (0, .class_ 153), (0, .nameAndType 154 155), (0, u "java/lang/System"), (0, u "arraycopy"), (0, u "(Ljava/lang/Object;ILjava/lang/Object;II)V"), (146, u "copyOf"), (1, .methodref 305 306), (0, .class_ 307), (0, .nameAndType 308 309), (0, u "java/lang/Math"), (0, u "min"), (0, u "(II)I"), (65, .class_ 376), (0, u "java/util/Arrays$ArrayList"), (68, u "$assertionsDisabled"), (269, u "MIN_ARRAY_SORT_GRAN"), (0, u "I"), (2, u "INSERTIONSORT_THRESHOLD"), (151, u "([II)[I"), (103, .class_ 976), (0, u "java/util/Arrays$ArrayItr")] 52

def k3m0 : Method := { name := "<init>", desc := "()V", sig := { parameters := [], returnType := none }, accessFlags := 2, code := none }
def k3c1 : Code := { maxStack := 6, maxLocals := 3, code := jdk_65_method_123_code, exceptionTable := #[], attributes := #[] }
def k3m1 : Method := { name := "copyOf", desc := "([II)[I", sig := { parameters := [(.array .int), .int], returnType := some (.array .int) }, accessFlags := 9, code := some k3c1 }
/-- java/util/Arrays -/
def k3 : Class := { plain "java/util/Arrays" (some 0) with
  accessFlags := 49
  interfaces := #[]
  cf := some (fileOf pool3 14 #[.nestMembers #[975, 375, 113, 74]] #[{ accessFlags := 2, nameIndex := 5, descriptorIndex := 6, attributes := #[] }, { accessFlags := 9, nameIndex := 302, descriptorIndex := 871, attributes := #[] }] 49 2 #[] #[{ accessFlags := 26, nameIndex := 715, descriptorIndex := 716, attributes := #[] }, { accessFlags := 26, nameIndex := 719, descriptorIndex := 716, attributes := #[] }, { accessFlags := 4120, nameIndex := 445, descriptorIndex := 117, attributes := #[] }])
  fields := #[{ name := "MIN_ARRAY_SORT_GRAN", type := .int, accessFlags := 26, slot := 0, constantValue := 0 }, { name := "INSERTIONSORT_THRESHOLD", type := .int, accessFlags := 26, slot := 1, constantValue := 0 }, { name := "$assertionsDisabled", type := .boolean, accessFlags := 4120, slot := 2, constantValue := 0 }]
  methods := #[k3m0, k3m1]
  instanceTypes := #[]
  staticTypes := #[.int, .int, .boolean]
  resolved := Array.replicate 1029 none
  statics := none }

def pool4 : Array CpInfo := pool [(1, .class_ 2), (0, u "java/lang/Math"), (1, .class_ 6), (1, u "java/lang/Object"), (0, u "<init>"), (0, u "()V"), (89, .class_ 100), (1, u "java/lang/Math$RandomNumberGeneratorHolder"), (71, u "negativeZeroFloatBits"), (0, u "J"), (2, u "negativeZeroDoubleBits"), (24, u "min"), (43, u "$assertionsDisabled"), (0, u "Z"), (88, u "(II)I"), (2, u "twoToTheDoubleScaleDown"), (0, u "D"), (4, u "twoToTheDoubleScaleUp"), (9, u "E"), (3, u "PI"), (2, u "TAU"), (2, u "DEGREES_TO_RADIANS"), (0, u "RADIANS_TO_DEGREES")] 94

def k4m0 : Method := { name := "<init>", desc := "()V", sig := { parameters := [], returnType := none }, accessFlags := 2, code := none }
def k4c1 : Code := { maxStack := 2, maxLocals := 2, code := jdk_29_method_69_code, exceptionTable := #[], attributes := #[] }
def k4m1 : Method := { name := "min", desc := "(II)I", sig := { parameters := [.int, .int], returnType := some .int }, accessFlags := 9, code := some k4c1 }
/-- java/lang/Math -/
def k4 : Class := { plain "java/lang/Math" (some 0) with
  accessFlags := 49
  interfaces := #[]
  cf := some (fileOf pool4 1 #[.nestMembers #[98]] #[{ accessFlags := 2, nameIndex := 7, descriptorIndex := 8, attributes := #[] }, { accessFlags := 9, nameIndex := 201, descriptorIndex := 335, attributes := #[] }] 49 4 #[] #[{ accessFlags := 25, nameIndex := 354, descriptorIndex := 339, attributes := #[] }, { accessFlags := 25, nameIndex := 358, descriptorIndex := 339, attributes := #[] }, { accessFlags := 25, nameIndex := 361, descriptorIndex := 339, attributes := #[] }, { accessFlags := 26, nameIndex := 364, descriptorIndex := 339, attributes := #[] }, { accessFlags := 26, nameIndex := 365, descriptorIndex := 339, attributes := #[] }, { accessFlags := 26, nameIndex := 172, descriptorIndex := 173, attributes := #[] }, { accessFlags := 26, nameIndex := 176, descriptorIndex := 173, attributes := #[] }, { accessFlags := 8, nameIndex := 344, descriptorIndex := 339, attributes := #[] }, { accessFlags := 8, nameIndex := 338, descriptorIndex := 339, attributes := #[] }, { accessFlags := 4120, nameIndex := 245, descriptorIndex := 246, attributes := #[] }])
  fields := #[{ name := "E", type := .double, accessFlags := 25, slot := 0, constantValue := 0 }, { name := "PI", type := .double, accessFlags := 25, slot := 1, constantValue := 0 }, { name := "TAU", type := .double, accessFlags := 25, slot := 2, constantValue := 0 }, { name := "DEGREES_TO_RADIANS", type := .double, accessFlags := 26, slot := 3, constantValue := 0 }, { name := "RADIANS_TO_DEGREES", type := .double, accessFlags := 26, slot := 4, constantValue := 0 }, { name := "negativeZeroFloatBits", type := .long, accessFlags := 26, slot := 5, constantValue := 0 }, { name := "negativeZeroDoubleBits", type := .long, accessFlags := 26, slot := 6, constantValue := 0 }, { name := "twoToTheDoubleScaleUp", type := .double, accessFlags := 8, slot := 7, constantValue := 0 }, { name := "twoToTheDoubleScaleDown", type := .double, accessFlags := 8, slot := 8, constantValue := 0 }, { name := "$assertionsDisabled", type := .boolean, accessFlags := 4120, slot := 9, constantValue := 0 }]
  methods := #[k4m0, k4m1]
  instanceTypes := #[]
  staticTypes := #[.double, .double, .double, .double, .double, .long, .long, .double, .double, .boolean]
  resolved := Array.replicate 460 none
  statics := none }

def pool5 : Array CpInfo := pool [(2, .class_ 4), (1, u "java/lang/Object"), (0, u "<init>"), (0, u "()V"), (1, .class_ 10), (1, u "java/lang/System"), (0, u "allowSecurityManager"), (0, u "I"), (16, u "cons"), (0, u "Ljava/io/Console;"), (77, .class_ 110), (1, u "java/lang/System$CallersHolder"), (43, u "initialErrStream"), (0, u "Ljava/io/PrintStream;"), (19, u "security"), (0, u "Ljava/lang/SecurityManager;"), (31, .class_ 209), (0, u "java/lang/System$1"), (7, u "props"), (0, u "Ljava/util/Properties;"), (2, u "lineSeparator"), (0, u "Ljava/lang/String;"), (96, .class_ 321), (1, u "java/lang/System$LoggerFinder"), (5, .class_ 328), (0, u "java/lang/System$Logger"), (67, u "err"), (2, u "out"), (91, u "notSupportedJnuEncoding"), (15, u "in"), (17, u "initialIn"), (0, u "Ljava/io/InputStream;"), (35, u "bootLayer"), (0, u "Ljava/lang/ModuleLayer;"), (99, .class_ 664), (0, u "java/lang/System$2"), (9, u "NEVER"), (2, u "MAYBE"), (49, u "arraycopy"), (0, u "(Ljava/lang/Object;ILjava/lang/Object;II)V"), (72, .class_ 802), (0, u "java/lang/System$Logger$Level")] 31

def k5m0 : Method := { name := "<init>", desc := "()V", sig := { parameters := [], returnType := none }, accessFlags := 2, code := none }
def k5m1 : Method := { name := "arraycopy", desc := "(Ljava/lang/Object;ILjava/lang/Object;II)V", sig := { parameters := [(.object "java/lang/Object"), .int, (.object "java/lang/Object"), .int, .int], returnType := none }, accessFlags := 265, code := none }
/-- java/lang/System -/
def k5 : Class := { plain "java/lang/System" (some 0) with
  accessFlags := 49
  interfaces := #[]
  cf := some (fileOf pool5 8 #[.nestMembers #[319, 327, 801, 108, 663, 208]] #[{ accessFlags := 2, nameIndex := 5, descriptorIndex := 6, attributes := #[] }, { accessFlags := 265, nameIndex := 727, descriptorIndex := 728, attributes := #[] }] 49 2 #[] #[{ accessFlags := 25, nameIndex := 507, descriptorIndex := 526, attributes := #[] }, { accessFlags := 25, nameIndex := 399, descriptorIndex := 155, attributes := #[] }, { accessFlags := 25, nameIndex := 396, descriptorIndex := 155, attributes := #[] }, { accessFlags := 10, nameIndex := 525, descriptorIndex := 526, attributes := #[] }, { accessFlags := 26, nameIndex := 674, descriptorIndex := 12, attributes := #[] }, { accessFlags := 26, nameIndex := 677, descriptorIndex := 12, attributes := #[] }, { accessFlags := 10, nameIndex := 11, descriptorIndex := 12, attributes := #[] }, { accessFlags := 74, nameIndex := 175, descriptorIndex := 176, attributes := #[] }, { accessFlags := 10, nameIndex := 491, descriptorIndex := 222, attributes := #[] }, { accessFlags := 74, nameIndex := 29, descriptorIndex := 30, attributes := #[] }, { accessFlags := 74, nameIndex := 154, descriptorIndex := 155, attributes := #[] }, { accessFlags := 10, nameIndex := 217, descriptorIndex := 218, attributes := #[] }, { accessFlags := 10, nameIndex := 221, descriptorIndex := 222, attributes := #[] }, { accessFlags := 8, nameIndex := 562, descriptorIndex := 563, attributes := #[] }])
  fields := #[{ name := "in", type := (.object "java/io/InputStream"), accessFlags := 25, slot := 0, constantValue := 0 }, { name := "out", type := (.object "java/io/PrintStream"), accessFlags := 25, slot := 1, constantValue := 0 }, { name := "err", type := (.object "java/io/PrintStream"), accessFlags := 25, slot := 2, constantValue := 0 }, { name := "initialIn", type := (.object "java/io/InputStream"), accessFlags := 10, slot := 3, constantValue := 0 }, { name := "NEVER", type := .int, accessFlags := 26, slot := 4, constantValue := 0 }, { name := "MAYBE", type := .int, accessFlags := 26, slot := 5, constantValue := 0 }, { name := "allowSecurityManager", type := .int, accessFlags := 10, slot := 6, constantValue := 0 }, { name := "security", type := (.object "java/lang/SecurityManager"), accessFlags := 74, slot := 7, constantValue := 0 }, { name := "notSupportedJnuEncoding", type := (.object "java/lang/String"), accessFlags := 10, slot := 8, constantValue := 0 }, { name := "cons", type := (.object "java/io/Console"), accessFlags := 74, slot := 9, constantValue := 0 }, { name := "initialErrStream", type := (.object "java/io/PrintStream"), accessFlags := 74, slot := 10, constantValue := 0 }, { name := "props", type := (.object "java/util/Properties"), accessFlags := 10, slot := 11, constantValue := 0 }, { name := "lineSeparator", type := (.object "java/lang/String"), accessFlags := 10, slot := 12, constantValue := 0 }, { name := "bootLayer", type := (.object "java/lang/ModuleLayer"), accessFlags := 8, slot := 13, constantValue := 0 }]
  methods := #[k5m0, k5m1]
  instanceTypes := #[]
  staticTypes := #[(.object "java/io/InputStream"), (.object "java/io/PrintStream"), (.object "java/io/PrintStream"), (.object "java/io/InputStream"), .int, .int, .int, (.object "java/lang/SecurityManager"), (.object "java/lang/String"), (.object "java/io/Console"), (.object "java/io/PrintStream"), (.object "java/util/Properties"), (.object "java/lang/String"), (.object "java/lang/ModuleLayer")]
  resolved := Array.replicate 834 none
  statics := none }

def pool6 : Array CpInfo := pool [(1, u "java/lang/Cloneable"), (0, .class_ 1), (0, u "java/lang/Object"), (0, .class_ 3)] 3

/-- java/lang/Cloneable -/
def k6 : Class := { plain "java/lang/Cloneable" (some 0) with
  accessFlags := 1537
  interfaces := #[]
  cf := some (fileOf pool6 2 #[] #[] 1537 4 #[] #[])
  fields := #[]
  methods := #[]
  instanceTypes := #[]
  staticTypes := #[]
  resolved := Array.replicate 8 none
  statics := none }

def pool7 : Array CpInfo := pool [(1, u "java/io/Serializable"), (0, .class_ 1), (0, u "java/lang/Object"), (0, .class_ 3)] 3

/-- java/io/Serializable -/
def k7 : Class := { plain "java/io/Serializable" (some 0) with
  accessFlags := 1537
  interfaces := #[]
  cf := some (fileOf pool7 2 #[] #[] 1537 4 #[] #[])
  fields := #[]
  methods := #[]
  instanceTypes := #[]
  staticTypes := #[]
  resolved := Array.replicate 8 none
  statics := none }

/-- the primitive byte -/
def k8 : Class := { plain "byte" none with kind := .primitive 'B', accessFlags := 0x411 }
/-- [B -/
def k9 : Class := { plain "[B" (some 0) with kind := .array 8 .byte, interfaces := #[6, 7], accessFlags := 1041 }

/-- the primitive int -/
def k10 : Class := { plain "int" none with kind := .primitive 'I', accessFlags := 0x411 }
/-- [I -/
def k11 : Class := { plain "[I" (some 0) with kind := .array 10 .int, interfaces := #[6, 7], accessFlags := 1041 }

def heap : Heap := #[]
def classes : Array Class := #[k0, k1, k2, k3, k4, k5, k6, k7, k8, k9, k10, k11]
def interned : List (Array UInt16 × Addr) := []
def slotsUsed : Nat := 0
def theMethod : MethodId := ⟨1, 1⟩
def args0 : Array Value := #[.int 5, .int 7, .long 2, .long 9, .int 3]
def aboutOver (below : List Frame) : State where
  vm := { classes := classes, interned := interned.toArray }
  heap := heap
  slotsUsed := slotsUsed
  threads := #[{ frames := .invoking theMethod args0 :: below }]
def below0 : List Frame := [.native { method := ⟨0, 0⟩, args := #[] }]
def about1 : State := aboutOver below0
def p0 : Program := .bare "" "" ""
def e0 : Env := launch0.env 0 0 0
theorem w_frames : about1.frames = Frame.invoking theMethod args0 :: below0 := rfl
set_option maxRecDepth 65536 in
theorem w_args : argsFit about1.vm theMethod args0 = true := by decide +kernel
set_option maxRecDepth 65536 in
theorem w_heap : heapFits about1 = true := by decide +kernel
set_option maxRecDepth 65536 in
theorem w_runnable : about1.curStatus? = some .runnable := by decide +kernel
set_option maxRecDepth 65536 in
theorem w_alone : about1.alone = true := by decide +kernel
set_option maxRecDepth 65536 in
theorem w_named : about1.methodNamed? x = some theMethod := by decide +kernel
set_option maxRecDepth 65536 in
theorem w_hears : about1.hears theMethod below0 = true := by decide +kernel
set_option maxRecDepth 65536 in
theorem w_ripe : about1.ripe theMethod args0 below0 = true := by decide +kernel
theorem w_running : about1.status = .running := rfl
set_option maxRecDepth 65536 in
theorem w_room : about1.hasRoom e0.platform room_1 = true :=
  launch0.hasRoom_least _ room_1 (by decide +kernel) (by decide +kernel) (by decide +kernel) (by decide +kernel) (by decide +kernel) (by decide +kernel)
theorem allAtoms_all (ts : List Jvm.Cond) (a : Array Jvm.Value) (st : Jvm.State) : (allAtoms ts).before a st = ts.all (fun c => c.before a st) := by
  induction ts with
  | nil => rfl
  | cons c t ih =>
    show (Jvm.Cond.and c (allAtoms t)).before a st = _
    rw [Jvm.Cond.before_and, ih, List.all_cons]
def words1 : List Jvm.Cond := Jvm.Cond.code x code maxLocals ret :: tables_1
/-- a 'code' word, met by the world's own term for the bytes: nothing is compared byte by byte -/
theorem code_word {y : MethodName} {bytes : ByteArray} {mx : Nat} {rt : Option FieldType} {a : Array Value} {s : State} {m : MethodId} {meth : Method} {c : Code} (h1 : s.methodNamed? y = some m) (h2 : s.vm.method? m = some meth) (h3 : meth.code = some c) (h4 : c.code = bytes)
    (h5 : (c.maxLocals == mx && c.exceptionTable.isEmpty && decide (c.maxStack ≤ mostOperands) && decide (meth.sig.returnType = rt) && !meth.locks && decide (parseMethodDescriptor y.desc = some meth.sig)) = true) : (Jvm.Cond.code y bytes mx rt).before a s = true := by
  simp only [Bool.and_eq_true, beq_iff_eq, Bool.not_eq_true', decide_eq_true_eq] at h5
  obtain ⟨⟨⟨⟨⟨g1, g2⟩, g3⟩, g4⟩, g5⟩, g6⟩ := h5
  simp [Cond.before, Cond.holds, Cond.value, h1, h2, h3, h4, g1, g2, g3, g4, g5, g6]
def isCode : Jvm.Cond → Bool
  | .code _ _ _ _ => true
  | _ => false
theorem all_split {L : List Jvm.Cond} {P : Jvm.Cond → Bool} (h1 : L.all (fun c => isCode c || P c) = true) (h2 : ∀ c ∈ L.filter isCode, P c = true) : L.all P = true := by
  refine List.all_eq_true.mpr fun c hc => ?_
  have h := List.all_eq_true.mp h1 c hc
  rcases Bool.eq_false_or_eq_true (isCode c) with hi | hi
  · exact h2 c (List.mem_filter.mpr ⟨hc, hi⟩)
  · simpa [hi] using h
set_option maxRecDepth 65536 in
theorem w_c0 : (Jvm.Cond.code x code maxLocals ret).before args0 about1 = true := code_word (m := ⟨1, 1⟩) (meth := k1m1) (c := k1c1) (by decide +kernel) rfl rfl rfl (by decide +kernel)
set_option maxRecDepth 65536 in
theorem w_c1 : (Jvm.Cond.code ({ cls := "reenact/trace/IntList", name := "<init>", desc := "()V" } : Jvm.MethodName) prog_150_method_1_code (1 : Nat) (Option.none : Option Jvm.ClassFile.FieldType)).before args0 about1 = true := code_word (m := ⟨2, 0⟩) (meth := k2m0) (c := k2c0) (by decide +kernel) rfl rfl rfl (by decide +kernel)
set_option maxRecDepth 65536 in
theorem w_c2 : (Jvm.Cond.code ({ cls := "java/lang/Object", name := "<init>", desc := "()V" } : Jvm.MethodName) object_method_1_code (1 : Nat) (Option.none : Option Jvm.ClassFile.FieldType)).before args0 about1 = true := code_word (m := ⟨0, 0⟩) (meth := k0m0) (c := k0c0) (by decide +kernel) rfl rfl rfl (by decide +kernel)
set_option maxRecDepth 65536 in
theorem w_c3 : (Jvm.Cond.code ({ cls := "reenact/trace/IntList", name := "add", desc := "(I)V" } : Jvm.MethodName) prog_150_method_2_code (2 : Nat) (Option.none : Option Jvm.ClassFile.FieldType)).before args0 about1 = true := code_word (m := ⟨2, 1⟩) (meth := k2m1) (c := k2c1) (by decide +kernel) rfl rfl rfl (by decide +kernel)
set_option maxRecDepth 65536 in
theorem w_c4 : (Jvm.Cond.code ({ cls := "reenact/trace/IntList", name := "addWide", desc := "(J)V" } : Jvm.MethodName) prog_150_method_4_code (3 : Nat) (Option.none : Option Jvm.ClassFile.FieldType)).before args0 about1 = true := code_word (m := ⟨2, 2⟩) (meth := k2m2) (c := k2c2) (by decide +kernel) rfl rfl rfl (by decide +kernel)
set_option maxRecDepth 65536 in
theorem w_c5 : (Jvm.Cond.code ({ cls := "reenact/trace/IntList", name := "getWide", desc := "(I)J" } : Jvm.MethodName) prog_150_method_5_code (2 : Nat) (Option.some Jvm.ClassFile.FieldType.long)).before args0 about1 = true := code_word (m := ⟨2, 3⟩) (meth := k2m3) (c := k2c3) (by decide +kernel) rfl rfl rfl (by decide +kernel)
set_option maxRecDepth 65536 in
theorem w_c6 : (Jvm.Cond.code ({ cls := "reenact/trace/IntList", name := "size", desc := "()I" } : Jvm.MethodName) prog_150_method_6_code (1 : Nat) (Option.some Jvm.ClassFile.FieldType.int)).before args0 about1 = true := code_word (m := ⟨2, 4⟩) (meth := k2m4) (c := k2c4) (by decide +kernel) rfl rfl rfl (by decide +kernel)
set_option maxRecDepth 65536 in
theorem w_c7 : (Jvm.Cond.code ({ cls := "java/util/Arrays", name := "copyOf", desc := "([II)[I" } : Jvm.MethodName) jdk_65_method_123_code (3 : Nat) (Option.some (Jvm.ClassFile.FieldType.array Jvm.ClassFile.FieldType.int))).before args0 about1 = true := code_word (m := ⟨3, 1⟩) (meth := k3m1) (c := k3c1) (by decide +kernel) rfl rfl rfl (by decide +kernel)
set_option maxRecDepth 65536 in
theorem w_c8 : (Jvm.Cond.code ({ cls := "java/lang/Math", name := "min", desc := "(II)I" } : Jvm.MethodName) jdk_29_method_69_code (2 : Nat) (Option.some Jvm.ClassFile.FieldType.int)).before args0 about1 = true := code_word (m := ⟨4, 1⟩) (meth := k4m1) (c := k4c1) (by decide +kernel) rfl rfl rfl (by decide +kernel)
def codes1 : List Jvm.Cond := [Jvm.Cond.code x code maxLocals ret, Jvm.Cond.code ({ cls := "reenact/trace/IntList", name := "<init>", desc := "()V" } : Jvm.MethodName) prog_150_method_1_code (1 : Nat) (Option.none : Option Jvm.ClassFile.FieldType), Jvm.Cond.code ({ cls := "java/lang/Object", name := "<init>", desc := "()V" } : Jvm.MethodName) object_method_1_code (1 : Nat) (Option.none : Option Jvm.ClassFile.FieldType), Jvm.Cond.code ({ cls := "reenact/trace/IntList", name := "add", desc := "(I)V" } : Jvm.MethodName) prog_150_method_2_code (2 : Nat) (Option.none : Option Jvm.ClassFile.FieldType), Jvm.Cond.code ({ cls := "reenact/trace/IntList", name := "addWide", desc := "(J)V" } : Jvm.MethodName) prog_150_method_4_code (3 : Nat) (Option.none : Option Jvm.ClassFile.FieldType), Jvm.Cond.code ({ cls := "reenact/trace/IntList", name := "getWide", desc := "(I)J" } : Jvm.MethodName) prog_150_method_5_code (2 : Nat) (Option.some Jvm.ClassFile.FieldType.long), Jvm.Cond.code ({ cls := "reenact/trace/IntList", name := "size", desc := "()I" } : Jvm.MethodName) prog_150_method_6_code (1 : Nat) (Option.some Jvm.ClassFile.FieldType.int), Jvm.Cond.code ({ cls := "java/util/Arrays", name := "copyOf", desc := "([II)[I" } : Jvm.MethodName) jdk_65_method_123_code (3 : Nat) (Option.some (Jvm.ClassFile.FieldType.array Jvm.ClassFile.FieldType.int)), Jvm.Cond.code ({ cls := "java/lang/Math", name := "min", desc := "(II)I" } : Jvm.MethodName) jdk_29_method_69_code (2 : Nat) (Option.some Jvm.ClassFile.FieldType.int)]
set_option maxRecDepth 65536 in
theorem codes_eq : words1.filter isCode = codes1 := rfl
theorem w_codes : ∀ c ∈ words1.filter isCode, c.before args0 about1 = true := by
  rw [codes_eq]
  intro c hc
  simp only [codes1, List.mem_cons, List.not_mem_nil, or_false] at hc
  rcases hc with rfl | rfl | rfl | rfl | rfl | rfl | rfl | rfl | rfl
  · exact w_c0
  · exact w_c1
  · exact w_c2
  · exact w_c3
  · exact w_c4
  · exact w_c5
  · exact w_c6
  · exact w_c7
  · exact w_c8
set_option maxRecDepth 65536 in
theorem w_t1 : (words1.take 24).all (fun c => isCode c || c.before args0 about1) = true := by decide +kernel
set_option maxRecDepth 65536 in
theorem w_t2 : ((words1.drop 24).take 24).all (fun c => isCode c || c.before args0 about1) = true := by decide +kernel
set_option maxRecDepth 65536 in
theorem w_t3 : ((words1.drop 24).drop 24).all (fun c => isCode c || c.before args0 about1) = true := by decide +kernel
theorem w_tables : (allAtoms (Jvm.Cond.code x code maxLocals ret :: tables_1)).before args0 about1 = true := by
  rw [allAtoms_all]
  show words1.all (fun c => c.before args0 about1) = true
  refine all_split ?_ w_codes
  rw [← List.take_append_drop 24 words1, List.all_append, w_t1, ← List.take_append_drop 24 (words1.drop 24), List.all_append, w_t2, w_t3]
  rfl
set_option maxRecDepth 65536 in
theorem w_case : (Jvm.Cond.and given_1 narrow_1).before args0 about1 = true := by decide +kernel
theorem w_applies : (headSpec (Jvm.Cond.code x code maxLocals ret :: tables_1) room_1).applies x e0.platform about1 = true :=
  (Spec.applies_iff w_frames).mpr ⟨w_running, w_runnable, w_alone, w_named, w_hears, w_ripe, w_room, w_tables⟩
theorem atStart : AtStart classFile x code maxLocals ret World_1 tables_1 room_1 Calls_1 rest_1 Pre_1 launch0 p0 e0 about1 theMethod args0 below0 :=
  ⟨lists_1, trivial, launch0.admits_env _ _ _, launch0.least_env, fairChoices_fair.cas, fairChoices_fair.clock, w_frames, w_args, w_heap, w_applies, trivial, trivial, w_case⟩
end start1
theorem witness_1 : WitnessClaimed_1 := ⟨start1.p0, start1.e0, start1.about1, start1.theMethod, start1.args0, start1.below0, start1.atStart⟩
end Jvm.Pilot.@@N@@
