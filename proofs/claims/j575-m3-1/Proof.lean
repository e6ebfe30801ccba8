import JvmDerived
import JvmDerived.Pilot.@@N@@Statement
import JvmDerived.Pilot.@@N@@Code
set_option linter.unusedVariables false
set_option linter.unusedSimpArgs false
namespace Jvm.RoadKit
open Sem ClassFile Op Lib Jvm.Stand Jvm.Free Jvm.LawKit
section New
variable {p : Program} {l : Launch} {e : Env} {R : Room} {s : State} {m : MethodId} {args : Array Value} {below : List Frame} {meth : Method} {c : Code} {T : State} {locs : List Loc} {cells slots : Nat}
theorem retI (X : Stand p l e R s m args below meth c T locs cells slots) (hx : p.tables.exec = Jvm.exec) {pc : Nat} {Ls : Array Slot} {z : Int32} {rest : List Value} (hret : meth.sig.returnType = some .int) (hd : decode c.code pc = .ok (.ireturn, 1)) {fs : List Frame}
    (hl : ∀ (f : JFrame) (acts : List Action), f.method = m → f.locked = none → f.entered = [] → (doReturn e (T.setTop f) acts (some (.int z))).1 = T.setFrames fs) : Steps p.tables e below (T.setTop (mkF m pc Ls (.int z :: rest))) (T.setFrames fs) := by
  have hm' : T.vm.method? m = some meth := X.method'
  have hn : narrow .int (.int z) = .int z := rfl
  show Steps p.tables e below (T.setTop { method := m, pc := pc, locals := Ls, stack := _ :: rest, locked := none }) _
  jvm_step X.here [X.here.top, hx, hd, hm', hret, hn]
  first | (intro acts; rw [hl _ acts rfl rfl rfl]) | rw [hl _ _ rfl rfl rfl]
  exact Steps.refl _
end New
end Jvm.RoadKit
namespace Jvm.Pilot.@@N@@
open Jvm Jvm.ClassFile Sem Op Lib Jvm.Free Jvm.Stand Jvm.LawKit Jvm.RoadKit Bundle Jvm.Pilot.@@N@@.Jvm.D

theorem wi {Z : State} {a0 : Array Value} (hw : ∀ d ∈ tables_1, d.before a0 Z = true) (i : Nat) {d : Jvm.Cond} (h : tables_1[i]? = some d) : d.before a0 Z = true := hw d (List.mem_of_getElem? h)
section OwnKit
variable {p : Program} {l : Launch} {e : Env} {R : Room} {s : State} {m : MethodId} {args : Array Value} {below : List Frame} {meth : Method} {c : Code} {bs : ByteArray} {st : State} {n0 cells slots : Nat} {P P' : Heap → Prop} {pc pc' : Nat} {L L' : Array Slot} {S S' : List Value} {Z : State} {a0 : Array Value} {own : String}
/-- where a walk stands: some state T reached from st, with what is known of its heap -/
def Sit (p : Program) (l : Launch) (e : Env) (R : Room) (s : State) (m : MethodId) (args : Array Value) (below : List Frame) (meth : Method) (c : Code) (bs : ByteArray) (st : State) (n0 cells slots : Nat) (P : Heap → Prop) (pc : Nat) (L : Array Slot) (S : List Value) : Prop :=
  ∃ (T : State) (locs : List Loc) (k n : Nat), Stand p l e R s m args below meth c T locs k n ∧ k ≤ cells ∧ n ≤ slots ∧ Fr n0 locs ∧ n0 ≤ s.heap.size ∧ P T.heap ∧ p.tables.exec = Jvm.exec ∧ c.code = bs ∧ ∀ t, Steps p.tables e below (T.setTop (mkF m pc L S)) t → Steps p.tables e below st t
theorem Sit.go (h : Sit p l e R s m args below meth c bs st n0 cells slots P pc L S)
    (f : ∀ T locs k n, Stand p l e R s m args below meth c T locs k n → p.tables.exec = Jvm.exec → c.code = bs → P T.heap → ∀ t, Steps p.tables e below (T.setTop (mkF m pc' L' S')) t → Steps p.tables e below (T.setTop (mkF m pc L S)) t) :
    Sit p l e R s m args below meth c bs st n0 cells slots P pc' L' S' := by
  obtain ⟨T, locs, k, n, X, q1, q2, q3, q4, q5, hx, hby, q⟩ := h
  exact ⟨T, locs, k, n, X, q1, q2, q3, q4, q5, hx, hby, fun t z => q t (f T locs k n X hx hby q5 t z)⟩
theorem Sit.mono (h : Sit p l e R s m args below meth c bs st n0 cells slots P pc L S) (f : ∀ hh, P hh → P' hh) : Sit p l e R s m args below meth c bs st n0 cells slots P' pc L S := by
  obtain ⟨T, locs, k, n, X, q1, q2, q3, q4, q5, r⟩ := h
  exact ⟨T, locs, k, n, X, q1, q2, q3, q4, f _ q5, r⟩
theorem Sit.bound {cells' slots' : Nat} (h : Sit p l e R s m args below meth c bs st n0 cells slots P pc L S) (h1 : cells ≤ cells') (h2 : slots ≤ slots') : Sit p l e R s m args below meth c bs st n0 cells' slots' P pc L S := by
  obtain ⟨T, locs, k, n, X, q1, q2, r⟩ := h
  exact ⟨T, locs, k, n, X, Nat.le_trans q1 h1, Nat.le_trans q2 h2, r⟩
theorem Sit.facts (h : Sit p l e R s m args below meth c bs st n0 cells slots P pc L S) : ∃ hh, P hh := by
  obtain ⟨T, locs, k, n, X, q1, q2, q3, q4, q5, r⟩ := h
  exact ⟨_, q5⟩
theorem Sit.ex {α : Type} {Q : α → Heap → Prop} (h : Sit p l e R s m args below meth c bs st n0 cells slots (fun hh => ∃ x, Q x hh) pc L S) : ∃ x, Sit p l e R s m args below meth c bs st n0 cells slots (Q x) pc L S := by
  obtain ⟨T, locs, k, n, X, q1, q2, q3, q4, ⟨x, q5⟩, r⟩ := h
  exact ⟨x, T, locs, k, n, X, q1, q2, q3, q4, q5, r⟩
theorem Sit.size (h : Sit p l e R s m args below meth c bs st n0 cells slots P pc L S) : Sit p l e R s m args below meth c bs st n0 cells slots (fun hh => P hh ∧ n0 ≤ hh.size) pc L S := by
  obtain ⟨T, locs, k, n, X, q1, q2, q3, q4, q5, r⟩ := h
  exact ⟨T, locs, k, n, X, q1, q2, q3, q4, ⟨q5, Nat.le_trans q4 X.same.2.1⟩, r⟩
/-! plain steps -/
theorem Sit.iload {k : Nat} {v : Int32} (h : Sit p l e R s m args below meth c bs st n0 cells slots P pc L S) (hd : decode bs pc = .ok (.iload k, 2)) (hl : L[k]? = some (.val (.int v))) (hp : pc + 2 = pc') : Sit p l e R s m args below meth c bs st n0 cells slots P pc' L (.int v :: S) := by
  subst hp; exact h.go fun T _ _ _ X hx hby _ t z => XS.iload X.here hx rfl (hb hby hd) hl z
theorem Sit.iloadN {k : Fin 4} {v : Int32} (h : Sit p l e R s m args below meth c bs st n0 cells slots P pc L S) (hd : decode bs pc = .ok (.iload_n k, 1)) (hl : L[k.val]? = some (.val (.int v))) (hp : pc + 1 = pc') : Sit p l e R s m args below meth c bs st n0 cells slots P pc' L (.int v :: S) := by
  subst hp; exact h.go fun T _ _ _ X hx hby _ t z => XS.iloadN X.here hx rfl (hb hby hd) hl z
theorem Sit.lload {k : Nat} {v : Int64} (h : Sit p l e R s m args below meth c bs st n0 cells slots P pc L S) (hd : decode bs pc = .ok (.lload k, 2)) (hl : L[k]? = some (.val (.long v))) (hp : pc + 2 = pc') : Sit p l e R s m args below meth c bs st n0 cells slots P pc' L (.long v :: S) := by
  subst hp; exact h.go fun T _ _ _ X hx hby _ t z => XS.lload X.here hx rfl (hb hby hd) hl z
theorem Sit.lloadN {k : Fin 4} {v : Int64} (h : Sit p l e R s m args below meth c bs st n0 cells slots P pc L S) (hd : decode bs pc = .ok (.lload_n k, 1)) (hl : L[k.val]? = some (.val (.long v))) (hp : pc + 1 = pc') : Sit p l e R s m args below meth c bs st n0 cells slots P pc' L (.long v :: S) := by
  subst hp; exact h.go fun T _ _ _ X hx hby _ t z => XS.lloadN X.here hx rfl (hb hby hd) hl z
theorem Sit.aload {k : Nat} {v : Addr} (h : Sit p l e R s m args below meth c bs st n0 cells slots P pc L S) (hd : decode bs pc = .ok (.aload k, 2)) (hl : L[k]? = some (.val (.ref v))) (hp : pc + 2 = pc') : Sit p l e R s m args below meth c bs st n0 cells slots P pc' L (.ref v :: S) := by
  subst hp; exact h.go fun T _ _ _ X hx hby _ t z => XS.aload X.here hx rfl (hb hby hd) hl rfl z
theorem Sit.aloadN {k : Fin 4} {v : Addr} (h : Sit p l e R s m args below meth c bs st n0 cells slots P pc L S) (hd : decode bs pc = .ok (.aload_n k, 1)) (hl : L[k.val]? = some (.val (.ref v))) (hp : pc + 1 = pc') : Sit p l e R s m args below meth c bs st n0 cells slots P pc' L (.ref v :: S) := by
  subst hp; exact h.go fun T _ _ _ X hx hby _ t z => XS.aloadN X.here hx rfl (hb hby hd) hl rfl z
theorem Sit.istore {k : Nat} {v : Int32} (L' : Array Slot) (h : Sit p l e R s m args below meth c bs st n0 cells slots P pc L (.int v :: S)) (hd : decode bs pc = .ok (.istore k, 2)) (hl : storeLocals L k (.int v) = some L') (hp : pc + 2 = pc') : Sit p l e R s m args below meth c bs st n0 cells slots P pc' L' S := by
  subst hp; exact h.go fun T _ _ _ X hx hby _ t z => XS.istore X.here hx rfl (hb hby hd) rfl hl z
theorem Sit.istoreN {k : Fin 4} {v : Int32} (L' : Array Slot) (h : Sit p l e R s m args below meth c bs st n0 cells slots P pc L (.int v :: S)) (hd : decode bs pc = .ok (.istore_n k, 1)) (hl : storeLocals L k.val (.int v) = some L') (hp : pc + 1 = pc') : Sit p l e R s m args below meth c bs st n0 cells slots P pc' L' S := by
  subst hp; exact h.go fun T _ _ _ X hx hby _ t z => XS.istoreN X.here hx rfl (hb hby hd) rfl hl z
theorem Sit.lstore {k : Nat} {v : Int64} (L' : Array Slot) (h : Sit p l e R s m args below meth c bs st n0 cells slots P pc L (.long v :: S)) (hd : decode bs pc = .ok (.lstore k, 2)) (hl : storeLocals L k (.long v) = some L') (hp : pc + 2 = pc') : Sit p l e R s m args below meth c bs st n0 cells slots P pc' L' S := by
  subst hp; exact h.go fun T _ _ _ X hx hby _ t z => XS.lstore X.here hx rfl (hb hby hd) rfl hl z
theorem Sit.lstoreN {k : Fin 4} {v : Int64} (L' : Array Slot) (h : Sit p l e R s m args below meth c bs st n0 cells slots P pc L (.long v :: S)) (hd : decode bs pc = .ok (.lstore_n k, 1)) (hl : storeLocals L k.val (.long v) = some L') (hp : pc + 1 = pc') : Sit p l e R s m args below meth c bs st n0 cells slots P pc' L' S := by
  subst hp; exact h.go fun T _ _ _ X hx hby _ t z => XS.lstoreN X.here hx rfl (hb hby hd) rfl hl z
theorem Sit.astore {k : Nat} {v : Addr} (L' : Array Slot) (h : Sit p l e R s m args below meth c bs st n0 cells slots P pc L (.ref v :: S)) (hd : decode bs pc = .ok (.astore k, 2)) (hl : storeLocals L k (.ref v) = some L') (hp : pc + 2 = pc') : Sit p l e R s m args below meth c bs st n0 cells slots P pc' L' S := by
  subst hp; exact h.go fun T _ _ _ X hx hby _ t z => XS.astore X.here hx rfl (hb hby hd) rfl rfl hl z
theorem Sit.astoreN {k : Fin 4} {v : Addr} (L' : Array Slot) (h : Sit p l e R s m args below meth c bs st n0 cells slots P pc L (.ref v :: S)) (hd : decode bs pc = .ok (.astore_n k, 1)) (hl : storeLocals L k.val (.ref v) = some L') (hp : pc + 1 = pc') : Sit p l e R s m args below meth c bs st n0 cells slots P pc' L' S := by
  subst hp; exact h.go fun T _ _ _ X hx hby _ t z => XS.astoreN X.here hx rfl (hb hby hd) rfl rfl hl z
theorem Sit.iconst {i : Int} (v : Int32) (h : Sit p l e R s m args below meth c bs st n0 cells slots P pc L S) (hd : decode bs pc = .ok (.iconst i, 1)) (hv : Int32.ofInt i = v) (hp : pc + 1 = pc') : Sit p l e R s m args below meth c bs st n0 cells slots P pc' L (.int v :: S) := by
  subst hp hv; exact h.go fun T _ _ _ X hx hby _ t z => XS.iconst X.here hx rfl (hb hby hd) z
theorem Sit.bipush {i : Int} (v : Int32) (h : Sit p l e R s m args below meth c bs st n0 cells slots P pc L S) (hd : decode bs pc = .ok (.bipush i, 2)) (hv : (Int8.ofInt i).toInt32 = v) (hp : pc + 2 = pc') : Sit p l e R s m args below meth c bs st n0 cells slots P pc' L (.int v :: S) := by
  subst hp hv; exact h.go fun T _ _ _ X hx hby _ t z => XS.bipush X.here hx rfl (hb hby hd) z
theorem Sit.sipush {i : Int} (v : Int32) (h : Sit p l e R s m args below meth c bs st n0 cells slots P pc L S) (hd : decode bs pc = .ok (.sipush i, 3)) (hv : (Int16.ofInt i).toInt32 = v) (hp : pc + 3 = pc') : Sit p l e R s m args below meth c bs st n0 cells slots P pc' L (.int v :: S) := by
  subst hp hv; exact h.go fun T _ _ _ X hx hby _ t z => XS.sipush X.here hx rfl (hb hby hd) z
theorem Sit.lconst {k : Fin 2} (v : Int64) (h : Sit p l e R s m args below meth c bs st n0 cells slots P pc L S) (hd : decode bs pc = .ok (.lconst k, 1)) (hv : Int64.ofNat k = v) (hp : pc + 1 = pc') : Sit p l e R s m args below meth c bs st n0 cells slots P pc' L (.long v :: S) := by
  subst hp hv; exact h.go fun T _ _ _ X hx hby _ t z => XS.lconst X.here hx rfl (hb hby hd) z
theorem Sit.ldc {index : Nat} {v : Int32} (h : Sit p l e R s m args below meth c bs st n0 cells slots P pc L S) (hZ : Z.Warmed39 s.vm) (hown : s.vm.findClass own = some m.cls) (w : (Cond.constant own index v).before a0 Z = true) (hd : decode bs pc = .ok (.ldc index, 2)) (hp : pc + 2 = pc') : Sit p l e R s m args below meth c bs st n0 cells slots P pc' L (.int v :: S) := by
  subst hp; exact h.go fun T _ _ _ X hx hby _ t z => X.ldcInt hx hown (mvT hZ w) (g := mkF m pc L S) rfl (hb hby hd) t z
theorem Sit.ldcw {index : Nat} {v : Int32} (h : Sit p l e R s m args below meth c bs st n0 cells slots P pc L S) (hZ : Z.Warmed39 s.vm) (hown : s.vm.findClass own = some m.cls) (w : (Cond.constant own index v).before a0 Z = true) (hd : decode bs pc = .ok (.ldc_w index, 3)) (hp : pc + 3 = pc') : Sit p l e R s m args below meth c bs st n0 cells slots P pc' L (.int v :: S) := by
  subst hp; exact h.go fun T _ _ _ X hx hby _ t z => X.ldcwInt hx hown (mvT hZ w) (g := mkF m pc L S) rfl (hb hby hd) t z
theorem Sit.ldc2 {index : Nat} {v : Int64} (h : Sit p l e R s m args below meth c bs st n0 cells slots P pc L S) (hZ : Z.Warmed39 s.vm) (hown : s.vm.findClass own = some m.cls) (w : (Cond.constantLong own index v).before a0 Z = true) (hd : decode bs pc = .ok (.ldc2_w index, 3)) (hp : pc + 3 = pc') : Sit p l e R s m args below meth c bs st n0 cells slots P pc' L (.long v :: S) := by
  subst hp; exact h.go fun T _ _ _ X hx hby _ t z => X.ldc2Long hx hown (mvT hZ w) (g := mkF m pc L S) rfl (hb hby hd) t z
/-! Java's shifts on longs and >>> on ints -/
def ushr32 (x y : Int32) : Int32 := (x.toUInt32 >>> (y &&& 31).toUInt32).toInt32
def shl64 (x : Int64) (y : Int32) : Int64 := x <<< (y &&& 0x3f).toInt64
def ushr64 (x : Int64) (y : Int32) : Int64 := (x.toUInt64 >>> (y &&& 0x3f).toInt64.toUInt64).toInt64
def lcmp3 (x y : Int64) : Int32 := if x > y then 1 else if x = y then 0 else -1
theorem Sit.iadd {x : Int32} {y : Int32} (h : Sit p l e R s m args below meth c bs st n0 cells slots P pc L (.int y :: .int x :: S)) (hd : decode bs pc = .ok (.iadd, 1)) (hp : pc + 1 = pc') : Sit p l e R s m args below meth c bs st n0 cells slots P pc' L (.int (x + y) :: S) := by
  subst hp; exact h.go fun T _ _ _ X hx hby _ t z => XS.iadd X.here hx rfl (hb hby hd) rfl z
theorem Sit.isub {x : Int32} {y : Int32} (h : Sit p l e R s m args below meth c bs st n0 cells slots P pc L (.int y :: .int x :: S)) (hd : decode bs pc = .ok (.isub, 1)) (hp : pc + 1 = pc') : Sit p l e R s m args below meth c bs st n0 cells slots P pc' L (.int (x - y) :: S) := by
  subst hp; exact h.go fun T _ _ _ X hx hby _ t z => XS.isub X.here hx rfl (hb hby hd) rfl z
theorem Sit.imul {x : Int32} {y : Int32} (h : Sit p l e R s m args below meth c bs st n0 cells slots P pc L (.int y :: .int x :: S)) (hd : decode bs pc = .ok (.imul, 1)) (hp : pc + 1 = pc') : Sit p l e R s m args below meth c bs st n0 cells slots P pc' L (.int (x * y) :: S) := by
  subst hp; exact h.go fun T _ _ _ X hx hby _ t z => XS.imul X.here hx rfl (hb hby hd) rfl z
theorem Sit.iand {x : Int32} {y : Int32} (h : Sit p l e R s m args below meth c bs st n0 cells slots P pc L (.int y :: .int x :: S)) (hd : decode bs pc = .ok (.iand, 1)) (hp : pc + 1 = pc') : Sit p l e R s m args below meth c bs st n0 cells slots P pc' L (.int (x &&& y) :: S) := by
  subst hp; exact h.go fun T _ _ _ X hx hby _ t z => XS.iand X.here hx rfl (hb hby hd) rfl z
theorem Sit.ior {x : Int32} {y : Int32} (h : Sit p l e R s m args below meth c bs st n0 cells slots P pc L (.int y :: .int x :: S)) (hd : decode bs pc = .ok (.ior, 1)) (hp : pc + 1 = pc') : Sit p l e R s m args below meth c bs st n0 cells slots P pc' L (.int (x ||| y) :: S) := by
  subst hp; exact h.go fun T _ _ _ X hx hby _ t z => XS.ior X.here hx rfl (hb hby hd) rfl z
theorem Sit.ixor {x : Int32} {y : Int32} (h : Sit p l e R s m args below meth c bs st n0 cells slots P pc L (.int y :: .int x :: S)) (hd : decode bs pc = .ok (.ixor, 1)) (hp : pc + 1 = pc') : Sit p l e R s m args below meth c bs st n0 cells slots P pc' L (.int (x ^^^ y) :: S) := by
  subst hp; exact h.go fun T _ _ _ X hx hby _ t z => XS.ixor X.here hx rfl (hb hby hd) rfl z
theorem Sit.ishl {x : Int32} {y : Int32} (h : Sit p l e R s m args below meth c bs st n0 cells slots P pc L (.int y :: .int x :: S)) (hd : decode bs pc = .ok (.ishl, 1)) (hp : pc + 1 = pc') : Sit p l e R s m args below meth c bs st n0 cells slots P pc' L (.int (x <<< (y &&& 31)) :: S) := by
  subst hp; exact h.go fun T _ _ _ X hx hby _ t z => XS.ishl X.here hx rfl (hb hby hd) rfl z
theorem Sit.ishr {x : Int32} {y : Int32} (h : Sit p l e R s m args below meth c bs st n0 cells slots P pc L (.int y :: .int x :: S)) (hd : decode bs pc = .ok (.ishr, 1)) (hp : pc + 1 = pc') : Sit p l e R s m args below meth c bs st n0 cells slots P pc' L (.int (x >>> (y &&& 31)) :: S) := by
  subst hp; exact h.go fun T _ _ _ X hx hby _ t z => XS.ishr X.here hx rfl (hb hby hd) rfl z
theorem Sit.iushr {x : Int32} {y : Int32} (h : Sit p l e R s m args below meth c bs st n0 cells slots P pc L (.int y :: .int x :: S)) (hd : decode bs pc = .ok (.iushr, 1)) (hp : pc + 1 = pc') : Sit p l e R s m args below meth c bs st n0 cells slots P pc' L (.int (ushr32 x y) :: S) := by
  subst hp; exact h.go fun T _ _ _ X hx hby _ t z => XS.iushr X.here hx rfl (hb hby hd) rfl z
theorem Sit.ladd {x : Int64} {y : Int64} (h : Sit p l e R s m args below meth c bs st n0 cells slots P pc L (.long y :: .long x :: S)) (hd : decode bs pc = .ok (.ladd, 1)) (hp : pc + 1 = pc') : Sit p l e R s m args below meth c bs st n0 cells slots P pc' L (.long (x + y) :: S) := by
  subst hp; exact h.go fun T _ _ _ X hx hby _ t z => XS.ladd X.here hx rfl (hb hby hd) rfl z
theorem Sit.lsub {x : Int64} {y : Int64} (h : Sit p l e R s m args below meth c bs st n0 cells slots P pc L (.long y :: .long x :: S)) (hd : decode bs pc = .ok (.lsub, 1)) (hp : pc + 1 = pc') : Sit p l e R s m args below meth c bs st n0 cells slots P pc' L (.long (x - y) :: S) := by
  subst hp; exact h.go fun T _ _ _ X hx hby _ t z => XS.lsub X.here hx rfl (hb hby hd) rfl z
theorem Sit.lmul {x : Int64} {y : Int64} (h : Sit p l e R s m args below meth c bs st n0 cells slots P pc L (.long y :: .long x :: S)) (hd : decode bs pc = .ok (.lmul, 1)) (hp : pc + 1 = pc') : Sit p l e R s m args below meth c bs st n0 cells slots P pc' L (.long (x * y) :: S) := by
  subst hp; exact h.go fun T _ _ _ X hx hby _ t z => XS.lmul X.here hx rfl (hb hby hd) rfl z
theorem Sit.land {x : Int64} {y : Int64} (h : Sit p l e R s m args below meth c bs st n0 cells slots P pc L (.long y :: .long x :: S)) (hd : decode bs pc = .ok (.land, 1)) (hp : pc + 1 = pc') : Sit p l e R s m args below meth c bs st n0 cells slots P pc' L (.long (x &&& y) :: S) := by
  subst hp; exact h.go fun T _ _ _ X hx hby _ t z => XS.land X.here hx rfl (hb hby hd) rfl z
theorem Sit.lor {x : Int64} {y : Int64} (h : Sit p l e R s m args below meth c bs st n0 cells slots P pc L (.long y :: .long x :: S)) (hd : decode bs pc = .ok (.lor, 1)) (hp : pc + 1 = pc') : Sit p l e R s m args below meth c bs st n0 cells slots P pc' L (.long (x ||| y) :: S) := by
  subst hp; exact h.go fun T _ _ _ X hx hby _ t z => XS.lor X.here hx rfl (hb hby hd) rfl z
theorem Sit.lxor {x : Int64} {y : Int64} (h : Sit p l e R s m args below meth c bs st n0 cells slots P pc L (.long y :: .long x :: S)) (hd : decode bs pc = .ok (.lxor, 1)) (hp : pc + 1 = pc') : Sit p l e R s m args below meth c bs st n0 cells slots P pc' L (.long (x ^^^ y) :: S) := by
  subst hp; exact h.go fun T _ _ _ X hx hby _ t z => XS.lxor X.here hx rfl (hb hby hd) rfl z
theorem Sit.lshl {x : Int64} {y : Int32} (h : Sit p l e R s m args below meth c bs st n0 cells slots P pc L (.int y :: .long x :: S)) (hd : decode bs pc = .ok (.lshl, 1)) (hp : pc + 1 = pc') : Sit p l e R s m args below meth c bs st n0 cells slots P pc' L (.long (shl64 x y) :: S) := by
  subst hp; exact h.go fun T _ _ _ X hx hby _ t z => XS.lshl X.here hx rfl (hb hby hd) rfl z
theorem Sit.lushr {x : Int64} {y : Int32} (h : Sit p l e R s m args below meth c bs st n0 cells slots P pc L (.int y :: .long x :: S)) (hd : decode bs pc = .ok (.lushr, 1)) (hp : pc + 1 = pc') : Sit p l e R s m args below meth c bs st n0 cells slots P pc' L (.long (ushr64 x y) :: S) := by
  subst hp; exact h.go fun T _ _ _ X hx hby _ t z => XS.lushr X.here hx rfl (hb hby hd) rfl z
theorem Sit.lcmp {x : Int64} {y : Int64} (h : Sit p l e R s m args below meth c bs st n0 cells slots P pc L (.long y :: .long x :: S)) (hd : decode bs pc = .ok (.lcmp, 1)) (hp : pc + 1 = pc') : Sit p l e R s m args below meth c bs st n0 cells slots P pc' L (.int (lcmp3 x y) :: S) := by
  subst hp; exact h.go fun T _ _ _ X hx hby _ t z => XS.lcmp X.here hx rfl (hb hby hd) rfl z
theorem Sit.i2l {x : Int32} (h : Sit p l e R s m args below meth c bs st n0 cells slots P pc L (.int x :: S)) (hd : decode bs pc = .ok (.i2l, 1)) (hp : pc + 1 = pc') : Sit p l e R s m args below meth c bs st n0 cells slots P pc' L (.long (x.toInt64) :: S) := by
  subst hp; exact h.go fun T _ _ _ X hx hby _ t z => XS.i2l X.here hx rfl (hb hby hd) rfl z
theorem Sit.l2i {x : Int64} (h : Sit p l e R s m args below meth c bs st n0 cells slots P pc L (.long x :: S)) (hd : decode bs pc = .ok (.l2i, 1)) (hp : pc + 1 = pc') : Sit p l e R s m args below meth c bs st n0 cells slots P pc' L (.int (x.toInt32) :: S) := by
  subst hp; exact h.go fun T _ _ _ X hx hby _ t z => XS.l2i X.here hx rfl (hb hby hd) rfl z
theorem Sit.i2b {x : Int32} (h : Sit p l e R s m args below meth c bs st n0 cells slots P pc L (.int x :: S)) (hd : decode bs pc = .ok (.i2b, 1)) (hp : pc + 1 = pc') : Sit p l e R s m args below meth c bs st n0 cells slots P pc' L (.int (x.toInt8.toInt32) :: S) := by
  subst hp; exact h.go fun T _ _ _ X hx hby _ t z => XS.i2b X.here hx rfl (hb hby hd) rfl z
theorem Sit.ineg {x : Int32} (h : Sit p l e R s m args below meth c bs st n0 cells slots P pc L (.int x :: S)) (hd : decode bs pc = .ok (.ineg, 1)) (hp : pc + 1 = pc') : Sit p l e R s m args below meth c bs st n0 cells slots P pc' L (.int (-x) :: S) := by
  subst hp; exact h.go fun T _ _ _ X hx hby _ t z => XS.ineg X.here hx rfl (hb hby hd) rfl z
theorem Sit.idiv {x y : Int32} (h : Sit p l e R s m args below meth c bs st n0 cells slots P pc L (.int y :: .int x :: S)) (hd : decode bs pc = .ok (.idiv, 1)) (hy : y ≠ 0) (hp : pc + 1 = pc') : Sit p l e R s m args below meth c bs st n0 cells slots P pc' L (.int (x / y) :: S) := by
  subst hp; exact h.go fun T _ _ _ X hx hby _ t z => XS.idiv X.here hx rfl (hb hby hd) rfl hy z
theorem Sit.irem {x y : Int32} (h : Sit p l e R s m args below meth c bs st n0 cells slots P pc L (.int y :: .int x :: S)) (hd : decode bs pc = .ok (.irem, 1)) (hy : y ≠ 0) (hp : pc + 1 = pc') : Sit p l e R s m args below meth c bs st n0 cells slots P pc' L (.int (x % y) :: S) := by
  subst hp; exact h.go fun T _ _ _ X hx hby _ t z => iremM X hx rfl (hb hby hd) rfl hy z
theorem Sit.lrem {x y : Int64} (h : Sit p l e R s m args below meth c bs st n0 cells slots P pc L (.long y :: .long x :: S)) (hd : decode bs pc = .ok (.lrem, 1)) (hy : y ≠ 0) (hp : pc + 1 = pc') : Sit p l e R s m args below meth c bs st n0 cells slots P pc' L (.long (x % y) :: S) := by
  subst hp; rw [← lrem_mod]; exact h.go fun T _ _ _ X hx hby _ t z => XS.lrem X.here hx rfl (hb hby hd) rfl hy z
theorem Sit.iinc {k : Nat} {i : Int} {x : Int32} (v : Int32) (L' : Array Slot) (h : Sit p l e R s m args below meth c bs st n0 cells slots P pc L S) (hd : decode bs pc = .ok (.iinc k i, 3)) (hl : L[k]? = some (.val (.int x))) (hv : x + Int32.ofInt i = v) (hl' : storeLocals L k (.int v) = some L') (hp : pc + 3 = pc') : Sit p l e R s m args below meth c bs st n0 cells slots P pc' L' S := by
  subst hp hv; exact h.go fun T _ _ _ X hx hby _ t z => XS.iinc X.here hx rfl (hb hby hd) hl hl' z
theorem Sit.dup {x : Value} (h : Sit p l e R s m args below meth c bs st n0 cells slots P pc L (x :: S)) (hd : decode bs pc = .ok (.dup, 1)) (hc : x.category = 1) (hp : pc + 1 = pc') : Sit p l e R s m args below meth c bs st n0 cells slots P pc' L (x :: x :: S) := by
  subst hp; exact h.go fun T _ _ _ X hx hby _ t z => XS.dup X.here hx rfl (hb hby hd) rfl hc z
theorem Sit.dupX1 {x y : Value} (h : Sit p l e R s m args below meth c bs st n0 cells slots P pc L (x :: y :: S)) (hd : decode bs pc = .ok (.dup_x1, 1)) (hc : x.category = 1) (hc' : y.category = 1) (hp : pc + 1 = pc') : Sit p l e R s m args below meth c bs st n0 cells slots P pc' L (x :: y :: x :: S) := by
  subst hp; exact h.go fun T _ _ _ X hx hby _ t z => XS.dupX1 X.here hx rfl (hb hby hd) rfl hc hc' z
theorem Sit.dup2 {x y : Value} (h : Sit p l e R s m args below meth c bs st n0 cells slots P pc L (x :: y :: S)) (hd : decode bs pc = .ok (.dup2, 1)) (hc : x.category = 1) (hc' : y.category = 1) (hp : pc + 1 = pc') : Sit p l e R s m args below meth c bs st n0 cells slots P pc' L (x :: y :: x :: y :: S) := by
  subst hp; exact h.go fun T _ _ _ X hx hby _ t z => Jvm.Free.XT.dup2 X.here hx rfl (hb hby hd) rfl hc hc' z
theorem Sit.pop {x : Value} (h : Sit p l e R s m args below meth c bs st n0 cells slots P pc L (x :: S)) (hd : decode bs pc = .ok (.pop, 1)) (hc : x.category = 1) (hp : pc + 1 = pc') : Sit p l e R s m args below meth c bs st n0 cells slots P pc' L S := by
  subst hp; exact h.go fun T _ _ _ X hx hby _ t z => XS.pop X.here hx rfl (hb hby hd) rfl hc z
theorem Sit.goto {o : Int} (h : Sit p l e R s m args below meth c bs st n0 cells slots P pc L S) (hd : decode bs pc = .ok (.goto o, 3)) (ho : 0 ≤ (pc : Int) + o) (hp : ((pc : Int) + o).toNat = pc') : Sit p l e R s m args below meth c bs st n0 cells slots P pc' L S :=
  h.go fun T _ _ _ X hx hby _ t z => XS.goto X.here hx rfl (pc0 := pc) rfl (hb hby hd) ho hp z
theorem Sit.ifY {cd : ClassFile.Cond} {x : Int32} {o : Int} (h : Sit p l e R s m args below meth c bs st n0 cells slots P pc L (.int x :: S)) (hd : decode bs pc = .ok (.ifCond cd o, 3)) (hc : if_icmp.holds cd x 0 = true) (ho : 0 ≤ (pc : Int) + o) (hp : ((pc : Int) + o).toNat = pc') : Sit p l e R s m args below meth c bs st n0 cells slots P pc' L S :=
  h.go fun T _ _ _ X hx hby _ t z => XS.ifYes X.here hx rfl (pc0 := pc) rfl (hb hby hd) rfl ((if0 _ _).trans hc) ho hp z
theorem Sit.ifN {cd : ClassFile.Cond} {x : Int32} {o : Int} (h : Sit p l e R s m args below meth c bs st n0 cells slots P pc L (.int x :: S)) (hd : decode bs pc = .ok (.ifCond cd o, 3)) (hc : if_icmp.holds cd x 0 = false) (hp : pc + 3 = pc') : Sit p l e R s m args below meth c bs st n0 cells slots P pc' L S := by
  subst hp; exact h.go fun T _ _ _ X hx hby _ t z => XS.ifNo X.here hx rfl (hb hby hd) rfl ((if0 _ _).trans hc) z
theorem Sit.icmpY {cd : ClassFile.Cond} {x y : Int32} {o : Int} (h : Sit p l e R s m args below meth c bs st n0 cells slots P pc L (.int y :: .int x :: S)) (hd : decode bs pc = .ok (.if_icmp cd o, 3)) (hc : if_icmp.holds cd x y = true) (ho : 0 ≤ (pc : Int) + o) (hp : ((pc : Int) + o).toNat = pc') : Sit p l e R s m args below meth c bs st n0 cells slots P pc' L S :=
  h.go fun T _ _ _ X hx hby _ t z => XS.icmpYes X.here hx rfl (pc0 := pc) rfl (hb hby hd) rfl hc ho hp z
theorem Sit.icmpN {cd : ClassFile.Cond} {x y : Int32} {o : Int} (h : Sit p l e R s m args below meth c bs st n0 cells slots P pc L (.int y :: .int x :: S)) (hd : decode bs pc = .ok (.if_icmp cd o, 3)) (hc : if_icmp.holds cd x y = false) (hp : pc + 3 = pc') : Sit p l e R s m args below meth c bs st n0 cells slots P pc' L S := by
  subst hp; exact h.go fun T _ _ _ X hx hby _ t z => XS.icmpNo X.here hx rfl (hb hby hd) rfl hc z
/-! comparisons as facts on whole numbers -/
def cmpP : ClassFile.Cond → Int32 → Int32 → Prop
  | .eq, x, y => x.toInt = y.toInt
  | .ne, x, y => x.toInt ≠ y.toInt
  | .lt, x, y => x.toInt < y.toInt
  | .ge, x, y => y.toInt ≤ x.toInt
  | .gt, x, y => y.toInt < x.toInt
  | .le, x, y => x.toInt ≤ y.toInt
theorem cmpP_holds (cd : ClassFile.Cond) (x y : Int32) : if_icmp.holds cd x y = true ↔ cmpP cd x y := by
  cases cd <;> simp [if_icmp.holds, cmpP, Int32.lt_iff_toInt_lt, Int32.le_iff_toInt_le, Int32.toInt_inj]
theorem cmpT {cd : ClassFile.Cond} {x y : Int32} (h : cmpP cd x y) : if_icmp.holds cd x y = true := (cmpP_holds cd x y).mpr h
theorem cmpF {cd : ClassFile.Cond} {x y : Int32} (h : ¬ cmpP cd x y) : if_icmp.holds cd x y = false := by
  rw [← Bool.not_eq_true, cmpP_holds]; exact h
def cmpZ : ClassFile.Cond → Int32 → Prop
  | .eq, x => x.toInt = 0
  | .ne, x => x.toInt ≠ 0
  | .lt, x => x.toInt < 0
  | .ge, x => 0 ≤ x.toInt
  | .gt, x => 0 < x.toInt
  | .le, x => x.toInt ≤ 0
theorem cmpT0 {cd : ClassFile.Cond} {x : Int32} (h : cmpZ cd x) : if_icmp.holds cd x 0 = true := cmpT (by cases cd <;> exact h)
theorem cmpF0 {cd : ClassFile.Cond} {x : Int32} (h : ¬ cmpZ cd x) : if_icmp.holds cd x 0 = false := cmpF (by cases cd <;> exact h)
def cmpJ : ClassFile.Cond → Int64 → Int64 → Prop
  | .eq, x, y => x = y
  | .ne, x, y => ¬ x = y
  | .lt, x, y => x.toInt < y.toInt
  | .ge, x, y => y.toInt ≤ x.toInt
  | .gt, x, y => y.toInt < x.toInt
  | .le, x, y => x.toInt ≤ y.toInt
theorem lc_iff (cd : ClassFile.Cond) (x y : Int64) : if_icmp.holds cd (lcmp3 x y) 0 = true ↔ cmpJ cd x y := by
  rw [cmpP_holds]
  obtain ⟨h1, h2, h3⟩ := c_lcmp x y
  have e : lcmp3 x y = lcmpW x y := rfl
  rw [e]
  have z : (0 : Int32).toInt = 0 := rfl
  have q : x = y ↔ x.toInt = y.toInt := Int64.toInt_inj.symm
  rcases Int.lt_trichotomy x.toInt y.toInt with h | h | h
  · have := h1 h; cases cd <;> simp only [cmpP, cmpJ, z, q] <;> omega
  · have := h2 h; cases cd <;> simp only [cmpP, cmpJ, z, q] <;> omega
  · have := h3 h; cases cd <;> simp only [cmpP, cmpJ, z, q] <;> omega
theorem lcT {cd : ClassFile.Cond} {x y : Int64} (h : cmpJ cd x y) : if_icmp.holds cd (lcmp3 x y) 0 = true := (lc_iff cd x y).mpr h
theorem lcF {cd : ClassFile.Cond} {x y : Int64} (h : ¬ cmpJ cd x y) : if_icmp.holds cd (lcmp3 x y) 0 = false := by
  rw [← Bool.not_eq_true, lc_iff]; exact h
theorem eqT {x y : Int32} (h : x = y) : if_icmp.holds .eq x y = true := (teq h).1
theorem eqF {x y : Int32} (h : ¬ x = y) : if_icmp.holds .eq x y = false := (feq h).1
theorem neT {x y : Int32} (h : ¬ x = y) : if_icmp.holds .ne x y = true := (feq h).2
theorem neF {x y : Int32} (h : x = y) : if_icmp.holds .ne x y = false := (teq h).2
/-! leaving -/
def Out (p : Program) (e : Env) (below : List Frame) (s st : State) (n0 cells slots : Nat) (Q : Option Value → Heap → Prop) : Prop :=
  ∃ s₂ o, Steps p.tables e below st s₂ ∧ s₂.status = .running ∧ Ended s₂ below o ∧ ∃ v L, o = .returned v ∧ (Fr n0 L ∧ Q v s₂.heap) ∧ FrameEnd s o s₂ L cells slots
theorem Out.mk {T : State} {locs : List Loc} {k n : Nat} {v : Option Value} {Q : Option Value → Heap → Prop} (X : Stand p l e R s m args below meth c T locs k n) (q1 : k ≤ cells) (q2 : n ≤ slots) (q3 : Fr n0 locs) (hQ : Q v T.heap) (hv : meth.sig.returnType = none → v = none) (hlk : meth.locks = false)
    (hst : ∀ fs : List Frame, (∀ (f : JFrame) (acts : List Action), f.method = m → f.locked = none → f.entered = [] → (doReturn e (T.setTop f) acts v).1 = T.setFrames fs) → Steps p.tables e below st (T.setFrames fs)) : Out p e below s st n0 cells slots Q := by
  obtain ⟨fs, hr, hrun, hended, hW, hsame⟩ := X.leave (v := v) hv hlk
  exact ⟨_, _, hst fs hr, hrun, hended, _, _, rfl, ⟨q3, hQ⟩, ⟨_, rfl⟩, hW, hsame.mono q1 q2⟩
theorem Sit.retI {z : Int32} {Q : Option Value → Heap → Prop} (h : Sit p l e R s m args below meth c bs st n0 cells slots P pc L (.int z :: S)) (hd : decode bs pc = .ok (.ireturn, 1)) (hret : meth.sig.returnType = some .int) (hlk : meth.locks = false) (hQ : ∀ hh, P hh → Q (some (.int z)) hh) : Out p e below s st n0 cells slots Q := by
  obtain ⟨T, locs, k, n, X, q1, q2, q3, q4, q5, hx, hby, q⟩ := h
  exact Out.mk X q1 q2 q3 (hQ _ q5) (fun h => by rw [hret] at h; cases h) hlk fun fs hr => q _ (Jvm.RoadKit.retI X hx hret (hb hby hd) hr)
theorem Sit.retZ {z : Int32} {Q : Option Value → Heap → Prop} (h : Sit p l e R s m args below meth c bs st n0 cells slots P pc L (.int z :: S)) (hd : decode bs pc = .ok (.ireturn, 1)) (hret : meth.sig.returnType = some .boolean) (hlk : meth.locks = false) (hQ : ∀ hh, P hh → Q (some (.int (z &&& 1))) hh) : Out p e below s st n0 cells slots Q := by
  obtain ⟨T, locs, k, n, X, q1, q2, q3, q4, q5, hx, hby, q⟩ := h
  exact Out.mk X q1 q2 q3 (hQ _ q5) (fun h => by rw [hret] at h; cases h) hlk fun fs hr => q _ (retN X hx (t := .boolean) hret (by simp) (hb hby hd) hr)
theorem Sit.retJ {z : Int64} {Q : Option Value → Heap → Prop} (h : Sit p l e R s m args below meth c bs st n0 cells slots P pc L [.long z]) (hd : decode bs pc = .ok (.lreturn, 1)) (hret : meth.sig.returnType = some .long) (hlk : meth.locks = false) (hQ : ∀ hh, P hh → Q (some (.long z)) hh) : Out p e below s st n0 cells slots Q := by
  obtain ⟨T, locs, k, n, X, q1, q2, q3, q4, q5, hx, hby, q⟩ := h
  exact Out.mk X q1 q2 q3 (hQ _ q5) (fun h => by rw [hret] at h; cases h) hlk fun fs hr => q _ (X.lreturnOut hx hret (hb hby hd) hr)
theorem Sit.retV {Q : Option Value → Heap → Prop} (h : Sit p l e R s m args below meth c bs st n0 cells slots P pc L []) (hd : decode bs pc = .ok (.return_, 1)) (hret : meth.sig.returnType = none) (hlk : meth.locks = false) (hQ : ∀ hh, P hh → Q none hh) : Out p e below s st n0 cells slots Q := by
  obtain ⟨T, locs, k, n, X, q1, q2, q3, q4, q5, hx, hby, q⟩ := h
  exact Out.mk X q1 q2 q3 (hQ _ q5) (fun _ => rfl) hlk fun fs hr => q _ (X.returnOut hx hret (hb hby hd) hr)
theorem Sit.retA {z : Addr} {t : FieldType} {Q : Option Value → Heap → Prop} (h : Sit p l e R s m args below meth c bs st n0 cells slots P pc L [.ref z]) (hd : decode bs pc = .ok (.areturn, 1)) (hret : meth.sig.returnType = some t) (ht : t.isReference = true) (hlk : meth.locks = false) (hQ : ∀ hh, P hh → Q (some (.ref z)) hh) : Out p e below s st n0 cells slots Q := by
  obtain ⟨T, locs, k, n, X, q1, q2, q3, q4, q5, hx, hby, q⟩ := h
  exact Out.mk X q1 q2 q3 (hQ _ q5) (fun h => by rw [hret] at h; cases h) hlk fun fs hr => q _ (X.areturnOut hx rfl hret ht (hb hby hd) hr)
/-! a method's contract -/
abbrev Met1 (l : Launch) (y : MethodName) (bytes : ByteArray) (maxL : Nat) (ret : Option FieldType) (ws : List Jvm.Cond) (rm : Room) (Z : State) (as : Array Value) (h0 : Heap) (n0 : Nat) (Q : Option Value → Heap → Prop) : Prop :=
  MetFree l y (head1 (Jvm.Cond.code y bytes maxL ret :: ws) rm) (fun a U => a = as ∧ Z.Warmed39 U.vm ∧ U.heap = h0) (fun _ _ _ _ _ => True) (fun _ U o U' => ∃ v L, o = .returned v ∧ (Fr n0 L ∧ Q v U'.heap) ∧ FrameEnd U o U' L rm.cells rm.slots)
theorem Met1.of {y : MethodName} {bytes : ByteArray} {maxL : Nat} {ret : Option FieldType} {ws : List Jvm.Cond} {rm : Room} {as : Array Value} {h0 : Heap} {Q : Option Value → Heap → Prop} {L0 : Array Slot} (hpn : plainFor y = true) (hef : ∀ m, entryFrame m as maxL = mkF m 0 L0 []) (Z0 : n0 ≤ h0.size)
    (body : ∀ p e s m below meth c st, Sit p l e rm s m as below meth c bytes st n0 0 0 (fun h => h = h0) 0 L0 [] → Z.Warmed39 s.vm → s.vm.findClass y.cls = some m.cls → meth.sig.returnType = ret → meth.locks = false → meth.name = y.name → c.maxLocals = maxL → Out p e below s st n0 rm.cells rm.slots Q) : Met1 l y bytes maxL ret ws rm Z as h0 n0 Q := by
  refine MetFree.of_bodySF hpn hisR ?_
  intro p e s m args below meth c s₁ Bd hml0 hP hK
  obtain ⟨rfl, hZ, hh⟩ := hP
  have e0 : s₁.heap = h0 := by rw [← hh, Bd.state]; rfl
  exact body p e s m below meth c _ ⟨s₁, [], 0, 0, Stand.of_body Bd, Nat.le_refl _, Nat.le_refl _, Fr.nil n0, by rw [hh]; exact Z0, e0, Bd.exec, Bd.bytes, fun t k => castTop (hef m) k⟩ hZ (findClass_of_methodNamed Bd.named) Bd.returns Bd.notSynchronized (name_of_methodNamed Bd.named Bd.method).1 hml0
theorem Met1.mono {y : MethodName} {bytes : ByteArray} {maxL : Nat} {ret : Option FieldType} {ws : List Jvm.Cond} {rm : Room} {as : Array Value} {h0 : Heap} {Q Q' : Option Value → Heap → Prop} (h : Met1 l y bytes maxL ret ws rm Z as h0 n0 Q) (f : ∀ v hh, Q v hh → Q' v hh) : Met1 l y bytes maxL ret ws rm Z as h0 n0 Q' := by
  intro p e ha hc hk s m args below hf happ hP hK
  obtain ⟨n, o, h1, h2, h3, v, L, h4, ⟨h5, h6⟩, h7⟩ := h p e ha hc hk s m args below hf happ hP hK
  exact ⟨n, o, h1, h2, h3, v, L, h4, ⟨h5, f _ _ h6⟩, h7⟩
/-! a static call by its contract -/
theorem Sit.callS {index : Nat} {y : MethodName} {bytes : ByteArray} {maxL maxO : Nat} {ret : Option FieldType} {rm : Room} {Q : Option Value → Heap → Prop} {W : Nat} (argsL rest : List Value) (h : Sit p l e R s m args below meth c bs st n0 cells slots P pc L (argsL.reverse ++ rest)) (hZ : Z.Warmed39 s.vm) (hown : s.vm.findClass own = some m.cls)
    (w1 : (Cond.methodLink own index y).before a0 Z = true) (w2 : (Cond.static y).before a0 Z = true) (w3 : (Cond.initialized y.cls).before a0 Z = true) (w4 : (Cond.code y bytes maxL ret).before a0 Z = true) (hy : y.cls ≠ "java/lang/invoke/MethodHandle" ∧ y.cls ≠ "java/lang/invoke/VarHandle")
    (hM : ∀ h0, P h0 → n0 ≤ h0.size → Met1 l y bytes maxL ret [] rm Z argsL.toArray h0 n0 Q) (hml : c.maxLocals = maxO) (hsz : L.size = maxO) (hlen : ∀ sig, parseMethodDescriptor y.desc = some sig → argsL.length = sig.parameters.length) (hd : decode bs pc = .ok (.invokestatic index, 3)) (hW : 2 * 0 + (rest.map fun v => v.category).sum ≤ W)
    (hf : rm.frames + 1 ≤ R.frames) (hl : W + (maxL + 11) + rm.locals ≤ R.locals) (hcl : cells + rm.cells ≤ R.cells) (hsl : slots + rm.slots ≤ R.slots) (hp : pc + 3 = pc') :
    ∃ v : Option Value, Sit p l e R s m args below meth c bs st n0 (cells + rm.cells) (slots + rm.slots) (fun hh => Q v hh) pc' L (v.toList ++ rest) := by
  subst hp
  obtain ⟨T, locs, k, n, X, q1, q2, q3, q4, q5, hx, hby, q⟩ := h
  obtain ⟨v, _, ⟨T2, L2, k2, n2⟩, -, X2, ⟨Lc2, ⟨hN2, hQ2⟩, l2, y2, z2⟩, st2⟩ := Jvm.LawKit.callS X hx (y := y) hown (mvT hZ w1) (mvT hZ w2) (mvT hZ w3) (mvT hZ w4) hy (backOf (W := W) (Q := fun v hh L => Fr n0 L ∧ Q v hh) (hM T.heap q5 (Nat.le_trans q4 X.same.2.1)) hZ w4 w3 hf hl) (g := mkF m pc L (argsL.reverse ++ rest)) rfl (by rw [hml]; exact hsz) (argsL := argsL) (rest := rest) hlen rfl hW (hb hby hd) (fun _ _ => ⟨rfl, rfl, Nat.le_trans (Nat.add_le_add_right q1 _) hcl, Nat.le_trans (Nat.add_le_add_right q2 _) hsl⟩)
  dsimp only [Pt.U, Pt.locs, Pt.cells, Pt.slots] at X2 l2 y2 z2 st2 hQ2
  subst l2 y2 z2
  exact ⟨v, T2, _, _, _, X2, Nat.add_le_add_right q1 _, Nat.add_le_add_right q2 _, Fr.app q3 hN2, q4, hQ2, hx, hby, fun t z => q t (st2 t z)⟩
end OwnKit

section OwnBits
theorem ushr64_bv (x : Int64) (y : Int32) : (ushr64 x y).toBitVec = x.toBitVec >>> (y.toBitVec.toNat % 64) := by
  have h1 : (y &&& 0x3f).toBitVec.toNat = y.toBitVec.toNat % 64 := by
    show (y.toBitVec &&& (0x3f : Int32).toBitVec).toNat = _
    rw [BitVec.toNat_and]
    show y.toBitVec.toNat &&& 63 = _
    exact Nat.and_two_pow_sub_one_eq_mod _ 6
  have h2 : (y &&& 0x3f).toInt64.toBitVec.toNat = y.toBitVec.toNat % 64 := by
    show ((y &&& 0x3f).toBitVec.signExtend 64).toNat = _
    have hm : (y &&& 0x3f).toBitVec.msb = false := by
      rw [BitVec.msb_eq_false_iff_two_mul_lt, h1]; omega
    rw [BitVec.signExtend_eq_setWidth_of_msb_false hm, BitVec.toNat_setWidth, h1]; omega
  show x.toBitVec >>> ((y &&& 0x3f).toInt64.toBitVec % 64) = _
  rw [BitVec.ushiftRight_eq', BitVec.toNat_umod, h2]
  show x.toBitVec >>> (y.toBitVec.toNat % 64 % 64) = _
  rw [Nat.mod_mod]
theorem shl64_bv (x : Int64) (y : Int32) : (shl64 x y).toBitVec = x.toBitVec <<< (y.toBitVec.toNat % 64) := by
  have h1 : (y &&& 0x3f).toBitVec.toNat = y.toBitVec.toNat % 64 := by
    show (y.toBitVec &&& (0x3f : Int32).toBitVec).toNat = _
    rw [BitVec.toNat_and]
    show y.toBitVec.toNat &&& 63 = _
    exact Nat.and_two_pow_sub_one_eq_mod _ 6
  have hm : (y &&& 0x3f).toBitVec.msb = false := by
    rw [BitVec.msb_eq_false_iff_two_mul_lt, h1]; omega
  have h2 : (y &&& 0x3f).toInt64.toBitVec.toNat = y.toBitVec.toNat % 64 := by
    show ((y &&& 0x3f).toBitVec.signExtend 64).toNat = _
    rw [BitVec.signExtend_eq_setWidth_of_msb_false hm, BitVec.toNat_setWidth, h1]; omega
  have h3 : (y &&& 0x3f).toInt64.toBitVec.msb = false := by
    rw [BitVec.msb_eq_false_iff_two_mul_lt, h2]; omega
  have h4 : ((y &&& 0x3f).toInt64.toBitVec.smod 64).toNat = y.toBitVec.toNat % 64 := by
    rw [BitVec.smod_eq, h3]
    show ((y &&& 0x3f).toInt64.toBitVec.umod 64).toNat = _
    rw [BitVec.umod_eq, BitVec.toNat_umod, h2]
    show y.toBitVec.toNat % 64 % 64 = _
    rw [Nat.mod_mod]
  show x.toBitVec <<< ((y &&& 0x3f).toInt64.toBitVec.smod 64) = _
  rw [BitVec.shiftLeft_eq', h4]
theorem ushr32_bv (x y : Int32) : (ushr32 x y).toBitVec = x.toBitVec >>> (y.toBitVec.toNat % 32) := by
  have h1 : (y &&& 31).toBitVec.toNat = y.toBitVec.toNat % 32 := by
    show (y.toBitVec &&& (31 : Int32).toBitVec).toNat = _
    rw [BitVec.toNat_and]
    show y.toBitVec.toNat &&& 31 = _
    exact Nat.and_two_pow_sub_one_eq_mod _ 5
  show x.toBitVec >>> ((y &&& 31).toBitVec % 32) = _
  rw [BitVec.ushiftRight_eq', BitVec.toNat_umod, h1]
  show x.toBitVec >>> (y.toBitVec.toNat % 32 % 32) = _
  rw [Nat.mod_mod]
theorem shl32_bv (x y : Int32) : (x <<< (y &&& 31)).toBitVec = x.toBitVec <<< (y.toBitVec.toNat % 32) := by
  show x.toBitVec <<< ((y &&& 31).toBitVec.smod 32) = _
  rw [BitVec.shiftLeft_eq', sm32 y _ rfl]
end OwnBits


def trF (c l k n : Int32) : Int32 := l ^^^ ((c ^^^ l) &&& (((k - c) &&& (c - n)) >>> ((31 : Int32) &&& 31)))
theorem and31 (x : Int32) : 0 ≤ (x &&& (2147483647 : Int32)).toInt := (c_and x _ (by decide)).1
theorem and255 (x : Int32) : 0 ≤ (x &&& (255 : Int32)).toInt := (c_and x _ (by decide)).1
theorem ushr1_nonneg (x : Int32) : 0 ≤ (ushr32 x (1 : Int32)).toInt := by
  have h := c_iushr x 1 1 (by decide) (by decide)
  have e : ushr32 x (1 : Int32) = (x.toUInt32 >>> ((1 : Int32) &&& 31).toUInt32).toInt32 := rfl
  rw [e, h]
  have := rng32 x
  have e2 : ((2 ^ 1 : Nat) : Int) = 2 := rfl
  rw [e2]; omega
theorem sar31_neg (x : Int32) (h : x.toInt < 0) : x >>> ((31 : Int32) &&& 31) = -1 := by
  apply Int32.toInt_inj.mp
  rw [c_ishr x 31 31 (by decide)]
  have := rng32 x
  have e : ((2 ^ 31 : Nat) : Int) = 2147483648 := rfl
  have e2 : (-1 : Int32).toInt = -1 := rfl
  rw [e, e2]; omega
theorem sar31_pos (x : Int32) (h : 0 ≤ x.toInt) : x >>> ((31 : Int32) &&& 31) = 0 := by
  apply Int32.toInt_inj.mp
  rw [c_ishr x 31 31 (by decide)]
  have := rng32 x
  have e : ((2 ^ 31 : Nat) : Int) = 2147483648 := rfl
  have e2 : (0 : Int32).toInt = 0 := rfl
  rw [e, e2]; omega
theorem neg_msb (x : Int32) : x.toInt < 0 ↔ x.toBitVec.msb = true := by
  show x.toBitVec.toInt < 0 ↔ _
  rw [BitVec.msb_eq_toInt]; simp
theorem and_neg (x y : Int32) : (x &&& y).toInt < 0 ↔ x.toInt < 0 ∧ y.toInt < 0 := by
  rw [neg_msb, neg_msb, neg_msb]
  show (x.toBitVec &&& y.toBitVec).msb = true ↔ _
  rw [BitVec.msb_and, Bool.and_eq_true]
theorem sub_small {x y : Int32} (hx : 0 ≤ x.toInt) (hy : 0 ≤ y.toInt) : (x - y).toInt = x.toInt - y.toInt := by
  have h := c_isub x y
  have h1 := rng32 x
  have h2 := rng32 y
  have h3 := rng32 (x - y)
  omega
theorem xor_all (c l : Int32) : l ^^^ ((c ^^^ l) &&& (-1)) = c := by
  apply Int32.toBitVec_inj.mp
  show l.toBitVec ^^^ ((c.toBitVec ^^^ l.toBitVec) &&& (-1 : Int32).toBitVec) = c.toBitVec
  have e : (-1 : Int32).toBitVec = BitVec.allOnes 32 := by decide
  rw [e, BitVec.and_allOnes, BitVec.xor_comm c.toBitVec, ← BitVec.xor_assoc, BitVec.xor_self, BitVec.zero_xor]
theorem xor_none (c l : Int32) : l ^^^ ((c ^^^ l) &&& 0) = l := by
  rw [Int32.and_zero, Int32.xor_zero]
theorem trF_in {c l k n : Int32} (hc : 0 ≤ c.toInt) (hk : 0 ≤ k.toInt) (hn : 0 ≤ n.toInt) (h1 : k.toInt < c.toInt) (h2 : c.toInt < n.toInt) : trF c l k n = c := by
  unfold trF
  rw [sar31_neg _ ((and_neg _ _).mpr ⟨by rw [sub_small hk hc]; omega, by rw [sub_small hc hn]; omega⟩), xor_all]
theorem trF_out {c l k n : Int32} (hc : 0 ≤ c.toInt) (hk : 0 ≤ k.toInt) (hn : 0 ≤ n.toInt) (h : ¬ (k.toInt < c.toInt ∧ c.toInt < n.toInt)) : trF c l k n = l := by
  unfold trF
  rw [sar31_pos _ ?_, xor_none]
  have q := and_neg (k - c) (c - n)
  rw [sub_small hk hc, sub_small hc hn] at q
  omega
def mxF (a b : Int32) : Int32 := if a.toInt < b.toInt then b else a


theorem mx1 (x : Int32) : 1 ≤ (mxF (1 : Int32) x).toInt := by
  have e : (1 : Int32).toInt = 1 := rfl
  unfold mxF
  split <;> omega


theorem d1_0 : decode jdk_29_method_65_code 0 = .ok (.iload_n 0, 1) := by decide +kernel
theorem d1_1 : decode jdk_29_method_65_code 1 = .ok (.iload_n 1, 1) := by decide +kernel
theorem d1_2 : decode jdk_29_method_65_code 2 = .ok (.if_icmp .lt 7, 3) := by decide +kernel
theorem d1_5 : decode jdk_29_method_65_code 5 = .ok (.iload_n 0, 1) := by decide +kernel
theorem d1_6 : decode jdk_29_method_65_code 6 = .ok (.goto 4, 3) := by decide +kernel
theorem d1_9 : decode jdk_29_method_65_code 9 = .ok (.iload_n 1, 1) := by decide +kernel
theorem d1_10 : decode jdk_29_method_65_code 10 = .ok (.ireturn, 1) := by decide +kernel
theorem ef_rmMax (m : MethodId) (a : Int32) (b : Int32) : entryFrame m #[(.int a), (.int b)] 2 = mkF m 0 #[.val (.int a), .val (.int b)] [] := by first | (simp [entryFrame, mkF, argsToLocals, Value.category]; done) | rfl
set_option maxRecDepth 65536 in
set_option maxHeartbeats 40000000 in
theorem rmMax (l : Launch) (Z : State) (a0 : Array Value) (hw : ∀ d ∈ tables_1, d.before a0 Z = true) (ws : List Jvm.Cond) (a : Int32) (b : Int32)  (h0 : Heap) (n0 : Nat) (Z0 : n0 ≤ h0.size)  : Met1 l (⟨"java/lang/Math", "max", "(II)I"⟩ : MethodName) jdk_29_method_65_code 2 (some .int) ws ({ frames := 0, cells := 0, slots := 0, locals := 0 } : Room) Z #[(.int a), (.int b)] h0 n0 (fun v hh => v = some (.int (mxF a b)) ∧ hh = h0) := by
  refine Met1.of (L0 := #[.val (.int a), .val (.int b)]) (Jvm.Free.JP.mathPlain rfl (by decide)) (fun m => ef_rmMax m a b) Z0 ?_
  intro p e s m below meth c st s0 hZ hown hret hlk hnm hml
  have s1 : Sit p l e _ s m _ below meth c _ st n0 0 0 _ 2 #[.val (.int a), .val (.int b)] [(.int b), (.int a)] := s0
    |>.iloadN d1_0 rfl rfl
    |>.iloadN d1_1 rfl rfl
  by_cases c2 : a.toInt < b.toInt
  · have s3 : Sit p l e _ s m _ below meth c _ st n0 0 0 _ 10 #[.val (.int a), .val (.int b)] [(.int b)] := s1
      |>.icmpY d1_2 (cmpT (cd := .lt) c2) (by decide) (by decide)
      |>.iloadN d1_9 rfl rfl
    exact s3.retI d1_10 hret hlk (fun hh q => ⟨by rw [mxF, if_pos (by assumption)], q⟩)
  · have s4 : Sit p l e _ s m _ below meth c _ st n0 0 0 _ 10 #[.val (.int a), .val (.int b)] [(.int a)] := s1
      |>.icmpN d1_2 (cmpF (cd := .lt) c2) rfl
      |>.iloadN d1_5 rfl rfl
      |>.goto d1_6 (by decide) (by decide)
    exact s4.retI d1_10 hret hlk (fun hh q => ⟨by rw [mxF, if_neg (by assumption)], q⟩)
theorem pn_rmNlz : plainName "java/lang/Integer" = true := by first | (simp [plainName, overriddenIn]; done) | decide +kernel
theorem d3_0 : decode jdk_33_method_47_code 0 = .ok (.iload_n 0, 1) := by decide +kernel
theorem d3_1 : decode jdk_33_method_47_code 1 = .ok (.ifCond .gt 14, 3) := by decide +kernel
theorem d3_4 : decode jdk_33_method_47_code 4 = .ok (.iload_n 0, 1) := by decide +kernel
theorem d3_5 : decode jdk_33_method_47_code 5 = .ok (.ifCond .ne 8, 3) := by decide +kernel
theorem d3_8 : decode jdk_33_method_47_code 8 = .ok (.bipush 32, 2) := by decide +kernel
theorem d3_10 : decode jdk_33_method_47_code 10 = .ok (.goto 4, 3) := by decide +kernel
theorem d3_13 : decode jdk_33_method_47_code 13 = .ok (.iconst 0, 1) := by decide +kernel
theorem d3_14 : decode jdk_33_method_47_code 14 = .ok (.ireturn, 1) := by decide +kernel
theorem d3_15 : decode jdk_33_method_47_code 15 = .ok (.bipush 31, 2) := by decide +kernel
theorem d3_17 : decode jdk_33_method_47_code 17 = .ok (.istore_n 1, 1) := by decide +kernel
theorem d3_18 : decode jdk_33_method_47_code 18 = .ok (.iload_n 0, 1) := by decide +kernel
theorem d3_19 : decode jdk_33_method_47_code 19 = .ok (.ldc_w 264, 3) := by decide +kernel
theorem d3_22 : decode jdk_33_method_47_code 22 = .ok (.if_icmp .lt 11, 3) := by decide +kernel
theorem d3_25 : decode jdk_33_method_47_code 25 = .ok (.iinc 1 (-16), 3) := by decide +kernel
theorem d3_28 : decode jdk_33_method_47_code 28 = .ok (.iload_n 0, 1) := by decide +kernel
theorem d3_29 : decode jdk_33_method_47_code 29 = .ok (.bipush 16, 2) := by decide +kernel
theorem d3_31 : decode jdk_33_method_47_code 31 = .ok (.iushr, 1) := by decide +kernel
theorem d3_32 : decode jdk_33_method_47_code 32 = .ok (.istore_n 0, 1) := by decide +kernel
theorem d3_33 : decode jdk_33_method_47_code 33 = .ok (.iload_n 0, 1) := by decide +kernel
theorem d3_34 : decode jdk_33_method_47_code 34 = .ok (.sipush 256, 3) := by decide +kernel
theorem d3_37 : decode jdk_33_method_47_code 37 = .ok (.if_icmp .lt 11, 3) := by decide +kernel
theorem d3_40 : decode jdk_33_method_47_code 40 = .ok (.iinc 1 (-8), 3) := by decide +kernel
theorem d3_43 : decode jdk_33_method_47_code 43 = .ok (.iload_n 0, 1) := by decide +kernel
theorem d3_44 : decode jdk_33_method_47_code 44 = .ok (.bipush 8, 2) := by decide +kernel
theorem d3_46 : decode jdk_33_method_47_code 46 = .ok (.iushr, 1) := by decide +kernel
theorem d3_47 : decode jdk_33_method_47_code 47 = .ok (.istore_n 0, 1) := by decide +kernel
theorem d3_48 : decode jdk_33_method_47_code 48 = .ok (.iload_n 0, 1) := by decide +kernel
theorem d3_49 : decode jdk_33_method_47_code 49 = .ok (.bipush 16, 2) := by decide +kernel
theorem d3_51 : decode jdk_33_method_47_code 51 = .ok (.if_icmp .lt 10, 3) := by decide +kernel
theorem d3_54 : decode jdk_33_method_47_code 54 = .ok (.iinc 1 (-4), 3) := by decide +kernel
theorem d3_57 : decode jdk_33_method_47_code 57 = .ok (.iload_n 0, 1) := by decide +kernel
theorem d3_58 : decode jdk_33_method_47_code 58 = .ok (.iconst 4, 1) := by decide +kernel
theorem d3_59 : decode jdk_33_method_47_code 59 = .ok (.iushr, 1) := by decide +kernel
theorem d3_60 : decode jdk_33_method_47_code 60 = .ok (.istore_n 0, 1) := by decide +kernel
theorem d3_61 : decode jdk_33_method_47_code 61 = .ok (.iload_n 0, 1) := by decide +kernel
theorem d3_62 : decode jdk_33_method_47_code 62 = .ok (.iconst 4, 1) := by decide +kernel
theorem d3_63 : decode jdk_33_method_47_code 63 = .ok (.if_icmp .lt 10, 3) := by decide +kernel
theorem d3_66 : decode jdk_33_method_47_code 66 = .ok (.iinc 1 (-2), 3) := by decide +kernel
theorem d3_69 : decode jdk_33_method_47_code 69 = .ok (.iload_n 0, 1) := by decide +kernel
theorem d3_70 : decode jdk_33_method_47_code 70 = .ok (.iconst 2, 1) := by decide +kernel
theorem d3_71 : decode jdk_33_method_47_code 71 = .ok (.iushr, 1) := by decide +kernel
theorem d3_72 : decode jdk_33_method_47_code 72 = .ok (.istore_n 0, 1) := by decide +kernel
theorem d3_73 : decode jdk_33_method_47_code 73 = .ok (.iload_n 1, 1) := by decide +kernel
theorem d3_74 : decode jdk_33_method_47_code 74 = .ok (.iload_n 0, 1) := by decide +kernel
theorem d3_75 : decode jdk_33_method_47_code 75 = .ok (.iconst 1, 1) := by decide +kernel
theorem d3_76 : decode jdk_33_method_47_code 76 = .ok (.iushr, 1) := by decide +kernel
theorem d3_77 : decode jdk_33_method_47_code 77 = .ok (.isub, 1) := by decide +kernel
theorem d3_78 : decode jdk_33_method_47_code 78 = .ok (.ireturn, 1) := by decide +kernel
theorem ef_rmNlz (m : MethodId) (a : Int32) : entryFrame m #[(.int a)] 2 = mkF m 0 #[.val (.int a), .unset] [] := by first | (simp [entryFrame, mkF, argsToLocals, Value.category]; done) | rfl
set_option maxRecDepth 65536 in
set_option maxHeartbeats 40000000 in
theorem rmNlz (l : Launch) (Z : State) (a0 : Array Value) (hw : ∀ d ∈ tables_1, d.before a0 Z = true) (ws : List Jvm.Cond) (a : Int32)  (h0 : Heap) (n0 : Nat) (Z0 : n0 ≤ h0.size)  : Met1 l (⟨"java/lang/Integer", "numberOfLeadingZeros", "(I)I"⟩ : MethodName) jdk_33_method_47_code 2 (some .int) ws ({ frames := 0, cells := 0, slots := 0, locals := 0 } : Room) Z #[(.int a)] h0 n0 (fun v hh => (∃ y : Int32, v = some (.int y)) ∧ hh = h0) := by
  refine Met1.of (L0 := #[.val (.int a), .unset]) (plainFor_of_name pn_rmNlz) (fun m => ef_rmNlz m a) Z0 ?_
  intro p e s m below meth c st s0 hZ hown hret hlk hnm hml
  have s1 : Sit p l e _ s m _ below meth c _ st n0 0 0 _ 1 #[.val (.int a), .unset] [(.int a)] := s0
    |>.iloadN d3_0 rfl rfl
  by_cases c2 : a.toInt > 0
  · have s3 : Sit p l e _ s m _ below meth c _ st n0 0 0 _ 22 #[.val (.int a), .val (.int (31 : Int32))] [(.int (65536 : Int32)), (.int a)] := s1
      |>.ifY d3_1 (cmpT0 (cd := .gt) c2) (by decide) (by decide)
      |>.bipush (31 : Int32) d3_15 rfl rfl
      |>.istoreN #[.val (.int a), .val (.int (31 : Int32))] d3_17 rfl rfl
      |>.iloadN d3_18 rfl rfl
      |>.ldcw hZ hown (wi hw 14 rfl) d3_19 rfl
    by_cases c4 : a.toInt < (65536 : Int)
    · have s5 : Sit p l e _ s m _ below meth c _ st n0 0 0 _ 37 #[.val (.int a), .val (.int (31 : Int32))] [(.int (256 : Int32)), (.int a)] := s3
        |>.icmpY d3_22 (cmpT (cd := .lt) c4) (by decide) (by decide)
        |>.iloadN d3_33 rfl rfl
        |>.sipush (256 : Int32) d3_34 rfl rfl
      by_cases c6 : a.toInt < (256 : Int)
      · have s7 : Sit p l e _ s m _ below meth c _ st n0 0 0 _ 51 #[.val (.int a), .val (.int (31 : Int32))] [(.int (16 : Int32)), (.int a)] := s5
          |>.icmpY d3_37 (cmpT (cd := .lt) c6) (by decide) (by decide)
          |>.iloadN d3_48 rfl rfl
          |>.bipush (16 : Int32) d3_49 rfl rfl
        by_cases c8 : a.toInt < (16 : Int)
        · have s9 : Sit p l e _ s m _ below meth c _ st n0 0 0 _ 63 #[.val (.int a), .val (.int (31 : Int32))] [(.int (4 : Int32)), (.int a)] := s7
            |>.icmpY d3_51 (cmpT (cd := .lt) c8) (by decide) (by decide)
            |>.iloadN d3_61 rfl rfl
            |>.iconst (4 : Int32) d3_62 rfl rfl
          by_cases c10 : a.toInt < (4 : Int)
          · have s11 : Sit p l e _ s m _ below meth c _ st n0 0 0 _ 78 #[.val (.int a), .val (.int (31 : Int32))] [(.int ((31 : Int32) - (ushr32 a (1 : Int32))))] := s9
              |>.icmpY d3_63 (cmpT (cd := .lt) c10) (by decide) (by decide)
              |>.iloadN d3_73 rfl rfl
              |>.iloadN d3_74 rfl rfl
              |>.iconst (1 : Int32) d3_75 rfl rfl
              |>.iushr d3_76 rfl
              |>.isub d3_77 rfl
            exact s11.retI d3_78 hret hlk (fun hh q => ⟨⟨_, rfl⟩, q⟩)
          · have s12 : Sit p l e _ s m _ below meth c _ st n0 0 0 _ 78 #[.val (.int (ushr32 a (2 : Int32))), .val (.int (29 : Int32))] [(.int ((29 : Int32) - (ushr32 (ushr32 a (2 : Int32)) (1 : Int32))))] := s9
              |>.icmpN d3_63 (cmpF (cd := .lt) c10) rfl
              |>.iinc (29 : Int32) #[.val (.int a), .val (.int (29 : Int32))] d3_66 rfl rfl rfl rfl
              |>.iloadN d3_69 rfl rfl
              |>.iconst (2 : Int32) d3_70 rfl rfl
              |>.iushr d3_71 rfl
              |>.istoreN #[.val (.int (ushr32 a (2 : Int32))), .val (.int (29 : Int32))] d3_72 rfl rfl
              |>.iloadN d3_73 rfl rfl
              |>.iloadN d3_74 rfl rfl
              |>.iconst (1 : Int32) d3_75 rfl rfl
              |>.iushr d3_76 rfl
              |>.isub d3_77 rfl
            exact s12.retI d3_78 hret hlk (fun hh q => ⟨⟨_, rfl⟩, q⟩)
        · have s13 : Sit p l e _ s m _ below meth c _ st n0 0 0 _ 63 #[.val (.int (ushr32 a (4 : Int32))), .val (.int (27 : Int32))] [(.int (4 : Int32)), (.int (ushr32 a (4 : Int32)))] := s7
            |>.icmpN d3_51 (cmpF (cd := .lt) c8) rfl
            |>.iinc (27 : Int32) #[.val (.int a), .val (.int (27 : Int32))] d3_54 rfl rfl rfl rfl
            |>.iloadN d3_57 rfl rfl
            |>.iconst (4 : Int32) d3_58 rfl rfl
            |>.iushr d3_59 rfl
            |>.istoreN #[.val (.int (ushr32 a (4 : Int32))), .val (.int (27 : Int32))] d3_60 rfl rfl
            |>.iloadN d3_61 rfl rfl
            |>.iconst (4 : Int32) d3_62 rfl rfl
          by_cases c14 : (ushr32 a (4 : Int32)).toInt < (4 : Int)
          · have s15 : Sit p l e _ s m _ below meth c _ st n0 0 0 _ 78 #[.val (.int (ushr32 a (4 : Int32))), .val (.int (27 : Int32))] [(.int ((27 : Int32) - (ushr32 (ushr32 a (4 : Int32)) (1 : Int32))))] := s13
              |>.icmpY d3_63 (cmpT (cd := .lt) c14) (by decide) (by decide)
              |>.iloadN d3_73 rfl rfl
              |>.iloadN d3_74 rfl rfl
              |>.iconst (1 : Int32) d3_75 rfl rfl
              |>.iushr d3_76 rfl
              |>.isub d3_77 rfl
            exact s15.retI d3_78 hret hlk (fun hh q => ⟨⟨_, rfl⟩, q⟩)
          · have s16 : Sit p l e _ s m _ below meth c _ st n0 0 0 _ 78 #[.val (.int (ushr32 (ushr32 a (4 : Int32)) (2 : Int32))), .val (.int (25 : Int32))] [(.int ((25 : Int32) - (ushr32 (ushr32 (ushr32 a (4 : Int32)) (2 : Int32)) (1 : Int32))))] := s13
              |>.icmpN d3_63 (cmpF (cd := .lt) c14) rfl
              |>.iinc (25 : Int32) #[.val (.int (ushr32 a (4 : Int32))), .val (.int (25 : Int32))] d3_66 rfl rfl rfl rfl
              |>.iloadN d3_69 rfl rfl
              |>.iconst (2 : Int32) d3_70 rfl rfl
              |>.iushr d3_71 rfl
              |>.istoreN #[.val (.int (ushr32 (ushr32 a (4 : Int32)) (2 : Int32))), .val (.int (25 : Int32))] d3_72 rfl rfl
              |>.iloadN d3_73 rfl rfl
              |>.iloadN d3_74 rfl rfl
              |>.iconst (1 : Int32) d3_75 rfl rfl
              |>.iushr d3_76 rfl
              |>.isub d3_77 rfl
            exact s16.retI d3_78 hret hlk (fun hh q => ⟨⟨_, rfl⟩, q⟩)
      · have s17 : Sit p l e _ s m _ below meth c _ st n0 0 0 _ 51 #[.val (.int (ushr32 a (8 : Int32))), .val (.int (23 : Int32))] [(.int (16 : Int32)), (.int (ushr32 a (8 : Int32)))] := s5
          |>.icmpN d3_37 (cmpF (cd := .lt) c6) rfl
          |>.iinc (23 : Int32) #[.val (.int a), .val (.int (23 : Int32))] d3_40 rfl rfl rfl rfl
          |>.iloadN d3_43 rfl rfl
          |>.bipush (8 : Int32) d3_44 rfl rfl
          |>.iushr d3_46 rfl
          |>.istoreN #[.val (.int (ushr32 a (8 : Int32))), .val (.int (23 : Int32))] d3_47 rfl rfl
          |>.iloadN d3_48 rfl rfl
          |>.bipush (16 : Int32) d3_49 rfl rfl
        by_cases c18 : (ushr32 a (8 : Int32)).toInt < (16 : Int)
        · have s19 : Sit p l e _ s m _ below meth c _ st n0 0 0 _ 63 #[.val (.int (ushr32 a (8 : Int32))), .val (.int (23 : Int32))] [(.int (4 : Int32)), (.int (ushr32 a (8 : Int32)))] := s17
            |>.icmpY d3_51 (cmpT (cd := .lt) c18) (by decide) (by decide)
            |>.iloadN d3_61 rfl rfl
            |>.iconst (4 : Int32) d3_62 rfl rfl
          by_cases c20 : (ushr32 a (8 : Int32)).toInt < (4 : Int)
          · have s21 : Sit p l e _ s m _ below meth c _ st n0 0 0 _ 78 #[.val (.int (ushr32 a (8 : Int32))), .val (.int (23 : Int32))] [(.int ((23 : Int32) - (ushr32 (ushr32 a (8 : Int32)) (1 : Int32))))] := s19
              |>.icmpY d3_63 (cmpT (cd := .lt) c20) (by decide) (by decide)
              |>.iloadN d3_73 rfl rfl
              |>.iloadN d3_74 rfl rfl
              |>.iconst (1 : Int32) d3_75 rfl rfl
              |>.iushr d3_76 rfl
              |>.isub d3_77 rfl
            exact s21.retI d3_78 hret hlk (fun hh q => ⟨⟨_, rfl⟩, q⟩)
          · have s22 : Sit p l e _ s m _ below meth c _ st n0 0 0 _ 78 #[.val (.int (ushr32 (ushr32 a (8 : Int32)) (2 : Int32))), .val (.int (21 : Int32))] [(.int ((21 : Int32) - (ushr32 (ushr32 (ushr32 a (8 : Int32)) (2 : Int32)) (1 : Int32))))] := s19
              |>.icmpN d3_63 (cmpF (cd := .lt) c20) rfl
              |>.iinc (21 : Int32) #[.val (.int (ushr32 a (8 : Int32))), .val (.int (21 : Int32))] d3_66 rfl rfl rfl rfl
              |>.iloadN d3_69 rfl rfl
              |>.iconst (2 : Int32) d3_70 rfl rfl
              |>.iushr d3_71 rfl
              |>.istoreN #[.val (.int (ushr32 (ushr32 a (8 : Int32)) (2 : Int32))), .val (.int (21 : Int32))] d3_72 rfl rfl
              |>.iloadN d3_73 rfl rfl
              |>.iloadN d3_74 rfl rfl
              |>.iconst (1 : Int32) d3_75 rfl rfl
              |>.iushr d3_76 rfl
              |>.isub d3_77 rfl
            exact s22.retI d3_78 hret hlk (fun hh q => ⟨⟨_, rfl⟩, q⟩)
        · have s23 : Sit p l e _ s m _ below meth c _ st n0 0 0 _ 63 #[.val (.int (ushr32 (ushr32 a (8 : Int32)) (4 : Int32))), .val (.int (19 : Int32))] [(.int (4 : Int32)), (.int (ushr32 (ushr32 a (8 : Int32)) (4 : Int32)))] := s17
            |>.icmpN d3_51 (cmpF (cd := .lt) c18) rfl
            |>.iinc (19 : Int32) #[.val (.int (ushr32 a (8 : Int32))), .val (.int (19 : Int32))] d3_54 rfl rfl rfl rfl
            |>.iloadN d3_57 rfl rfl
            |>.iconst (4 : Int32) d3_58 rfl rfl
            |>.iushr d3_59 rfl
            |>.istoreN #[.val (.int (ushr32 (ushr32 a (8 : Int32)) (4 : Int32))), .val (.int (19 : Int32))] d3_60 rfl rfl
            |>.iloadN d3_61 rfl rfl
            |>.iconst (4 : Int32) d3_62 rfl rfl
          by_cases c24 : (ushr32 (ushr32 a (8 : Int32)) (4 : Int32)).toInt < (4 : Int)
          · have s25 : Sit p l e _ s m _ below meth c _ st n0 0 0 _ 78 #[.val (.int (ushr32 (ushr32 a (8 : Int32)) (4 : Int32))), .val (.int (19 : Int32))] [(.int ((19 : Int32) - (ushr32 (ushr32 (ushr32 a (8 : Int32)) (4 : Int32)) (1 : Int32))))] := s23
              |>.icmpY d3_63 (cmpT (cd := .lt) c24) (by decide) (by decide)
              |>.iloadN d3_73 rfl rfl
              |>.iloadN d3_74 rfl rfl
              |>.iconst (1 : Int32) d3_75 rfl rfl
              |>.iushr d3_76 rfl
              |>.isub d3_77 rfl
            exact s25.retI d3_78 hret hlk (fun hh q => ⟨⟨_, rfl⟩, q⟩)
          · have s26 : Sit p l e _ s m _ below meth c _ st n0 0 0 _ 78 #[.val (.int (ushr32 (ushr32 (ushr32 a (8 : Int32)) (4 : Int32)) (2 : Int32))), .val (.int (17 : Int32))] [(.int ((17 : Int32) - (ushr32 (ushr32 (ushr32 (ushr32 a (8 : Int32)) (4 : Int32)) (2 : Int32)) (1 : Int32))))] := s23
              |>.icmpN d3_63 (cmpF (cd := .lt) c24) rfl
              |>.iinc (17 : Int32) #[.val (.int (ushr32 (ushr32 a (8 : Int32)) (4 : Int32))), .val (.int (17 : Int32))] d3_66 rfl rfl rfl rfl
              |>.iloadN d3_69 rfl rfl
              |>.iconst (2 : Int32) d3_70 rfl rfl
              |>.iushr d3_71 rfl
              |>.istoreN #[.val (.int (ushr32 (ushr32 (ushr32 a (8 : Int32)) (4 : Int32)) (2 : Int32))), .val (.int (17 : Int32))] d3_72 rfl rfl
              |>.iloadN d3_73 rfl rfl
              |>.iloadN d3_74 rfl rfl
              |>.iconst (1 : Int32) d3_75 rfl rfl
              |>.iushr d3_76 rfl
              |>.isub d3_77 rfl
            exact s26.retI d3_78 hret hlk (fun hh q => ⟨⟨_, rfl⟩, q⟩)
    · have s27 : Sit p l e _ s m _ below meth c _ st n0 0 0 _ 37 #[.val (.int (ushr32 a (16 : Int32))), .val (.int (15 : Int32))] [(.int (256 : Int32)), (.int (ushr32 a (16 : Int32)))] := s3
        |>.icmpN d3_22 (cmpF (cd := .lt) c4) rfl
        |>.iinc (15 : Int32) #[.val (.int a), .val (.int (15 : Int32))] d3_25 rfl rfl rfl rfl
        |>.iloadN d3_28 rfl rfl
        |>.bipush (16 : Int32) d3_29 rfl rfl
        |>.iushr d3_31 rfl
        |>.istoreN #[.val (.int (ushr32 a (16 : Int32))), .val (.int (15 : Int32))] d3_32 rfl rfl
        |>.iloadN d3_33 rfl rfl
        |>.sipush (256 : Int32) d3_34 rfl rfl
      by_cases c28 : (ushr32 a (16 : Int32)).toInt < (256 : Int)
      · have s29 : Sit p l e _ s m _ below meth c _ st n0 0 0 _ 51 #[.val (.int (ushr32 a (16 : Int32))), .val (.int (15 : Int32))] [(.int (16 : Int32)), (.int (ushr32 a (16 : Int32)))] := s27
          |>.icmpY d3_37 (cmpT (cd := .lt) c28) (by decide) (by decide)
          |>.iloadN d3_48 rfl rfl
          |>.bipush (16 : Int32) d3_49 rfl rfl
        by_cases c30 : (ushr32 a (16 : Int32)).toInt < (16 : Int)
        · have s31 : Sit p l e _ s m _ below meth c _ st n0 0 0 _ 63 #[.val (.int (ushr32 a (16 : Int32))), .val (.int (15 : Int32))] [(.int (4 : Int32)), (.int (ushr32 a (16 : Int32)))] := s29
            |>.icmpY d3_51 (cmpT (cd := .lt) c30) (by decide) (by decide)
            |>.iloadN d3_61 rfl rfl
            |>.iconst (4 : Int32) d3_62 rfl rfl
          by_cases c32 : (ushr32 a (16 : Int32)).toInt < (4 : Int)
          · have s33 : Sit p l e _ s m _ below meth c _ st n0 0 0 _ 78 #[.val (.int (ushr32 a (16 : Int32))), .val (.int (15 : Int32))] [(.int ((15 : Int32) - (ushr32 (ushr32 a (16 : Int32)) (1 : Int32))))] := s31
              |>.icmpY d3_63 (cmpT (cd := .lt) c32) (by decide) (by decide)
              |>.iloadN d3_73 rfl rfl
              |>.iloadN d3_74 rfl rfl
              |>.iconst (1 : Int32) d3_75 rfl rfl
              |>.iushr d3_76 rfl
              |>.isub d3_77 rfl
            exact s33.retI d3_78 hret hlk (fun hh q => ⟨⟨_, rfl⟩, q⟩)
          · have s34 : Sit p l e _ s m _ below meth c _ st n0 0 0 _ 78 #[.val (.int (ushr32 (ushr32 a (16 : Int32)) (2 : Int32))), .val (.int (13 : Int32))] [(.int ((13 : Int32) - (ushr32 (ushr32 (ushr32 a (16 : Int32)) (2 : Int32)) (1 : Int32))))] := s31
              |>.icmpN d3_63 (cmpF (cd := .lt) c32) rfl
              |>.iinc (13 : Int32) #[.val (.int (ushr32 a (16 : Int32))), .val (.int (13 : Int32))] d3_66 rfl rfl rfl rfl
              |>.iloadN d3_69 rfl rfl
              |>.iconst (2 : Int32) d3_70 rfl rfl
              |>.iushr d3_71 rfl
              |>.istoreN #[.val (.int (ushr32 (ushr32 a (16 : Int32)) (2 : Int32))), .val (.int (13 : Int32))] d3_72 rfl rfl
              |>.iloadN d3_73 rfl rfl
              |>.iloadN d3_74 rfl rfl
              |>.iconst (1 : Int32) d3_75 rfl rfl
              |>.iushr d3_76 rfl
              |>.isub d3_77 rfl
            exact s34.retI d3_78 hret hlk (fun hh q => ⟨⟨_, rfl⟩, q⟩)
        · have s35 : Sit p l e _ s m _ below meth c _ st n0 0 0 _ 63 #[.val (.int (ushr32 (ushr32 a (16 : Int32)) (4 : Int32))), .val (.int (11 : Int32))] [(.int (4 : Int32)), (.int (ushr32 (ushr32 a (16 : Int32)) (4 : Int32)))] := s29
            |>.icmpN d3_51 (cmpF (cd := .lt) c30) rfl
            |>.iinc (11 : Int32) #[.val (.int (ushr32 a (16 : Int32))), .val (.int (11 : Int32))] d3_54 rfl rfl rfl rfl
            |>.iloadN d3_57 rfl rfl
            |>.iconst (4 : Int32) d3_58 rfl rfl
            |>.iushr d3_59 rfl
            |>.istoreN #[.val (.int (ushr32 (ushr32 a (16 : Int32)) (4 : Int32))), .val (.int (11 : Int32))] d3_60 rfl rfl
            |>.iloadN d3_61 rfl rfl
            |>.iconst (4 : Int32) d3_62 rfl rfl
          by_cases c36 : (ushr32 (ushr32 a (16 : Int32)) (4 : Int32)).toInt < (4 : Int)
          · have s37 : Sit p l e _ s m _ below meth c _ st n0 0 0 _ 78 #[.val (.int (ushr32 (ushr32 a (16 : Int32)) (4 : Int32))), .val (.int (11 : Int32))] [(.int ((11 : Int32) - (ushr32 (ushr32 (ushr32 a (16 : Int32)) (4 : Int32)) (1 : Int32))))] := s35
              |>.icmpY d3_63 (cmpT (cd := .lt) c36) (by decide) (by decide)
              |>.iloadN d3_73 rfl rfl
              |>.iloadN d3_74 rfl rfl
              |>.iconst (1 : Int32) d3_75 rfl rfl
              |>.iushr d3_76 rfl
              |>.isub d3_77 rfl
            exact s37.retI d3_78 hret hlk (fun hh q => ⟨⟨_, rfl⟩, q⟩)
          · have s38 : Sit p l e _ s m _ below meth c _ st n0 0 0 _ 78 #[.val (.int (ushr32 (ushr32 (ushr32 a (16 : Int32)) (4 : Int32)) (2 : Int32))), .val (.int (9 : Int32))] [(.int ((9 : Int32) - (ushr32 (ushr32 (ushr32 (ushr32 a (16 : Int32)) (4 : Int32)) (2 : Int32)) (1 : Int32))))] := s35
              |>.icmpN d3_63 (cmpF (cd := .lt) c36) rfl
              |>.iinc (9 : Int32) #[.val (.int (ushr32 (ushr32 a (16 : Int32)) (4 : Int32))), .val (.int (9 : Int32))] d3_66 rfl rfl rfl rfl
              |>.iloadN d3_69 rfl rfl
              |>.iconst (2 : Int32) d3_70 rfl rfl
              |>.iushr d3_71 rfl
              |>.istoreN #[.val (.int (ushr32 (ushr32 (ushr32 a (16 : Int32)) (4 : Int32)) (2 : Int32))), .val (.int (9 : Int32))] d3_72 rfl rfl
              |>.iloadN d3_73 rfl rfl
              |>.iloadN d3_74 rfl rfl
              |>.iconst (1 : Int32) d3_75 rfl rfl
              |>.iushr d3_76 rfl
              |>.isub d3_77 rfl
            exact s38.retI d3_78 hret hlk (fun hh q => ⟨⟨_, rfl⟩, q⟩)
      · have s39 : Sit p l e _ s m _ below meth c _ st n0 0 0 _ 51 #[.val (.int (ushr32 (ushr32 a (16 : Int32)) (8 : Int32))), .val (.int (7 : Int32))] [(.int (16 : Int32)), (.int (ushr32 (ushr32 a (16 : Int32)) (8 : Int32)))] := s27
          |>.icmpN d3_37 (cmpF (cd := .lt) c28) rfl
          |>.iinc (7 : Int32) #[.val (.int (ushr32 a (16 : Int32))), .val (.int (7 : Int32))] d3_40 rfl rfl rfl rfl
          |>.iloadN d3_43 rfl rfl
          |>.bipush (8 : Int32) d3_44 rfl rfl
          |>.iushr d3_46 rfl
          |>.istoreN #[.val (.int (ushr32 (ushr32 a (16 : Int32)) (8 : Int32))), .val (.int (7 : Int32))] d3_47 rfl rfl
          |>.iloadN d3_48 rfl rfl
          |>.bipush (16 : Int32) d3_49 rfl rfl
        by_cases c40 : (ushr32 (ushr32 a (16 : Int32)) (8 : Int32)).toInt < (16 : Int)
        · have s41 : Sit p l e _ s m _ below meth c _ st n0 0 0 _ 63 #[.val (.int (ushr32 (ushr32 a (16 : Int32)) (8 : Int32))), .val (.int (7 : Int32))] [(.int (4 : Int32)), (.int (ushr32 (ushr32 a (16 : Int32)) (8 : Int32)))] := s39
            |>.icmpY d3_51 (cmpT (cd := .lt) c40) (by decide) (by decide)
            |>.iloadN d3_61 rfl rfl
            |>.iconst (4 : Int32) d3_62 rfl rfl
          by_cases c42 : (ushr32 (ushr32 a (16 : Int32)) (8 : Int32)).toInt < (4 : Int)
          · have s43 : Sit p l e _ s m _ below meth c _ st n0 0 0 _ 78 #[.val (.int (ushr32 (ushr32 a (16 : Int32)) (8 : Int32))), .val (.int (7 : Int32))] [(.int ((7 : Int32) - (ushr32 (ushr32 (ushr32 a (16 : Int32)) (8 : Int32)) (1 : Int32))))] := s41
              |>.icmpY d3_63 (cmpT (cd := .lt) c42) (by decide) (by decide)
              |>.iloadN d3_73 rfl rfl
              |>.iloadN d3_74 rfl rfl
              |>.iconst (1 : Int32) d3_75 rfl rfl
              |>.iushr d3_76 rfl
              |>.isub d3_77 rfl
            exact s43.retI d3_78 hret hlk (fun hh q => ⟨⟨_, rfl⟩, q⟩)
          · have s44 : Sit p l e _ s m _ below meth c _ st n0 0 0 _ 78 #[.val (.int (ushr32 (ushr32 (ushr32 a (16 : Int32)) (8 : Int32)) (2 : Int32))), .val (.int (5 : Int32))] [(.int ((5 : Int32) - (ushr32 (ushr32 (ushr32 (ushr32 a (16 : Int32)) (8 : Int32)) (2 : Int32)) (1 : Int32))))] := s41
              |>.icmpN d3_63 (cmpF (cd := .lt) c42) rfl
              |>.iinc (5 : Int32) #[.val (.int (ushr32 (ushr32 a (16 : Int32)) (8 : Int32))), .val (.int (5 : Int32))] d3_66 rfl rfl rfl rfl
              |>.iloadN d3_69 rfl rfl
              |>.iconst (2 : Int32) d3_70 rfl rfl
              |>.iushr d3_71 rfl
              |>.istoreN #[.val (.int (ushr32 (ushr32 (ushr32 a (16 : Int32)) (8 : Int32)) (2 : Int32))), .val (.int (5 : Int32))] d3_72 rfl rfl
              |>.iloadN d3_73 rfl rfl
              |>.iloadN d3_74 rfl rfl
              |>.iconst (1 : Int32) d3_75 rfl rfl
              |>.iushr d3_76 rfl
              |>.isub d3_77 rfl
            exact s44.retI d3_78 hret hlk (fun hh q => ⟨⟨_, rfl⟩, q⟩)
        · have s45 : Sit p l e _ s m _ below meth c _ st n0 0 0 _ 63 #[.val (.int (ushr32 (ushr32 (ushr32 a (16 : Int32)) (8 : Int32)) (4 : Int32))), .val (.int (3 : Int32))] [(.int (4 : Int32)), (.int (ushr32 (ushr32 (ushr32 a (16 : Int32)) (8 : Int32)) (4 : Int32)))] := s39
            |>.icmpN d3_51 (cmpF (cd := .lt) c40) rfl
            |>.iinc (3 : Int32) #[.val (.int (ushr32 (ushr32 a (16 : Int32)) (8 : Int32))), .val (.int (3 : Int32))] d3_54 rfl rfl rfl rfl
            |>.iloadN d3_57 rfl rfl
            |>.iconst (4 : Int32) d3_58 rfl rfl
            |>.iushr d3_59 rfl
            |>.istoreN #[.val (.int (ushr32 (ushr32 (ushr32 a (16 : Int32)) (8 : Int32)) (4 : Int32))), .val (.int (3 : Int32))] d3_60 rfl rfl
            |>.iloadN d3_61 rfl rfl
            |>.iconst (4 : Int32) d3_62 rfl rfl
          by_cases c46 : (ushr32 (ushr32 (ushr32 a (16 : Int32)) (8 : Int32)) (4 : Int32)).toInt < (4 : Int)
          · have s47 : Sit p l e _ s m _ below meth c _ st n0 0 0 _ 78 #[.val (.int (ushr32 (ushr32 (ushr32 a (16 : Int32)) (8 : Int32)) (4 : Int32))), .val (.int (3 : Int32))] [(.int ((3 : Int32) - (ushr32 (ushr32 (ushr32 (ushr32 a (16 : Int32)) (8 : Int32)) (4 : Int32)) (1 : Int32))))] := s45
              |>.icmpY d3_63 (cmpT (cd := .lt) c46) (by decide) (by decide)
              |>.iloadN d3_73 rfl rfl
              |>.iloadN d3_74 rfl rfl
              |>.iconst (1 : Int32) d3_75 rfl rfl
              |>.iushr d3_76 rfl
              |>.isub d3_77 rfl
            exact s47.retI d3_78 hret hlk (fun hh q => ⟨⟨_, rfl⟩, q⟩)
          · have s48 : Sit p l e _ s m _ below meth c _ st n0 0 0 _ 78 #[.val (.int (ushr32 (ushr32 (ushr32 (ushr32 a (16 : Int32)) (8 : Int32)) (4 : Int32)) (2 : Int32))), .val (.int (1 : Int32))] [(.int ((1 : Int32) - (ushr32 (ushr32 (ushr32 (ushr32 (ushr32 a (16 : Int32)) (8 : Int32)) (4 : Int32)) (2 : Int32)) (1 : Int32))))] := s45
              |>.icmpN d3_63 (cmpF (cd := .lt) c46) rfl
              |>.iinc (1 : Int32) #[.val (.int (ushr32 (ushr32 (ushr32 a (16 : Int32)) (8 : Int32)) (4 : Int32))), .val (.int (1 : Int32))] d3_66 rfl rfl rfl rfl
              |>.iloadN d3_69 rfl rfl
              |>.iconst (2 : Int32) d3_70 rfl rfl
              |>.iushr d3_71 rfl
              |>.istoreN #[.val (.int (ushr32 (ushr32 (ushr32 (ushr32 a (16 : Int32)) (8 : Int32)) (4 : Int32)) (2 : Int32))), .val (.int (1 : Int32))] d3_72 rfl rfl
              |>.iloadN d3_73 rfl rfl
              |>.iloadN d3_74 rfl rfl
              |>.iconst (1 : Int32) d3_75 rfl rfl
              |>.iushr d3_76 rfl
              |>.isub d3_77 rfl
            exact s48.retI d3_78 hret hlk (fun hh q => ⟨⟨_, rfl⟩, q⟩)
  · have s49 : Sit p l e _ s m _ below meth c _ st n0 0 0 _ 5 #[.val (.int a), .unset] [(.int a)] := s1
      |>.ifN d3_1 (cmpF0 (cd := .gt) c2) rfl
      |>.iloadN d3_4 rfl rfl
    by_cases c50 : ¬ a = 0
    · have s51 : Sit p l e _ s m _ below meth c _ st n0 0 0 _ 14 #[.val (.int a), .unset] [(.int (0 : Int32))] := s49
        |>.ifY d3_5 (neT c50) (by decide) (by decide)
        |>.iconst (0 : Int32) d3_13 rfl rfl
      exact s51.retI d3_14 hret hlk (fun hh q => ⟨⟨_, rfl⟩, q⟩)
    · have s52 : Sit p l e _ s m _ below meth c _ st n0 0 0 _ 14 #[.val (.int a), .unset] [(.int (32 : Int32))] := s49
        |>.ifN d3_5 ((neF (Classical.not_not.mp c50))) rfl
        |>.bipush (32 : Int32) d3_8 rfl rfl
        |>.goto d3_10 (by decide) (by decide)
      exact s52.retI d3_14 hret hlk (fun hh q => ⟨⟨_, rfl⟩, q⟩)
theorem pd_0 : parseMethodDescriptor "(I)I" = some ⟨[.int], some .int⟩ := by decide +kernel
theorem pd_1 : parseMethodDescriptor "(II)I" = some ⟨[.int, .int], some .int⟩ := by decide +kernel
theorem pd_2 : parseMethodDescriptor "(IIII)I" = some ⟨[.int, .int, .int, .int], some .int⟩ := by decide +kernel
theorem pn_rmPow : plainName "com/example/o1bucket/o1bucket/range/BucketCounts" = true := by first | (simp [plainName, overriddenIn]; done) | decide +kernel
theorem d2_0 : decode prog_6_method_3_code 0 = .ok (.ldc2_w 16, 3) := by decide +kernel
theorem d2_3 : decode prog_6_method_3_code 3 = .ok (.iload_n 0, 1) := by decide +kernel
theorem d2_4 : decode prog_6_method_3_code 4 = .ok (.iconst 1, 1) := by decide +kernel
theorem d2_5 : decode prog_6_method_3_code 5 = .ok (.isub, 1) := by decide +kernel
theorem d2_6 : decode prog_6_method_3_code 6 = .ok (.invokestatic 18, 3) := by decide +kernel
theorem d2_9 : decode prog_6_method_3_code 9 = .ok (.lushr, 1) := by decide +kernel
theorem d2_10 : decode prog_6_method_3_code 10 = .ok (.l2i, 1) := by decide +kernel
theorem d2_11 : decode prog_6_method_3_code 11 = .ok (.ireturn, 1) := by decide +kernel
theorem ef_rmPow (m : MethodId) (a : Int32) : entryFrame m #[(.int a)] 1 = mkF m 0 #[.val (.int a)] [] := by first | (simp [entryFrame, mkF, argsToLocals, Value.category]; done) | rfl
set_option maxRecDepth 65536 in
set_option maxHeartbeats 40000000 in
theorem rmPow (l : Launch) (Z : State) (a0 : Array Value) (hw : ∀ d ∈ tables_1, d.before a0 Z = true) (ws : List Jvm.Cond) (a : Int32)  (h0 : Heap) (n0 : Nat) (Z0 : n0 ≤ h0.size)  : Met1 l (⟨"com/example/o1bucket/o1bucket/range/BucketCounts", "powerOfTwoMask", "(I)I"⟩ : MethodName) prog_6_method_3_code 1 (some .int) ws ({ frames := 1, cells := 0, slots := 0, locals := 40 } : Room) Z #[(.int a)] h0 n0 (fun v hh => (∃ y : Int32, v = some (.int y)) ∧ hh = h0) := by
  refine Met1.of (L0 := #[.val (.int a)]) (plainFor_of_name pn_rmPow) (fun m => ef_rmPow m a) Z0 ?_
  intro p e s m below meth c st s0 hZ hown hret hlk hnm hml
  have s1 : Sit p l e _ s m _ below meth c _ st n0 0 0 _ 6 #[.val (.int a)] [(.int (a - (1 : Int32))), (.long (4294967295 : Int64))] := s0
    |>.ldc2 hZ hown (wi hw 9 rfl) d2_0 rfl
    |>.iloadN d2_3 rfl rfl
    |>.iconst (1 : Int32) d2_4 rfl rfl
    |>.isub d2_5 rfl
  obtain ⟨r3, s2⟩ := Sit.callS (y := (⟨"java/lang/Integer", "numberOfLeadingZeros", "(I)I"⟩ : MethodName)) (W := 2) (Q := fun v hh => ∃ z : Int32, (v = some (.int z)) ∧ (fun hh => hh = h0) hh) [(.int (a - (1 : Int32)))] [(.long (4294967295 : Int64))] s1 hZ hown (wi hw 10 rfl) (wi hw 11 rfl) (wi hw 12 rfl) (wi hw 13 rfl) (by decide) (fun h1 hP hn => (rmNlz l Z a0 hw [] _ h1 n0 hn).mono fun v hh q => by
      obtain ⟨⟨z, e1⟩, e2⟩ := q
      exact ⟨z, e1, e2 ▸ hP⟩) hml rfl (lenOf pd_0 rfl) d2_6 (Nat.le_of_eq rfl) (by decide) (by decide) (by decide) (by decide) (pc' := 9) rfl
  obtain ⟨z, s5⟩ := s2.ex
  obtain ⟨_, er3, _⟩ := s5.facts
  subst er3
  have s4 : Sit p l e _ s m _ below meth c _ st n0 0 0 (fun hh => hh = h0) 9 #[.val (.int a)] [(.int z), (.long (4294967295 : Int64))] := s5.mono fun _ q => q.2
  have s6 : Sit p l e _ s m _ below meth c _ st n0 0 0 _ 11 #[.val (.int a)] [(.int (ushr64 (4294967295 : Int64) z).toInt32)] := s4
    |>.lushr d2_9 rfl
    |>.l2i d2_10 rfl
  exact s6.retI d2_11 hret hlk (fun hh q => ⟨⟨_, rfl⟩, q⟩)
theorem pn_rmTop : plainName "com/example/o1bucket/o1bucket/range/BucketCounts" = true := by first | (simp [plainName, overriddenIn]; done) | decide +kernel
theorem d4_0 : decode prog_6_method_7_code 0 = .ok (.iload_n 2, 1) := by decide +kernel
theorem d4_1 : decode prog_6_method_7_code 1 = .ok (.iload_n 0, 1) := by decide +kernel
theorem d4_2 : decode prog_6_method_7_code 2 = .ok (.isub, 1) := by decide +kernel
theorem d4_3 : decode prog_6_method_7_code 3 = .ok (.iload_n 0, 1) := by decide +kernel
theorem d4_4 : decode prog_6_method_7_code 4 = .ok (.iload_n 3, 1) := by decide +kernel
theorem d4_5 : decode prog_6_method_7_code 5 = .ok (.isub, 1) := by decide +kernel
theorem d4_6 : decode prog_6_method_7_code 6 = .ok (.iand, 1) := by decide +kernel
theorem d4_7 : decode prog_6_method_7_code 7 = .ok (.bipush 31, 2) := by decide +kernel
theorem d4_9 : decode prog_6_method_7_code 9 = .ok (.ishr, 1) := by decide +kernel
theorem d4_10 : decode prog_6_method_7_code 10 = .ok (.istore 4, 2) := by decide +kernel
theorem d4_12 : decode prog_6_method_7_code 12 = .ok (.iload_n 1, 1) := by decide +kernel
theorem d4_13 : decode prog_6_method_7_code 13 = .ok (.iload_n 0, 1) := by decide +kernel
theorem d4_14 : decode prog_6_method_7_code 14 = .ok (.iload_n 1, 1) := by decide +kernel
theorem d4_15 : decode prog_6_method_7_code 15 = .ok (.ixor, 1) := by decide +kernel
theorem d4_16 : decode prog_6_method_7_code 16 = .ok (.iload 4, 2) := by decide +kernel
theorem d4_18 : decode prog_6_method_7_code 18 = .ok (.iand, 1) := by decide +kernel
theorem d4_19 : decode prog_6_method_7_code 19 = .ok (.ixor, 1) := by decide +kernel
theorem d4_20 : decode prog_6_method_7_code 20 = .ok (.ireturn, 1) := by decide +kernel
theorem ef_rmTop (m : MethodId) (a : Int32) (b : Int32) (d : Int32) (f : Int32) : entryFrame m #[(.int a), (.int b), (.int d), (.int f)] 5 = mkF m 0 #[.val (.int a), .val (.int b), .val (.int d), .val (.int f), .unset] [] := by first | (simp [entryFrame, mkF, argsToLocals, Value.category]; done) | rfl
set_option maxRecDepth 65536 in
set_option maxHeartbeats 40000000 in
theorem rmTop (l : Launch) (Z : State) (a0 : Array Value) (hw : ∀ d ∈ tables_1, d.before a0 Z = true) (ws : List Jvm.Cond) (a : Int32) (b : Int32) (d : Int32) (f : Int32)  (h0 : Heap) (n0 : Nat) (Z0 : n0 ≤ h0.size)  : Met1 l (⟨"com/example/o1bucket/o1bucket/range/BucketCounts", "topRangeOr", "(IIII)I"⟩ : MethodName) prog_6_method_7_code 5 (some .int) ws ({ frames := 0, cells := 0, slots := 0, locals := 0 } : Room) Z #[(.int a), (.int b), (.int d), (.int f)] h0 n0 (fun v hh => v = some (.int (trF a b d f)) ∧ hh = h0) := by
  refine Met1.of (L0 := #[.val (.int a), .val (.int b), .val (.int d), .val (.int f), .unset]) (plainFor_of_name pn_rmTop) (fun m => ef_rmTop m a b d f) Z0 ?_
  intro p e s m below meth c st s0 hZ hown hret hlk hnm hml
  have s1 : Sit p l e _ s m _ below meth c _ st n0 0 0 _ 20 #[.val (.int a), .val (.int b), .val (.int d), .val (.int f), .val (.int (((d - a) &&& (a - f)) >>> ((31 : Int32) &&& 31)))] [(.int (b ^^^ ((a ^^^ b) &&& (((d - a) &&& (a - f)) >>> ((31 : Int32) &&& 31)))))] := s0
    |>.iloadN d4_0 rfl rfl
    |>.iloadN d4_1 rfl rfl
    |>.isub d4_2 rfl
    |>.iloadN d4_3 rfl rfl
    |>.iloadN d4_4 rfl rfl
    |>.isub d4_5 rfl
    |>.iand d4_6 rfl
    |>.bipush (31 : Int32) d4_7 rfl rfl
    |>.ishr d4_9 rfl
    |>.istore #[.val (.int a), .val (.int b), .val (.int d), .val (.int f), .val (.int (((d - a) &&& (a - f)) >>> ((31 : Int32) &&& 31)))] d4_10 rfl rfl
    |>.iloadN d4_12 rfl rfl
    |>.iloadN d4_13 rfl rfl
    |>.iloadN d4_14 rfl rfl
    |>.ixor d4_15 rfl
    |>.iload d4_16 rfl rfl
    |>.iand d4_18 rfl
    |>.ixor d4_19 rfl
  exact s1.retI d4_20 hret hlk (fun hh q => ⟨rfl, q⟩)
theorem pn_rm0 : plainName "com/example/o1bucket/o1bucket/range/BucketCountsTopRangeOrPinLaw" = true := by first | (simp [plainName, overriddenIn]; done) | decide +kernel
theorem ef_rm0 (m : MethodId) (u0 : Int32) (u1 : Int32) (u2 : Int32) (u3 : Int32) : entryFrame m #[(.int u0), (.int u1), (.int u2), (.int u3)] maxLocals = mkF m 0 #[.val (.int u0), .val (.int u1), .val (.int u2), .val (.int u3), .unset, .unset, .unset, .unset, .unset, .unset] [] := by first | (simp [entryFrame, mkF, argsToLocals, Value.category, maxLocals]; done) | rfl
set_option maxRecDepth 65536 in
set_option maxHeartbeats 40000000 in
theorem rm0 (l : Launch) (Z : State) (a0 : Array Value) (hw : ∀ d ∈ tables_1, d.before a0 Z = true) (ws : List Jvm.Cond) (u0 : Int32) (u1 : Int32) (u2 : Int32) (u3 : Int32)  (h0 : Heap) (n0 : Nat) (Z0 : n0 ≤ h0.size)  : Met1 l x code maxLocals ret ws room_1 Z #[(.int u0), (.int u1), (.int u2), (.int u3)] h0 n0 (fun v hh => v = some (.int 1)) := by
  refine Met1.of (L0 := #[.val (.int u0), .val (.int u1), .val (.int u2), .val (.int u3), .unset, .unset, .unset, .unset, .unset, .unset]) (plainFor_of_name pn_rm0) (fun m => ef_rm0 m u0 u1 u2 u3) Z0 ?_
  intro p e s m below meth c st s0 hZ hown hret hlk hnm hml
  have hown : s.vm.findClass "com/example/o1bucket/o1bucket/range/BucketCountsTopRangeOrPinLaw" = some m.cls := hown
  have hret : meth.sig.returnType = some .boolean := hret
  have hml : c.maxLocals = 10 := hml
  have s1 : Sit p l e _ s m _ below meth c _ st n0 0 0 _ 6 #[.val (.int u0), .val (.int u1), .val (.int u2), .val (.int u3), .unset, .unset, .unset, .unset, .unset, .unset] [(.int ((u3 >>> ((5 : Int32) &&& 31)) &&& (1 : Int32))), (.int (1 : Int32))] := s0
    |>.iconst (1 : Int32) at_0 rfl rfl
    |>.iloadN at_1 rfl rfl
    |>.iconst (5 : Int32) at_2 rfl rfl
    |>.ishr at_3 rfl
    |>.iconst (1 : Int32) at_4 rfl rfl
    |>.iand at_5 rfl
  by_cases c0 : ((u3 >>> ((5 : Int32) &&& 31)) &&& (1 : Int32)) = 0
  · have s2 : Sit p l e _ s m _ below meth c _ st n0 0 0 _ 21 #[.val (.int u0), .val (.int u1), .val (.int u2), .val (.int u3), .unset, .unset, .unset, .unset, .unset, .unset] [(.int (u2 &&& (2147483647 : Int32))), (.int (1 : Int32))] := s1
      |>.ifY at_6 (eqT c0) (by decide) (by decide)
      |>.iloadN at_17 rfl rfl
      |>.ldc hZ hown (wi hw 0 rfl) at_18 rfl
      |>.iand at_20 rfl
    obtain ⟨r4, s3⟩ := Sit.callS (y := (⟨"java/lang/Math", "max", "(II)I"⟩ : MethodName)) (W := 0) (Q := fun v hh => (v = some (.int (mxF (1 : Int32) (u2 &&& (2147483647 : Int32))))) ∧ (fun hh => hh = h0) hh) [(.int (1 : Int32)), (.int (u2 &&& (2147483647 : Int32)))] [] s2 hZ hown (wi hw 1 rfl) (wi hw 2 rfl) (wi hw 3 rfl) (wi hw 4 rfl) (by decide) (fun h1 hP hn => (rmMax l Z a0 hw [] (1 : Int32) (u2 &&& (2147483647 : Int32)) h1 n0 hn).mono fun v hh q => ⟨q.1, q.2 ▸ hP⟩) hml rfl (lenOf pd_1 rfl) at_21 (Nat.le_of_eq rfl) (by decide) (by decide) (by decide) (by decide) (pc' := 24) rfl
    obtain ⟨_, er4, _⟩ := s3.facts
    subst er4
    have s5 : Sit p l e _ s m _ below meth c _ st n0 0 0 (fun hh => hh = h0) 24 #[.val (.int u0), .val (.int u1), .val (.int u2), .val (.int u3), .unset, .unset, .unset, .unset, .unset, .unset] [(.int (mxF (1 : Int32) (u2 &&& (2147483647 : Int32))))] := s3.mono fun _ q => q.2
    obtain ⟨nn, e_nn, s6⟩ : ∃ nn : Int32, nn = (mxF (1 : Int32) (u2 &&& (2147483647 : Int32))) ∧ Sit p l e _ s m _ below meth c _ st n0 0 0 _ 24 #[.val (.int u0), .val (.int u1), .val (.int u2), .val (.int u3), .unset, .unset, .unset, .unset, .unset, .unset] [(.int nn)] := ⟨_, rfl, s5⟩
    have s7 : Sit p l e _ s m _ below meth c _ st n0 0 0 _ 28 #[.val (.int u0), .val (.int u1), .val (.int u2), .val (.int u3), .val (.int nn), .unset, .unset, .unset, .unset, .unset] [(.int nn)] := s6
      |>.istore #[.val (.int u0), .val (.int u1), .val (.int u2), .val (.int u3), .val (.int nn), .unset, .unset, .unset, .unset, .unset] at_24 rfl rfl
      |>.iload at_26 rfl rfl
    have hn1 : 1 ≤ nn.toInt := by rw [e_nn]; exact mx1 _
    obtain ⟨r9, s8⟩ := Sit.callS (y := (⟨"com/example/o1bucket/o1bucket/range/BucketCounts", "powerOfTwoMask", "(I)I"⟩ : MethodName)) (W := 0) (Q := fun v hh => ∃ pw : Int32, (v = some (.int pw)) ∧ (fun hh => hh = h0) hh) [(.int nn)] [] s7 hZ hown (wi hw 5 rfl) (wi hw 6 rfl) (wi hw 7 rfl) (wi hw 8 rfl) (by decide) (fun h1 hP hn => (rmPow l Z a0 hw [] nn h1 n0 hn).mono fun v hh q => by
        obtain ⟨⟨z, e1⟩, e2⟩ := q
        exact ⟨z, e1, e2 ▸ hP⟩) hml rfl (lenOf pd_0 rfl) at_28 (Nat.le_of_eq rfl) (by decide) (by decide) (by decide) (by decide) (pc' := 31) rfl
    obtain ⟨pw, s11⟩ := s8.ex
    obtain ⟨_, er9, _⟩ := s11.facts
    subst er9
    have s10 : Sit p l e _ s m _ below meth c _ st n0 0 0 (fun hh => hh = h0) 31 #[.val (.int u0), .val (.int u1), .val (.int u2), .val (.int u3), .val (.int nn), .unset, .unset, .unset, .unset, .unset] [(.int pw)] := s11.mono fun _ q => q.2
    have s12 : Sit p l e _ s m _ below meth c _ st n0 0 0 _ 33 #[.val (.int u0), .val (.int u1), .val (.int u2), .val (.int u3), .val (.int nn), .unset, .unset, .unset, .unset, .unset] [(.int (ushr32 pw (1 : Int32)))] := s10
      |>.iconst (1 : Int32) at_31 rfl rfl
      |>.iushr at_32 rfl
    obtain ⟨lm, e_lm, s13⟩ : ∃ lm : Int32, lm = (ushr32 pw (1 : Int32)) ∧ Sit p l e _ s m _ below meth c _ st n0 0 0 _ 33 #[.val (.int u0), .val (.int u1), .val (.int u2), .val (.int u3), .val (.int nn), .unset, .unset, .unset, .unset, .unset] [(.int lm)] := ⟨_, rfl, s12⟩
    have hl : 0 ≤ lm.toInt := by rw [e_lm]; exact ushr1_nonneg _
    have s14 : Sit p l e _ s m _ below meth c _ st n0 0 0 _ 43 #[.val (.int u0), .val (.int u1), .val (.int u2), .val (.int u3), .val (.int nn), .val (.int lm), .unset, .unset, .unset, .unset] [(.int (((u3 >>> ((2 : Int32) &&& 31)) &&& (7 : Int32)) - (4 : Int32)))] := s13
      |>.istore #[.val (.int u0), .val (.int u1), .val (.int u2), .val (.int u3), .val (.int nn), .val (.int lm), .unset, .unset, .unset, .unset] at_33 rfl rfl
      |>.iloadN at_35 rfl rfl
      |>.iconst (2 : Int32) at_36 rfl rfl
      |>.ishr at_37 rfl
      |>.bipush (7 : Int32) at_38 rfl rfl
      |>.iand at_40 rfl
      |>.iconst (4 : Int32) at_41 rfl rfl
      |>.isub at_42 rfl
    obtain ⟨dl, e_dl, s15⟩ : ∃ dl : Int32, dl = (((u3 >>> ((2 : Int32) &&& 31)) &&& (7 : Int32)) - (4 : Int32)) ∧ Sit p l e _ s m _ below meth c _ st n0 0 0 _ 43 #[.val (.int u0), .val (.int u1), .val (.int u2), .val (.int u3), .val (.int nn), .val (.int lm), .unset, .unset, .unset, .unset] [(.int dl)] := ⟨_, rfl, s14⟩
    have s16 : Sit p l e _ s m _ below meth c _ st n0 0 0 _ 48 #[.val (.int u0), .val (.int u1), .val (.int u2), .val (.int u3), .val (.int nn), .val (.int lm), .val (.int dl), .unset, .unset, .unset] [(.int (u3 &&& (3 : Int32)))] := s15
      |>.istore #[.val (.int u0), .val (.int u1), .val (.int u2), .val (.int u3), .val (.int nn), .val (.int lm), .val (.int dl), .unset, .unset, .unset] at_43 rfl rfl
      |>.iloadN at_45 rfl rfl
      |>.iconst (3 : Int32) at_46 rfl rfl
      |>.iand at_47 rfl
    obtain ⟨md, e_md, s17⟩ : ∃ md : Int32, md = (u3 &&& (3 : Int32)) ∧ Sit p l e _ s m _ below meth c _ st n0 0 0 _ 48 #[.val (.int u0), .val (.int u1), .val (.int u2), .val (.int u3), .val (.int nn), .val (.int lm), .val (.int dl), .unset, .unset, .unset] [(.int md)] := ⟨_, rfl, s16⟩
    have s18 : Sit p l e _ s m _ below meth c _ st n0 0 0 _ 52 #[.val (.int u0), .val (.int u1), .val (.int u2), .val (.int u3), .val (.int nn), .val (.int lm), .val (.int dl), .val (.int md), .unset, .unset] [(.int md)] := s17
      |>.istore #[.val (.int u0), .val (.int u1), .val (.int u2), .val (.int u3), .val (.int nn), .val (.int lm), .val (.int dl), .val (.int md), .unset, .unset] at_48 rfl rfl
      |>.iload at_50 rfl rfl
    by_cases c19 : ¬ md = 0
    · have s20 : Sit p l e _ s m _ below meth c _ st n0 0 0 _ 67 #[.val (.int u0), .val (.int u1), .val (.int u2), .val (.int u3), .val (.int nn), .val (.int lm), .val (.int dl), .val (.int md), .unset, .unset] [(.int (1 : Int32)), (.int md)] := s18
        |>.ifY at_52 (neT c19) (by decide) (by decide)
        |>.iload at_64 rfl rfl
        |>.iconst (1 : Int32) at_66 rfl rfl
      by_cases c21 : ¬ md = (1 : Int32)
      · have s22 : Sit p l e _ s m _ below meth c _ st n0 0 0 _ 86 #[.val (.int u0), .val (.int u1), .val (.int u2), .val (.int u3), .val (.int nn), .val (.int lm), .val (.int dl), .val (.int md), .unset, .unset] [(.int (2 : Int32)), (.int md)] := s20
          |>.icmpY at_67 (neT c21) (by decide) (by decide)
          |>.iload at_83 rfl rfl
          |>.iconst (2 : Int32) at_85 rfl rfl
        by_cases c23 : ¬ md = (2 : Int32)
        · have s24 : Sit p l e _ s m _ below meth c _ st n0 0 0 _ 109 #[.val (.int u0), .val (.int u1), .val (.int u2), .val (.int u3), .val (.int nn), .val (.int lm), .val (.int dl), .val (.int md), .val (.int (u0 &&& (255 : Int32))), .unset] [] := s22
            |>.icmpY at_86 (neT c23) (by decide) (by decide)
            |>.iloadN at_102 rfl rfl
            |>.sipush (255 : Int32) at_103 rfl rfl
            |>.iand at_106 rfl
            |>.istore #[.val (.int u0), .val (.int u1), .val (.int u2), .val (.int u3), .val (.int nn), .val (.int lm), .val (.int dl), .val (.int md), .val (.int (u0 &&& (255 : Int32))), .unset] at_107 rfl rfl
          obtain ⟨cd, e_cd, s25⟩ : ∃ cd : Int32, cd = (u0 &&& (255 : Int32)) ∧ Sit p l e _ s m _ below meth c _ st n0 0 0 _ 109 #[.val (.int u0), .val (.int u1), .val (.int u2), .val (.int u3), .val (.int nn), .val (.int lm), .val (.int dl), .val (.int md), .val (.int cd), .unset] [] := ⟨_, rfl, s24⟩
          have hc : 0 ≤ cd.toInt := by rw [e_cd]; first | exact and31 _ | exact and255 _
          have s26 : Sit p l e _ s m _ below meth c _ st n0 0 0 _ 113 #[.val (.int u0), .val (.int u1), .val (.int u2), .val (.int u3), .val (.int nn), .val (.int lm), .val (.int dl), .val (.int md), .val (.int cd), .unset] [(.int cd), (.int lm)] := s25
            |>.iload at_109 rfl rfl
            |>.iload at_111 rfl rfl
          by_cases c27 : lm.toInt ≥ cd.toInt
          · have s28 : Sit p l e _ s m _ below meth c _ st n0 0 0 _ 140 #[.val (.int u0), .val (.int u1), .val (.int u2), .val (.int u3), .val (.int nn), .val (.int lm), .val (.int dl), .val (.int md), .val (.int cd), .val (.int u1)] [(.int nn), (.int lm), (.int u1), (.int cd)] := s26
              |>.icmpY at_113 (cmpT (cd := .ge) c27) (by decide) (by decide)
              |>.iloadN at_130 rfl rfl
              |>.istore #[.val (.int u0), .val (.int u1), .val (.int u2), .val (.int u3), .val (.int nn), .val (.int lm), .val (.int dl), .val (.int md), .val (.int cd), .val (.int u1)] at_131 rfl rfl
              |>.iload at_133 rfl rfl
              |>.iloadN at_135 rfl rfl
              |>.iload at_136 rfl rfl
              |>.iload at_138 rfl rfl
            obtain ⟨r30, s29⟩ := Sit.callS (y := (⟨"com/example/o1bucket/o1bucket/range/BucketCounts", "topRangeOr", "(IIII)I"⟩ : MethodName)) (W := 0) (Q := fun v hh => (v = some (.int (trF cd u1 lm nn))) ∧ (fun hh => hh = h0) hh) [(.int cd), (.int u1), (.int lm), (.int nn)] [] s28 hZ hown (wi hw 15 rfl) (wi hw 16 rfl) (wi hw 7 rfl) (wi hw 17 rfl) (by decide) (fun h1 hP hn => (rmTop l Z a0 hw [] cd u1 lm nn h1 n0 hn).mono fun v hh q => ⟨q.1, q.2 ▸ hP⟩) hml rfl (lenOf pd_2 rfl) at_140 (Nat.le_of_eq rfl) (by decide) (by decide) (by decide) (by decide) (pc' := 143) rfl
            obtain ⟨_, er30, _⟩ := s29.facts
            subst er30
            have s31 : Sit p l e _ s m _ below meth c _ st n0 0 0 (fun hh => hh = h0) 143 #[.val (.int u0), .val (.int u1), .val (.int u2), .val (.int u3), .val (.int nn), .val (.int lm), .val (.int dl), .val (.int md), .val (.int cd), .val (.int u1)] [(.int (trF cd u1 lm nn))] := s29.mono fun _ q => q.2
            have s32 : Sit p l e _ s m _ below meth c _ st n0 0 0 _ 145 #[.val (.int u0), .val (.int u1), .val (.int u2), .val (.int u3), .val (.int nn), .val (.int lm), .val (.int dl), .val (.int md), .val (.int cd), .val (.int u1)] [(.int u1), (.int (trF cd u1 lm nn))] := s31
              |>.iload at_143 rfl rfl
            have s33 : Sit p l e _ s m _ below meth c _ st n0 0 0 _ 153 #[.val (.int u0), .val (.int u1), .val (.int u2), .val (.int u3), .val (.int nn), .val (.int lm), .val (.int dl), .val (.int md), .val (.int cd), .val (.int u1)] [(.int (1 : Int32))] := s32
              |>.icmpN at_145 ((neF (Classical.not_not.mp (fun h => h (trF_out hc hl (by omega) (by omega)))))) rfl
              |>.iconst (1 : Int32) at_148 rfl rfl
              |>.goto at_149 (by decide) (by decide)
            exact s33.retZ at_153 hret hlk (fun hh q => rfl)
          · have s34 : Sit p l e _ s m _ below meth c _ st n0 0 0 _ 120 #[.val (.int u0), .val (.int u1), .val (.int u2), .val (.int u3), .val (.int nn), .val (.int lm), .val (.int dl), .val (.int md), .val (.int cd), .unset] [(.int nn), (.int cd)] := s26
              |>.icmpN at_113 (cmpF (cd := .ge) c27) rfl
              |>.iload at_116 rfl rfl
              |>.iload at_118 rfl rfl
            by_cases c35 : cd.toInt ≥ nn.toInt
            · have s36 : Sit p l e _ s m _ below meth c _ st n0 0 0 _ 140 #[.val (.int u0), .val (.int u1), .val (.int u2), .val (.int u3), .val (.int nn), .val (.int lm), .val (.int dl), .val (.int md), .val (.int cd), .val (.int u1)] [(.int nn), (.int lm), (.int u1), (.int cd)] := s34
                |>.icmpY at_120 (cmpT (cd := .ge) c35) (by decide) (by decide)
                |>.iloadN at_130 rfl rfl
                |>.istore #[.val (.int u0), .val (.int u1), .val (.int u2), .val (.int u3), .val (.int nn), .val (.int lm), .val (.int dl), .val (.int md), .val (.int cd), .val (.int u1)] at_131 rfl rfl
                |>.iload at_133 rfl rfl
                |>.iloadN at_135 rfl rfl
                |>.iload at_136 rfl rfl
                |>.iload at_138 rfl rfl
              obtain ⟨r38, s37⟩ := Sit.callS (y := (⟨"com/example/o1bucket/o1bucket/range/BucketCounts", "topRangeOr", "(IIII)I"⟩ : MethodName)) (W := 0) (Q := fun v hh => (v = some (.int (trF cd u1 lm nn))) ∧ (fun hh => hh = h0) hh) [(.int cd), (.int u1), (.int lm), (.int nn)] [] s36 hZ hown (wi hw 15 rfl) (wi hw 16 rfl) (wi hw 7 rfl) (wi hw 17 rfl) (by decide) (fun h1 hP hn => (rmTop l Z a0 hw [] cd u1 lm nn h1 n0 hn).mono fun v hh q => ⟨q.1, q.2 ▸ hP⟩) hml rfl (lenOf pd_2 rfl) at_140 (Nat.le_of_eq rfl) (by decide) (by decide) (by decide) (by decide) (pc' := 143) rfl
              obtain ⟨_, er38, _⟩ := s37.facts
              subst er38
              have s39 : Sit p l e _ s m _ below meth c _ st n0 0 0 (fun hh => hh = h0) 143 #[.val (.int u0), .val (.int u1), .val (.int u2), .val (.int u3), .val (.int nn), .val (.int lm), .val (.int dl), .val (.int md), .val (.int cd), .val (.int u1)] [(.int (trF cd u1 lm nn))] := s37.mono fun _ q => q.2
              have s40 : Sit p l e _ s m _ below meth c _ st n0 0 0 _ 145 #[.val (.int u0), .val (.int u1), .val (.int u2), .val (.int u3), .val (.int nn), .val (.int lm), .val (.int dl), .val (.int md), .val (.int cd), .val (.int u1)] [(.int u1), (.int (trF cd u1 lm nn))] := s39
                |>.iload at_143 rfl rfl
              have s41 : Sit p l e _ s m _ below meth c _ st n0 0 0 _ 153 #[.val (.int u0), .val (.int u1), .val (.int u2), .val (.int u3), .val (.int nn), .val (.int lm), .val (.int dl), .val (.int md), .val (.int cd), .val (.int u1)] [(.int (1 : Int32))] := s40
                |>.icmpN at_145 ((neF (Classical.not_not.mp (fun h => h (trF_out hc hl (by omega) (by omega)))))) rfl
                |>.iconst (1 : Int32) at_148 rfl rfl
                |>.goto at_149 (by decide) (by decide)
              exact s41.retZ at_153 hret hlk (fun hh q => rfl)
            · have s42 : Sit p l e _ s m _ below meth c _ st n0 0 0 _ 140 #[.val (.int u0), .val (.int u1), .val (.int u2), .val (.int u3), .val (.int nn), .val (.int lm), .val (.int dl), .val (.int md), .val (.int cd), .val (.int cd)] [(.int nn), (.int lm), (.int u1), (.int cd)] := s34
                |>.icmpN at_120 (cmpF (cd := .ge) c35) rfl
                |>.iload at_123 rfl rfl
                |>.istore #[.val (.int u0), .val (.int u1), .val (.int u2), .val (.int u3), .val (.int nn), .val (.int lm), .val (.int dl), .val (.int md), .val (.int cd), .val (.int cd)] at_125 rfl rfl
                |>.goto at_127 (by decide) (by decide)
                |>.iload at_133 rfl rfl
                |>.iloadN at_135 rfl rfl
                |>.iload at_136 rfl rfl
                |>.iload at_138 rfl rfl
              obtain ⟨r44, s43⟩ := Sit.callS (y := (⟨"com/example/o1bucket/o1bucket/range/BucketCounts", "topRangeOr", "(IIII)I"⟩ : MethodName)) (W := 0) (Q := fun v hh => (v = some (.int (trF cd u1 lm nn))) ∧ (fun hh => hh = h0) hh) [(.int cd), (.int u1), (.int lm), (.int nn)] [] s42 hZ hown (wi hw 15 rfl) (wi hw 16 rfl) (wi hw 7 rfl) (wi hw 17 rfl) (by decide) (fun h1 hP hn => (rmTop l Z a0 hw [] cd u1 lm nn h1 n0 hn).mono fun v hh q => ⟨q.1, q.2 ▸ hP⟩) hml rfl (lenOf pd_2 rfl) at_140 (Nat.le_of_eq rfl) (by decide) (by decide) (by decide) (by decide) (pc' := 143) rfl
              obtain ⟨_, er44, _⟩ := s43.facts
              subst er44
              have s45 : Sit p l e _ s m _ below meth c _ st n0 0 0 (fun hh => hh = h0) 143 #[.val (.int u0), .val (.int u1), .val (.int u2), .val (.int u3), .val (.int nn), .val (.int lm), .val (.int dl), .val (.int md), .val (.int cd), .val (.int cd)] [(.int (trF cd u1 lm nn))] := s43.mono fun _ q => q.2
              have s46 : Sit p l e _ s m _ below meth c _ st n0 0 0 _ 145 #[.val (.int u0), .val (.int u1), .val (.int u2), .val (.int u3), .val (.int nn), .val (.int lm), .val (.int dl), .val (.int md), .val (.int cd), .val (.int cd)] [(.int cd), (.int (trF cd u1 lm nn))] := s45
                |>.iload at_143 rfl rfl
              have s47 : Sit p l e _ s m _ below meth c _ st n0 0 0 _ 153 #[.val (.int u0), .val (.int u1), .val (.int u2), .val (.int u3), .val (.int nn), .val (.int lm), .val (.int dl), .val (.int md), .val (.int cd), .val (.int cd)] [(.int (1 : Int32))] := s46
                |>.icmpN at_145 ((neF (Classical.not_not.mp (fun h => h (trF_in hc hl (by omega) (by omega) (by omega)))))) rfl
                |>.iconst (1 : Int32) at_148 rfl rfl
                |>.goto at_149 (by decide) (by decide)
              exact s47.retZ at_153 hret hlk (fun hh q => rfl)
        · have s48 : Sit p l e _ s m _ below meth c _ st n0 0 0 _ 109 #[.val (.int u0), .val (.int u1), .val (.int u2), .val (.int u3), .val (.int nn), .val (.int lm), .val (.int dl), .val (.int md), .val (.int ((lm + dl) &&& (2147483647 : Int32))), .unset] [] := s22
            |>.icmpN at_86 ((neF (Classical.not_not.mp c23))) rfl
            |>.iload at_89 rfl rfl
            |>.iload at_91 rfl rfl
            |>.iadd at_93 rfl
            |>.ldc hZ hown (wi hw 0 rfl) at_94 rfl
            |>.iand at_96 rfl
            |>.istore #[.val (.int u0), .val (.int u1), .val (.int u2), .val (.int u3), .val (.int nn), .val (.int lm), .val (.int dl), .val (.int md), .val (.int ((lm + dl) &&& (2147483647 : Int32))), .unset] at_97 rfl rfl
            |>.goto at_99 (by decide) (by decide)
          obtain ⟨cd, e_cd, s49⟩ : ∃ cd : Int32, cd = ((lm + dl) &&& (2147483647 : Int32)) ∧ Sit p l e _ s m _ below meth c _ st n0 0 0 _ 109 #[.val (.int u0), .val (.int u1), .val (.int u2), .val (.int u3), .val (.int nn), .val (.int lm), .val (.int dl), .val (.int md), .val (.int cd), .unset] [] := ⟨_, rfl, s48⟩
          have hc : 0 ≤ cd.toInt := by rw [e_cd]; first | exact and31 _ | exact and255 _
          have s50 : Sit p l e _ s m _ below meth c _ st n0 0 0 _ 113 #[.val (.int u0), .val (.int u1), .val (.int u2), .val (.int u3), .val (.int nn), .val (.int lm), .val (.int dl), .val (.int md), .val (.int cd), .unset] [(.int cd), (.int lm)] := s49
            |>.iload at_109 rfl rfl
            |>.iload at_111 rfl rfl
          by_cases c51 : lm.toInt ≥ cd.toInt
          · have s52 : Sit p l e _ s m _ below meth c _ st n0 0 0 _ 140 #[.val (.int u0), .val (.int u1), .val (.int u2), .val (.int u3), .val (.int nn), .val (.int lm), .val (.int dl), .val (.int md), .val (.int cd), .val (.int u1)] [(.int nn), (.int lm), (.int u1), (.int cd)] := s50
              |>.icmpY at_113 (cmpT (cd := .ge) c51) (by decide) (by decide)
              |>.iloadN at_130 rfl rfl
              |>.istore #[.val (.int u0), .val (.int u1), .val (.int u2), .val (.int u3), .val (.int nn), .val (.int lm), .val (.int dl), .val (.int md), .val (.int cd), .val (.int u1)] at_131 rfl rfl
              |>.iload at_133 rfl rfl
              |>.iloadN at_135 rfl rfl
              |>.iload at_136 rfl rfl
              |>.iload at_138 rfl rfl
            obtain ⟨r54, s53⟩ := Sit.callS (y := (⟨"com/example/o1bucket/o1bucket/range/BucketCounts", "topRangeOr", "(IIII)I"⟩ : MethodName)) (W := 0) (Q := fun v hh => (v = some (.int (trF cd u1 lm nn))) ∧ (fun hh => hh = h0) hh) [(.int cd), (.int u1), (.int lm), (.int nn)] [] s52 hZ hown (wi hw 15 rfl) (wi hw 16 rfl) (wi hw 7 rfl) (wi hw 17 rfl) (by decide) (fun h1 hP hn => (rmTop l Z a0 hw [] cd u1 lm nn h1 n0 hn).mono fun v hh q => ⟨q.1, q.2 ▸ hP⟩) hml rfl (lenOf pd_2 rfl) at_140 (Nat.le_of_eq rfl) (by decide) (by decide) (by decide) (by decide) (pc' := 143) rfl
            obtain ⟨_, er54, _⟩ := s53.facts
            subst er54
            have s55 : Sit p l e _ s m _ below meth c _ st n0 0 0 (fun hh => hh = h0) 143 #[.val (.int u0), .val (.int u1), .val (.int u2), .val (.int u3), .val (.int nn), .val (.int lm), .val (.int dl), .val (.int md), .val (.int cd), .val (.int u1)] [(.int (trF cd u1 lm nn))] := s53.mono fun _ q => q.2
            have s56 : Sit p l e _ s m _ below meth c _ st n0 0 0 _ 145 #[.val (.int u0), .val (.int u1), .val (.int u2), .val (.int u3), .val (.int nn), .val (.int lm), .val (.int dl), .val (.int md), .val (.int cd), .val (.int u1)] [(.int u1), (.int (trF cd u1 lm nn))] := s55
              |>.iload at_143 rfl rfl
            have s57 : Sit p l e _ s m _ below meth c _ st n0 0 0 _ 153 #[.val (.int u0), .val (.int u1), .val (.int u2), .val (.int u3), .val (.int nn), .val (.int lm), .val (.int dl), .val (.int md), .val (.int cd), .val (.int u1)] [(.int (1 : Int32))] := s56
              |>.icmpN at_145 ((neF (Classical.not_not.mp (fun h => h (trF_out hc hl (by omega) (by omega)))))) rfl
              |>.iconst (1 : Int32) at_148 rfl rfl
              |>.goto at_149 (by decide) (by decide)
            exact s57.retZ at_153 hret hlk (fun hh q => rfl)
          · have s58 : Sit p l e _ s m _ below meth c _ st n0 0 0 _ 120 #[.val (.int u0), .val (.int u1), .val (.int u2), .val (.int u3), .val (.int nn), .val (.int lm), .val (.int dl), .val (.int md), .val (.int cd), .unset] [(.int nn), (.int cd)] := s50
              |>.icmpN at_113 (cmpF (cd := .ge) c51) rfl
              |>.iload at_116 rfl rfl
              |>.iload at_118 rfl rfl
            by_cases c59 : cd.toInt ≥ nn.toInt
            · have s60 : Sit p l e _ s m _ below meth c _ st n0 0 0 _ 140 #[.val (.int u0), .val (.int u1), .val (.int u2), .val (.int u3), .val (.int nn), .val (.int lm), .val (.int dl), .val (.int md), .val (.int cd), .val (.int u1)] [(.int nn), (.int lm), (.int u1), (.int cd)] := s58
                |>.icmpY at_120 (cmpT (cd := .ge) c59) (by decide) (by decide)
                |>.iloadN at_130 rfl rfl
                |>.istore #[.val (.int u0), .val (.int u1), .val (.int u2), .val (.int u3), .val (.int nn), .val (.int lm), .val (.int dl), .val (.int md), .val (.int cd), .val (.int u1)] at_131 rfl rfl
                |>.iload at_133 rfl rfl
                |>.iloadN at_135 rfl rfl
                |>.iload at_136 rfl rfl
                |>.iload at_138 rfl rfl
              obtain ⟨r62, s61⟩ := Sit.callS (y := (⟨"com/example/o1bucket/o1bucket/range/BucketCounts", "topRangeOr", "(IIII)I"⟩ : MethodName)) (W := 0) (Q := fun v hh => (v = some (.int (trF cd u1 lm nn))) ∧ (fun hh => hh = h0) hh) [(.int cd), (.int u1), (.int lm), (.int nn)] [] s60 hZ hown (wi hw 15 rfl) (wi hw 16 rfl) (wi hw 7 rfl) (wi hw 17 rfl) (by decide) (fun h1 hP hn => (rmTop l Z a0 hw [] cd u1 lm nn h1 n0 hn).mono fun v hh q => ⟨q.1, q.2 ▸ hP⟩) hml rfl (lenOf pd_2 rfl) at_140 (Nat.le_of_eq rfl) (by decide) (by decide) (by decide) (by decide) (pc' := 143) rfl
              obtain ⟨_, er62, _⟩ := s61.facts
              subst er62
              have s63 : Sit p l e _ s m _ below meth c _ st n0 0 0 (fun hh => hh = h0) 143 #[.val (.int u0), .val (.int u1), .val (.int u2), .val (.int u3), .val (.int nn), .val (.int lm), .val (.int dl), .val (.int md), .val (.int cd), .val (.int u1)] [(.int (trF cd u1 lm nn))] := s61.mono fun _ q => q.2
              have s64 : Sit p l e _ s m _ below meth c _ st n0 0 0 _ 145 #[.val (.int u0), .val (.int u1), .val (.int u2), .val (.int u3), .val (.int nn), .val (.int lm), .val (.int dl), .val (.int md), .val (.int cd), .val (.int u1)] [(.int u1), (.int (trF cd u1 lm nn))] := s63
                |>.iload at_143 rfl rfl
              have s65 : Sit p l e _ s m _ below meth c _ st n0 0 0 _ 153 #[.val (.int u0), .val (.int u1), .val (.int u2), .val (.int u3), .val (.int nn), .val (.int lm), .val (.int dl), .val (.int md), .val (.int cd), .val (.int u1)] [(.int (1 : Int32))] := s64
                |>.icmpN at_145 ((neF (Classical.not_not.mp (fun h => h (trF_out hc hl (by omega) (by omega)))))) rfl
                |>.iconst (1 : Int32) at_148 rfl rfl
                |>.goto at_149 (by decide) (by decide)
              exact s65.retZ at_153 hret hlk (fun hh q => rfl)
            · have s66 : Sit p l e _ s m _ below meth c _ st n0 0 0 _ 140 #[.val (.int u0), .val (.int u1), .val (.int u2), .val (.int u3), .val (.int nn), .val (.int lm), .val (.int dl), .val (.int md), .val (.int cd), .val (.int cd)] [(.int nn), (.int lm), (.int u1), (.int cd)] := s58
                |>.icmpN at_120 (cmpF (cd := .ge) c59) rfl
                |>.iload at_123 rfl rfl
                |>.istore #[.val (.int u0), .val (.int u1), .val (.int u2), .val (.int u3), .val (.int nn), .val (.int lm), .val (.int dl), .val (.int md), .val (.int cd), .val (.int cd)] at_125 rfl rfl
                |>.goto at_127 (by decide) (by decide)
                |>.iload at_133 rfl rfl
                |>.iloadN at_135 rfl rfl
                |>.iload at_136 rfl rfl
                |>.iload at_138 rfl rfl
              obtain ⟨r68, s67⟩ := Sit.callS (y := (⟨"com/example/o1bucket/o1bucket/range/BucketCounts", "topRangeOr", "(IIII)I"⟩ : MethodName)) (W := 0) (Q := fun v hh => (v = some (.int (trF cd u1 lm nn))) ∧ (fun hh => hh = h0) hh) [(.int cd), (.int u1), (.int lm), (.int nn)] [] s66 hZ hown (wi hw 15 rfl) (wi hw 16 rfl) (wi hw 7 rfl) (wi hw 17 rfl) (by decide) (fun h1 hP hn => (rmTop l Z a0 hw [] cd u1 lm nn h1 n0 hn).mono fun v hh q => ⟨q.1, q.2 ▸ hP⟩) hml rfl (lenOf pd_2 rfl) at_140 (Nat.le_of_eq rfl) (by decide) (by decide) (by decide) (by decide) (pc' := 143) rfl
              obtain ⟨_, er68, _⟩ := s67.facts
              subst er68
              have s69 : Sit p l e _ s m _ below meth c _ st n0 0 0 (fun hh => hh = h0) 143 #[.val (.int u0), .val (.int u1), .val (.int u2), .val (.int u3), .val (.int nn), .val (.int lm), .val (.int dl), .val (.int md), .val (.int cd), .val (.int cd)] [(.int (trF cd u1 lm nn))] := s67.mono fun _ q => q.2
              have s70 : Sit p l e _ s m _ below meth c _ st n0 0 0 _ 145 #[.val (.int u0), .val (.int u1), .val (.int u2), .val (.int u3), .val (.int nn), .val (.int lm), .val (.int dl), .val (.int md), .val (.int cd), .val (.int cd)] [(.int cd), (.int (trF cd u1 lm nn))] := s69
                |>.iload at_143 rfl rfl
              have s71 : Sit p l e _ s m _ below meth c _ st n0 0 0 _ 153 #[.val (.int u0), .val (.int u1), .val (.int u2), .val (.int u3), .val (.int nn), .val (.int lm), .val (.int dl), .val (.int md), .val (.int cd), .val (.int cd)] [(.int (1 : Int32))] := s70
                |>.icmpN at_145 ((neF (Classical.not_not.mp (fun h => h (trF_in hc hl (by omega) (by omega) (by omega)))))) rfl
                |>.iconst (1 : Int32) at_148 rfl rfl
                |>.goto at_149 (by decide) (by decide)
              exact s71.retZ at_153 hret hlk (fun hh q => rfl)
      · have s72 : Sit p l e _ s m _ below meth c _ st n0 0 0 _ 109 #[.val (.int u0), .val (.int u1), .val (.int u2), .val (.int u3), .val (.int nn), .val (.int lm), .val (.int dl), .val (.int md), .val (.int ((nn + dl) &&& (2147483647 : Int32))), .unset] [] := s20
          |>.icmpN at_67 ((neF (Classical.not_not.mp c21))) rfl
          |>.iload at_70 rfl rfl
          |>.iload at_72 rfl rfl
          |>.iadd at_74 rfl
          |>.ldc hZ hown (wi hw 0 rfl) at_75 rfl
          |>.iand at_77 rfl
          |>.istore #[.val (.int u0), .val (.int u1), .val (.int u2), .val (.int u3), .val (.int nn), .val (.int lm), .val (.int dl), .val (.int md), .val (.int ((nn + dl) &&& (2147483647 : Int32))), .unset] at_78 rfl rfl
          |>.goto at_80 (by decide) (by decide)
        obtain ⟨cd, e_cd, s73⟩ : ∃ cd : Int32, cd = ((nn + dl) &&& (2147483647 : Int32)) ∧ Sit p l e _ s m _ below meth c _ st n0 0 0 _ 109 #[.val (.int u0), .val (.int u1), .val (.int u2), .val (.int u3), .val (.int nn), .val (.int lm), .val (.int dl), .val (.int md), .val (.int cd), .unset] [] := ⟨_, rfl, s72⟩
        have hc : 0 ≤ cd.toInt := by rw [e_cd]; first | exact and31 _ | exact and255 _
        have s74 : Sit p l e _ s m _ below meth c _ st n0 0 0 _ 113 #[.val (.int u0), .val (.int u1), .val (.int u2), .val (.int u3), .val (.int nn), .val (.int lm), .val (.int dl), .val (.int md), .val (.int cd), .unset] [(.int cd), (.int lm)] := s73
          |>.iload at_109 rfl rfl
          |>.iload at_111 rfl rfl
        by_cases c75 : lm.toInt ≥ cd.toInt
        · have s76 : Sit p l e _ s m _ below meth c _ st n0 0 0 _ 140 #[.val (.int u0), .val (.int u1), .val (.int u2), .val (.int u3), .val (.int nn), .val (.int lm), .val (.int dl), .val (.int md), .val (.int cd), .val (.int u1)] [(.int nn), (.int lm), (.int u1), (.int cd)] := s74
            |>.icmpY at_113 (cmpT (cd := .ge) c75) (by decide) (by decide)
            |>.iloadN at_130 rfl rfl
            |>.istore #[.val (.int u0), .val (.int u1), .val (.int u2), .val (.int u3), .val (.int nn), .val (.int lm), .val (.int dl), .val (.int md), .val (.int cd), .val (.int u1)] at_131 rfl rfl
            |>.iload at_133 rfl rfl
            |>.iloadN at_135 rfl rfl
            |>.iload at_136 rfl rfl
            |>.iload at_138 rfl rfl
          obtain ⟨r78, s77⟩ := Sit.callS (y := (⟨"com/example/o1bucket/o1bucket/range/BucketCounts", "topRangeOr", "(IIII)I"⟩ : MethodName)) (W := 0) (Q := fun v hh => (v = some (.int (trF cd u1 lm nn))) ∧ (fun hh => hh = h0) hh) [(.int cd), (.int u1), (.int lm), (.int nn)] [] s76 hZ hown (wi hw 15 rfl) (wi hw 16 rfl) (wi hw 7 rfl) (wi hw 17 rfl) (by decide) (fun h1 hP hn => (rmTop l Z a0 hw [] cd u1 lm nn h1 n0 hn).mono fun v hh q => ⟨q.1, q.2 ▸ hP⟩) hml rfl (lenOf pd_2 rfl) at_140 (Nat.le_of_eq rfl) (by decide) (by decide) (by decide) (by decide) (pc' := 143) rfl
          obtain ⟨_, er78, _⟩ := s77.facts
          subst er78
          have s79 : Sit p l e _ s m _ below meth c _ st n0 0 0 (fun hh => hh = h0) 143 #[.val (.int u0), .val (.int u1), .val (.int u2), .val (.int u3), .val (.int nn), .val (.int lm), .val (.int dl), .val (.int md), .val (.int cd), .val (.int u1)] [(.int (trF cd u1 lm nn))] := s77.mono fun _ q => q.2
          have s80 : Sit p l e _ s m _ below meth c _ st n0 0 0 _ 145 #[.val (.int u0), .val (.int u1), .val (.int u2), .val (.int u3), .val (.int nn), .val (.int lm), .val (.int dl), .val (.int md), .val (.int cd), .val (.int u1)] [(.int u1), (.int (trF cd u1 lm nn))] := s79
            |>.iload at_143 rfl rfl
          have s81 : Sit p l e _ s m _ below meth c _ st n0 0 0 _ 153 #[.val (.int u0), .val (.int u1), .val (.int u2), .val (.int u3), .val (.int nn), .val (.int lm), .val (.int dl), .val (.int md), .val (.int cd), .val (.int u1)] [(.int (1 : Int32))] := s80
            |>.icmpN at_145 ((neF (Classical.not_not.mp (fun h => h (trF_out hc hl (by omega) (by omega)))))) rfl
            |>.iconst (1 : Int32) at_148 rfl rfl
            |>.goto at_149 (by decide) (by decide)
          exact s81.retZ at_153 hret hlk (fun hh q => rfl)
        · have s82 : Sit p l e _ s m _ below meth c _ st n0 0 0 _ 120 #[.val (.int u0), .val (.int u1), .val (.int u2), .val (.int u3), .val (.int nn), .val (.int lm), .val (.int dl), .val (.int md), .val (.int cd), .unset] [(.int nn), (.int cd)] := s74
            |>.icmpN at_113 (cmpF (cd := .ge) c75) rfl
            |>.iload at_116 rfl rfl
            |>.iload at_118 rfl rfl
          by_cases c83 : cd.toInt ≥ nn.toInt
          · have s84 : Sit p l e _ s m _ below meth c _ st n0 0 0 _ 140 #[.val (.int u0), .val (.int u1), .val (.int u2), .val (.int u3), .val (.int nn), .val (.int lm), .val (.int dl), .val (.int md), .val (.int cd), .val (.int u1)] [(.int nn), (.int lm), (.int u1), (.int cd)] := s82
              |>.icmpY at_120 (cmpT (cd := .ge) c83) (by decide) (by decide)
              |>.iloadN at_130 rfl rfl
              |>.istore #[.val (.int u0), .val (.int u1), .val (.int u2), .val (.int u3), .val (.int nn), .val (.int lm), .val (.int dl), .val (.int md), .val (.int cd), .val (.int u1)] at_131 rfl rfl
              |>.iload at_133 rfl rfl
              |>.iloadN at_135 rfl rfl
              |>.iload at_136 rfl rfl
              |>.iload at_138 rfl rfl
            obtain ⟨r86, s85⟩ := Sit.callS (y := (⟨"com/example/o1bucket/o1bucket/range/BucketCounts", "topRangeOr", "(IIII)I"⟩ : MethodName)) (W := 0) (Q := fun v hh => (v = some (.int (trF cd u1 lm nn))) ∧ (fun hh => hh = h0) hh) [(.int cd), (.int u1), (.int lm), (.int nn)] [] s84 hZ hown (wi hw 15 rfl) (wi hw 16 rfl) (wi hw 7 rfl) (wi hw 17 rfl) (by decide) (fun h1 hP hn => (rmTop l Z a0 hw [] cd u1 lm nn h1 n0 hn).mono fun v hh q => ⟨q.1, q.2 ▸ hP⟩) hml rfl (lenOf pd_2 rfl) at_140 (Nat.le_of_eq rfl) (by decide) (by decide) (by decide) (by decide) (pc' := 143) rfl
            obtain ⟨_, er86, _⟩ := s85.facts
            subst er86
            have s87 : Sit p l e _ s m _ below meth c _ st n0 0 0 (fun hh => hh = h0) 143 #[.val (.int u0), .val (.int u1), .val (.int u2), .val (.int u3), .val (.int nn), .val (.int lm), .val (.int dl), .val (.int md), .val (.int cd), .val (.int u1)] [(.int (trF cd u1 lm nn))] := s85.mono fun _ q => q.2
            have s88 : Sit p l e _ s m _ below meth c _ st n0 0 0 _ 145 #[.val (.int u0), .val (.int u1), .val (.int u2), .val (.int u3), .val (.int nn), .val (.int lm), .val (.int dl), .val (.int md), .val (.int cd), .val (.int u1)] [(.int u1), (.int (trF cd u1 lm nn))] := s87
              |>.iload at_143 rfl rfl
            have s89 : Sit p l e _ s m _ below meth c _ st n0 0 0 _ 153 #[.val (.int u0), .val (.int u1), .val (.int u2), .val (.int u3), .val (.int nn), .val (.int lm), .val (.int dl), .val (.int md), .val (.int cd), .val (.int u1)] [(.int (1 : Int32))] := s88
              |>.icmpN at_145 ((neF (Classical.not_not.mp (fun h => h (trF_out hc hl (by omega) (by omega)))))) rfl
              |>.iconst (1 : Int32) at_148 rfl rfl
              |>.goto at_149 (by decide) (by decide)
            exact s89.retZ at_153 hret hlk (fun hh q => rfl)
          · have s90 : Sit p l e _ s m _ below meth c _ st n0 0 0 _ 140 #[.val (.int u0), .val (.int u1), .val (.int u2), .val (.int u3), .val (.int nn), .val (.int lm), .val (.int dl), .val (.int md), .val (.int cd), .val (.int cd)] [(.int nn), (.int lm), (.int u1), (.int cd)] := s82
              |>.icmpN at_120 (cmpF (cd := .ge) c83) rfl
              |>.iload at_123 rfl rfl
              |>.istore #[.val (.int u0), .val (.int u1), .val (.int u2), .val (.int u3), .val (.int nn), .val (.int lm), .val (.int dl), .val (.int md), .val (.int cd), .val (.int cd)] at_125 rfl rfl
              |>.goto at_127 (by decide) (by decide)
              |>.iload at_133 rfl rfl
              |>.iloadN at_135 rfl rfl
              |>.iload at_136 rfl rfl
              |>.iload at_138 rfl rfl
            obtain ⟨r92, s91⟩ := Sit.callS (y := (⟨"com/example/o1bucket/o1bucket/range/BucketCounts", "topRangeOr", "(IIII)I"⟩ : MethodName)) (W := 0) (Q := fun v hh => (v = some (.int (trF cd u1 lm nn))) ∧ (fun hh => hh = h0) hh) [(.int cd), (.int u1), (.int lm), (.int nn)] [] s90 hZ hown (wi hw 15 rfl) (wi hw 16 rfl) (wi hw 7 rfl) (wi hw 17 rfl) (by decide) (fun h1 hP hn => (rmTop l Z a0 hw [] cd u1 lm nn h1 n0 hn).mono fun v hh q => ⟨q.1, q.2 ▸ hP⟩) hml rfl (lenOf pd_2 rfl) at_140 (Nat.le_of_eq rfl) (by decide) (by decide) (by decide) (by decide) (pc' := 143) rfl
            obtain ⟨_, er92, _⟩ := s91.facts
            subst er92
            have s93 : Sit p l e _ s m _ below meth c _ st n0 0 0 (fun hh => hh = h0) 143 #[.val (.int u0), .val (.int u1), .val (.int u2), .val (.int u3), .val (.int nn), .val (.int lm), .val (.int dl), .val (.int md), .val (.int cd), .val (.int cd)] [(.int (trF cd u1 lm nn))] := s91.mono fun _ q => q.2
            have s94 : Sit p l e _ s m _ below meth c _ st n0 0 0 _ 145 #[.val (.int u0), .val (.int u1), .val (.int u2), .val (.int u3), .val (.int nn), .val (.int lm), .val (.int dl), .val (.int md), .val (.int cd), .val (.int cd)] [(.int cd), (.int (trF cd u1 lm nn))] := s93
              |>.iload at_143 rfl rfl
            have s95 : Sit p l e _ s m _ below meth c _ st n0 0 0 _ 153 #[.val (.int u0), .val (.int u1), .val (.int u2), .val (.int u3), .val (.int nn), .val (.int lm), .val (.int dl), .val (.int md), .val (.int cd), .val (.int cd)] [(.int (1 : Int32))] := s94
              |>.icmpN at_145 ((neF (Classical.not_not.mp (fun h => h (trF_in hc hl (by omega) (by omega) (by omega)))))) rfl
              |>.iconst (1 : Int32) at_148 rfl rfl
              |>.goto at_149 (by decide) (by decide)
            exact s95.retZ at_153 hret hlk (fun hh q => rfl)
    · have s96 : Sit p l e _ s m _ below meth c _ st n0 0 0 _ 109 #[.val (.int u0), .val (.int u1), .val (.int u2), .val (.int u3), .val (.int nn), .val (.int lm), .val (.int dl), .val (.int md), .val (.int (u0 &&& (2147483647 : Int32))), .unset] [] := s18
        |>.ifN at_52 ((neF (Classical.not_not.mp c19))) rfl
        |>.iloadN at_55 rfl rfl
        |>.ldc hZ hown (wi hw 0 rfl) at_56 rfl
        |>.iand at_58 rfl
        |>.istore #[.val (.int u0), .val (.int u1), .val (.int u2), .val (.int u3), .val (.int nn), .val (.int lm), .val (.int dl), .val (.int md), .val (.int (u0 &&& (2147483647 : Int32))), .unset] at_59 rfl rfl
        |>.goto at_61 (by decide) (by decide)
      obtain ⟨cd, e_cd, s97⟩ : ∃ cd : Int32, cd = (u0 &&& (2147483647 : Int32)) ∧ Sit p l e _ s m _ below meth c _ st n0 0 0 _ 109 #[.val (.int u0), .val (.int u1), .val (.int u2), .val (.int u3), .val (.int nn), .val (.int lm), .val (.int dl), .val (.int md), .val (.int cd), .unset] [] := ⟨_, rfl, s96⟩
      have hc : 0 ≤ cd.toInt := by rw [e_cd]; first | exact and31 _ | exact and255 _
      have s98 : Sit p l e _ s m _ below meth c _ st n0 0 0 _ 113 #[.val (.int u0), .val (.int u1), .val (.int u2), .val (.int u3), .val (.int nn), .val (.int lm), .val (.int dl), .val (.int md), .val (.int cd), .unset] [(.int cd), (.int lm)] := s97
        |>.iload at_109 rfl rfl
        |>.iload at_111 rfl rfl
      by_cases c99 : lm.toInt ≥ cd.toInt
      · have s100 : Sit p l e _ s m _ below meth c _ st n0 0 0 _ 140 #[.val (.int u0), .val (.int u1), .val (.int u2), .val (.int u3), .val (.int nn), .val (.int lm), .val (.int dl), .val (.int md), .val (.int cd), .val (.int u1)] [(.int nn), (.int lm), (.int u1), (.int cd)] := s98
          |>.icmpY at_113 (cmpT (cd := .ge) c99) (by decide) (by decide)
          |>.iloadN at_130 rfl rfl
          |>.istore #[.val (.int u0), .val (.int u1), .val (.int u2), .val (.int u3), .val (.int nn), .val (.int lm), .val (.int dl), .val (.int md), .val (.int cd), .val (.int u1)] at_131 rfl rfl
          |>.iload at_133 rfl rfl
          |>.iloadN at_135 rfl rfl
          |>.iload at_136 rfl rfl
          |>.iload at_138 rfl rfl
        obtain ⟨r102, s101⟩ := Sit.callS (y := (⟨"com/example/o1bucket/o1bucket/range/BucketCounts", "topRangeOr", "(IIII)I"⟩ : MethodName)) (W := 0) (Q := fun v hh => (v = some (.int (trF cd u1 lm nn))) ∧ (fun hh => hh = h0) hh) [(.int cd), (.int u1), (.int lm), (.int nn)] [] s100 hZ hown (wi hw 15 rfl) (wi hw 16 rfl) (wi hw 7 rfl) (wi hw 17 rfl) (by decide) (fun h1 hP hn => (rmTop l Z a0 hw [] cd u1 lm nn h1 n0 hn).mono fun v hh q => ⟨q.1, q.2 ▸ hP⟩) hml rfl (lenOf pd_2 rfl) at_140 (Nat.le_of_eq rfl) (by decide) (by decide) (by decide) (by decide) (pc' := 143) rfl
        obtain ⟨_, er102, _⟩ := s101.facts
        subst er102
        have s103 : Sit p l e _ s m _ below meth c _ st n0 0 0 (fun hh => hh = h0) 143 #[.val (.int u0), .val (.int u1), .val (.int u2), .val (.int u3), .val (.int nn), .val (.int lm), .val (.int dl), .val (.int md), .val (.int cd), .val (.int u1)] [(.int (trF cd u1 lm nn))] := s101.mono fun _ q => q.2
        have s104 : Sit p l e _ s m _ below meth c _ st n0 0 0 _ 145 #[.val (.int u0), .val (.int u1), .val (.int u2), .val (.int u3), .val (.int nn), .val (.int lm), .val (.int dl), .val (.int md), .val (.int cd), .val (.int u1)] [(.int u1), (.int (trF cd u1 lm nn))] := s103
          |>.iload at_143 rfl rfl
        have s105 : Sit p l e _ s m _ below meth c _ st n0 0 0 _ 153 #[.val (.int u0), .val (.int u1), .val (.int u2), .val (.int u3), .val (.int nn), .val (.int lm), .val (.int dl), .val (.int md), .val (.int cd), .val (.int u1)] [(.int (1 : Int32))] := s104
          |>.icmpN at_145 ((neF (Classical.not_not.mp (fun h => h (trF_out hc hl (by omega) (by omega)))))) rfl
          |>.iconst (1 : Int32) at_148 rfl rfl
          |>.goto at_149 (by decide) (by decide)
        exact s105.retZ at_153 hret hlk (fun hh q => rfl)
      · have s106 : Sit p l e _ s m _ below meth c _ st n0 0 0 _ 120 #[.val (.int u0), .val (.int u1), .val (.int u2), .val (.int u3), .val (.int nn), .val (.int lm), .val (.int dl), .val (.int md), .val (.int cd), .unset] [(.int nn), (.int cd)] := s98
          |>.icmpN at_113 (cmpF (cd := .ge) c99) rfl
          |>.iload at_116 rfl rfl
          |>.iload at_118 rfl rfl
        by_cases c107 : cd.toInt ≥ nn.toInt
        · have s108 : Sit p l e _ s m _ below meth c _ st n0 0 0 _ 140 #[.val (.int u0), .val (.int u1), .val (.int u2), .val (.int u3), .val (.int nn), .val (.int lm), .val (.int dl), .val (.int md), .val (.int cd), .val (.int u1)] [(.int nn), (.int lm), (.int u1), (.int cd)] := s106
            |>.icmpY at_120 (cmpT (cd := .ge) c107) (by decide) (by decide)
            |>.iloadN at_130 rfl rfl
            |>.istore #[.val (.int u0), .val (.int u1), .val (.int u2), .val (.int u3), .val (.int nn), .val (.int lm), .val (.int dl), .val (.int md), .val (.int cd), .val (.int u1)] at_131 rfl rfl
            |>.iload at_133 rfl rfl
            |>.iloadN at_135 rfl rfl
            |>.iload at_136 rfl rfl
            |>.iload at_138 rfl rfl
          obtain ⟨r110, s109⟩ := Sit.callS (y := (⟨"com/example/o1bucket/o1bucket/range/BucketCounts", "topRangeOr", "(IIII)I"⟩ : MethodName)) (W := 0) (Q := fun v hh => (v = some (.int (trF cd u1 lm nn))) ∧ (fun hh => hh = h0) hh) [(.int cd), (.int u1), (.int lm), (.int nn)] [] s108 hZ hown (wi hw 15 rfl) (wi hw 16 rfl) (wi hw 7 rfl) (wi hw 17 rfl) (by decide) (fun h1 hP hn => (rmTop l Z a0 hw [] cd u1 lm nn h1 n0 hn).mono fun v hh q => ⟨q.1, q.2 ▸ hP⟩) hml rfl (lenOf pd_2 rfl) at_140 (Nat.le_of_eq rfl) (by decide) (by decide) (by decide) (by decide) (pc' := 143) rfl
          obtain ⟨_, er110, _⟩ := s109.facts
          subst er110
          have s111 : Sit p l e _ s m _ below meth c _ st n0 0 0 (fun hh => hh = h0) 143 #[.val (.int u0), .val (.int u1), .val (.int u2), .val (.int u3), .val (.int nn), .val (.int lm), .val (.int dl), .val (.int md), .val (.int cd), .val (.int u1)] [(.int (trF cd u1 lm nn))] := s109.mono fun _ q => q.2
          have s112 : Sit p l e _ s m _ below meth c _ st n0 0 0 _ 145 #[.val (.int u0), .val (.int u1), .val (.int u2), .val (.int u3), .val (.int nn), .val (.int lm), .val (.int dl), .val (.int md), .val (.int cd), .val (.int u1)] [(.int u1), (.int (trF cd u1 lm nn))] := s111
            |>.iload at_143 rfl rfl
          have s113 : Sit p l e _ s m _ below meth c _ st n0 0 0 _ 153 #[.val (.int u0), .val (.int u1), .val (.int u2), .val (.int u3), .val (.int nn), .val (.int lm), .val (.int dl), .val (.int md), .val (.int cd), .val (.int u1)] [(.int (1 : Int32))] := s112
            |>.icmpN at_145 ((neF (Classical.not_not.mp (fun h => h (trF_out hc hl (by omega) (by omega)))))) rfl
            |>.iconst (1 : Int32) at_148 rfl rfl
            |>.goto at_149 (by decide) (by decide)
          exact s113.retZ at_153 hret hlk (fun hh q => rfl)
        · have s114 : Sit p l e _ s m _ below meth c _ st n0 0 0 _ 140 #[.val (.int u0), .val (.int u1), .val (.int u2), .val (.int u3), .val (.int nn), .val (.int lm), .val (.int dl), .val (.int md), .val (.int cd), .val (.int cd)] [(.int nn), (.int lm), (.int u1), (.int cd)] := s106
            |>.icmpN at_120 (cmpF (cd := .ge) c107) rfl
            |>.iload at_123 rfl rfl
            |>.istore #[.val (.int u0), .val (.int u1), .val (.int u2), .val (.int u3), .val (.int nn), .val (.int lm), .val (.int dl), .val (.int md), .val (.int cd), .val (.int cd)] at_125 rfl rfl
            |>.goto at_127 (by decide) (by decide)
            |>.iload at_133 rfl rfl
            |>.iloadN at_135 rfl rfl
            |>.iload at_136 rfl rfl
            |>.iload at_138 rfl rfl
          obtain ⟨r116, s115⟩ := Sit.callS (y := (⟨"com/example/o1bucket/o1bucket/range/BucketCounts", "topRangeOr", "(IIII)I"⟩ : MethodName)) (W := 0) (Q := fun v hh => (v = some (.int (trF cd u1 lm nn))) ∧ (fun hh => hh = h0) hh) [(.int cd), (.int u1), (.int lm), (.int nn)] [] s114 hZ hown (wi hw 15 rfl) (wi hw 16 rfl) (wi hw 7 rfl) (wi hw 17 rfl) (by decide) (fun h1 hP hn => (rmTop l Z a0 hw [] cd u1 lm nn h1 n0 hn).mono fun v hh q => ⟨q.1, q.2 ▸ hP⟩) hml rfl (lenOf pd_2 rfl) at_140 (Nat.le_of_eq rfl) (by decide) (by decide) (by decide) (by decide) (pc' := 143) rfl
          obtain ⟨_, er116, _⟩ := s115.facts
          subst er116
          have s117 : Sit p l e _ s m _ below meth c _ st n0 0 0 (fun hh => hh = h0) 143 #[.val (.int u0), .val (.int u1), .val (.int u2), .val (.int u3), .val (.int nn), .val (.int lm), .val (.int dl), .val (.int md), .val (.int cd), .val (.int cd)] [(.int (trF cd u1 lm nn))] := s115.mono fun _ q => q.2
          have s118 : Sit p l e _ s m _ below meth c _ st n0 0 0 _ 145 #[.val (.int u0), .val (.int u1), .val (.int u2), .val (.int u3), .val (.int nn), .val (.int lm), .val (.int dl), .val (.int md), .val (.int cd), .val (.int cd)] [(.int cd), (.int (trF cd u1 lm nn))] := s117
            |>.iload at_143 rfl rfl
          have s119 : Sit p l e _ s m _ below meth c _ st n0 0 0 _ 153 #[.val (.int u0), .val (.int u1), .val (.int u2), .val (.int u3), .val (.int nn), .val (.int lm), .val (.int dl), .val (.int md), .val (.int cd), .val (.int cd)] [(.int (1 : Int32))] := s118
            |>.icmpN at_145 ((neF (Classical.not_not.mp (fun h => h (trF_in hc hl (by omega) (by omega) (by omega)))))) rfl
            |>.iconst (1 : Int32) at_148 rfl rfl
            |>.goto at_149 (by decide) (by decide)
          exact s119.retZ at_153 hret hlk (fun hh q => rfl)
  · have s120 : Sit p l e _ s m _ below meth c _ st n0 0 0 _ 21 #[.val (.int u0), .val (.int u1), .val (.int u2), .val (.int u3), .unset, .unset, .unset, .unset, .unset, .unset] [(.int (u2 &&& (255 : Int32))), (.int (1 : Int32))] := s1
      |>.ifN at_6 (eqF c0) rfl
      |>.iloadN at_9 rfl rfl
      |>.sipush (255 : Int32) at_10 rfl rfl
      |>.iand at_13 rfl
      |>.goto at_14 (by decide) (by decide)
    obtain ⟨r122, s121⟩ := Sit.callS (y := (⟨"java/lang/Math", "max", "(II)I"⟩ : MethodName)) (W := 0) (Q := fun v hh => (v = some (.int (mxF (1 : Int32) (u2 &&& (255 : Int32))))) ∧ (fun hh => hh = h0) hh) [(.int (1 : Int32)), (.int (u2 &&& (255 : Int32)))] [] s120 hZ hown (wi hw 1 rfl) (wi hw 2 rfl) (wi hw 3 rfl) (wi hw 4 rfl) (by decide) (fun h1 hP hn => (rmMax l Z a0 hw [] (1 : Int32) (u2 &&& (255 : Int32)) h1 n0 hn).mono fun v hh q => ⟨q.1, q.2 ▸ hP⟩) hml rfl (lenOf pd_1 rfl) at_21 (Nat.le_of_eq rfl) (by decide) (by decide) (by decide) (by decide) (pc' := 24) rfl
    obtain ⟨_, er122, _⟩ := s121.facts
    subst er122
    have s123 : Sit p l e _ s m _ below meth c _ st n0 0 0 (fun hh => hh = h0) 24 #[.val (.int u0), .val (.int u1), .val (.int u2), .val (.int u3), .unset, .unset, .unset, .unset, .unset, .unset] [(.int (mxF (1 : Int32) (u2 &&& (255 : Int32))))] := s121.mono fun _ q => q.2
    obtain ⟨nn, e_nn, s124⟩ : ∃ nn : Int32, nn = (mxF (1 : Int32) (u2 &&& (255 : Int32))) ∧ Sit p l e _ s m _ below meth c _ st n0 0 0 _ 24 #[.val (.int u0), .val (.int u1), .val (.int u2), .val (.int u3), .unset, .unset, .unset, .unset, .unset, .unset] [(.int nn)] := ⟨_, rfl, s123⟩
    have s125 : Sit p l e _ s m _ below meth c _ st n0 0 0 _ 28 #[.val (.int u0), .val (.int u1), .val (.int u2), .val (.int u3), .val (.int nn), .unset, .unset, .unset, .unset, .unset] [(.int nn)] := s124
      |>.istore #[.val (.int u0), .val (.int u1), .val (.int u2), .val (.int u3), .val (.int nn), .unset, .unset, .unset, .unset, .unset] at_24 rfl rfl
      |>.iload at_26 rfl rfl
    have hn1 : 1 ≤ nn.toInt := by rw [e_nn]; exact mx1 _
    obtain ⟨r127, s126⟩ := Sit.callS (y := (⟨"com/example/o1bucket/o1bucket/range/BucketCounts", "powerOfTwoMask", "(I)I"⟩ : MethodName)) (W := 0) (Q := fun v hh => ∃ pw : Int32, (v = some (.int pw)) ∧ (fun hh => hh = h0) hh) [(.int nn)] [] s125 hZ hown (wi hw 5 rfl) (wi hw 6 rfl) (wi hw 7 rfl) (wi hw 8 rfl) (by decide) (fun h1 hP hn => (rmPow l Z a0 hw [] nn h1 n0 hn).mono fun v hh q => by
        obtain ⟨⟨z, e1⟩, e2⟩ := q
        exact ⟨z, e1, e2 ▸ hP⟩) hml rfl (lenOf pd_0 rfl) at_28 (Nat.le_of_eq rfl) (by decide) (by decide) (by decide) (by decide) (pc' := 31) rfl
    obtain ⟨pw, s129⟩ := s126.ex
    obtain ⟨_, er127, _⟩ := s129.facts
    subst er127
    have s128 : Sit p l e _ s m _ below meth c _ st n0 0 0 (fun hh => hh = h0) 31 #[.val (.int u0), .val (.int u1), .val (.int u2), .val (.int u3), .val (.int nn), .unset, .unset, .unset, .unset, .unset] [(.int pw)] := s129.mono fun _ q => q.2
    have s130 : Sit p l e _ s m _ below meth c _ st n0 0 0 _ 33 #[.val (.int u0), .val (.int u1), .val (.int u2), .val (.int u3), .val (.int nn), .unset, .unset, .unset, .unset, .unset] [(.int (ushr32 pw (1 : Int32)))] := s128
      |>.iconst (1 : Int32) at_31 rfl rfl
      |>.iushr at_32 rfl
    obtain ⟨lm, e_lm, s131⟩ : ∃ lm : Int32, lm = (ushr32 pw (1 : Int32)) ∧ Sit p l e _ s m _ below meth c _ st n0 0 0 _ 33 #[.val (.int u0), .val (.int u1), .val (.int u2), .val (.int u3), .val (.int nn), .unset, .unset, .unset, .unset, .unset] [(.int lm)] := ⟨_, rfl, s130⟩
    have hl : 0 ≤ lm.toInt := by rw [e_lm]; exact ushr1_nonneg _
    have s132 : Sit p l e _ s m _ below meth c _ st n0 0 0 _ 43 #[.val (.int u0), .val (.int u1), .val (.int u2), .val (.int u3), .val (.int nn), .val (.int lm), .unset, .unset, .unset, .unset] [(.int (((u3 >>> ((2 : Int32) &&& 31)) &&& (7 : Int32)) - (4 : Int32)))] := s131
      |>.istore #[.val (.int u0), .val (.int u1), .val (.int u2), .val (.int u3), .val (.int nn), .val (.int lm), .unset, .unset, .unset, .unset] at_33 rfl rfl
      |>.iloadN at_35 rfl rfl
      |>.iconst (2 : Int32) at_36 rfl rfl
      |>.ishr at_37 rfl
      |>.bipush (7 : Int32) at_38 rfl rfl
      |>.iand at_40 rfl
      |>.iconst (4 : Int32) at_41 rfl rfl
      |>.isub at_42 rfl
    obtain ⟨dl, e_dl, s133⟩ : ∃ dl : Int32, dl = (((u3 >>> ((2 : Int32) &&& 31)) &&& (7 : Int32)) - (4 : Int32)) ∧ Sit p l e _ s m _ below meth c _ st n0 0 0 _ 43 #[.val (.int u0), .val (.int u1), .val (.int u2), .val (.int u3), .val (.int nn), .val (.int lm), .unset, .unset, .unset, .unset] [(.int dl)] := ⟨_, rfl, s132⟩
    have s134 : Sit p l e _ s m _ below meth c _ st n0 0 0 _ 48 #[.val (.int u0), .val (.int u1), .val (.int u2), .val (.int u3), .val (.int nn), .val (.int lm), .val (.int dl), .unset, .unset, .unset] [(.int (u3 &&& (3 : Int32)))] := s133
      |>.istore #[.val (.int u0), .val (.int u1), .val (.int u2), .val (.int u3), .val (.int nn), .val (.int lm), .val (.int dl), .unset, .unset, .unset] at_43 rfl rfl
      |>.iloadN at_45 rfl rfl
      |>.iconst (3 : Int32) at_46 rfl rfl
      |>.iand at_47 rfl
    obtain ⟨md, e_md, s135⟩ : ∃ md : Int32, md = (u3 &&& (3 : Int32)) ∧ Sit p l e _ s m _ below meth c _ st n0 0 0 _ 48 #[.val (.int u0), .val (.int u1), .val (.int u2), .val (.int u3), .val (.int nn), .val (.int lm), .val (.int dl), .unset, .unset, .unset] [(.int md)] := ⟨_, rfl, s134⟩
    have s136 : Sit p l e _ s m _ below meth c _ st n0 0 0 _ 52 #[.val (.int u0), .val (.int u1), .val (.int u2), .val (.int u3), .val (.int nn), .val (.int lm), .val (.int dl), .val (.int md), .unset, .unset] [(.int md)] := s135
      |>.istore #[.val (.int u0), .val (.int u1), .val (.int u2), .val (.int u3), .val (.int nn), .val (.int lm), .val (.int dl), .val (.int md), .unset, .unset] at_48 rfl rfl
      |>.iload at_50 rfl rfl
    by_cases c137 : ¬ md = 0
    · have s138 : Sit p l e _ s m _ below meth c _ st n0 0 0 _ 67 #[.val (.int u0), .val (.int u1), .val (.int u2), .val (.int u3), .val (.int nn), .val (.int lm), .val (.int dl), .val (.int md), .unset, .unset] [(.int (1 : Int32)), (.int md)] := s136
        |>.ifY at_52 (neT c137) (by decide) (by decide)
        |>.iload at_64 rfl rfl
        |>.iconst (1 : Int32) at_66 rfl rfl
      by_cases c139 : ¬ md = (1 : Int32)
      · have s140 : Sit p l e _ s m _ below meth c _ st n0 0 0 _ 86 #[.val (.int u0), .val (.int u1), .val (.int u2), .val (.int u3), .val (.int nn), .val (.int lm), .val (.int dl), .val (.int md), .unset, .unset] [(.int (2 : Int32)), (.int md)] := s138
          |>.icmpY at_67 (neT c139) (by decide) (by decide)
          |>.iload at_83 rfl rfl
          |>.iconst (2 : Int32) at_85 rfl rfl
        by_cases c141 : ¬ md = (2 : Int32)
        · have s142 : Sit p l e _ s m _ below meth c _ st n0 0 0 _ 109 #[.val (.int u0), .val (.int u1), .val (.int u2), .val (.int u3), .val (.int nn), .val (.int lm), .val (.int dl), .val (.int md), .val (.int (u0 &&& (255 : Int32))), .unset] [] := s140
            |>.icmpY at_86 (neT c141) (by decide) (by decide)
            |>.iloadN at_102 rfl rfl
            |>.sipush (255 : Int32) at_103 rfl rfl
            |>.iand at_106 rfl
            |>.istore #[.val (.int u0), .val (.int u1), .val (.int u2), .val (.int u3), .val (.int nn), .val (.int lm), .val (.int dl), .val (.int md), .val (.int (u0 &&& (255 : Int32))), .unset] at_107 rfl rfl
          obtain ⟨cd, e_cd, s143⟩ : ∃ cd : Int32, cd = (u0 &&& (255 : Int32)) ∧ Sit p l e _ s m _ below meth c _ st n0 0 0 _ 109 #[.val (.int u0), .val (.int u1), .val (.int u2), .val (.int u3), .val (.int nn), .val (.int lm), .val (.int dl), .val (.int md), .val (.int cd), .unset] [] := ⟨_, rfl, s142⟩
          have hc : 0 ≤ cd.toInt := by rw [e_cd]; first | exact and31 _ | exact and255 _
          have s144 : Sit p l e _ s m _ below meth c _ st n0 0 0 _ 113 #[.val (.int u0), .val (.int u1), .val (.int u2), .val (.int u3), .val (.int nn), .val (.int lm), .val (.int dl), .val (.int md), .val (.int cd), .unset] [(.int cd), (.int lm)] := s143
            |>.iload at_109 rfl rfl
            |>.iload at_111 rfl rfl
          by_cases c145 : lm.toInt ≥ cd.toInt
          · have s146 : Sit p l e _ s m _ below meth c _ st n0 0 0 _ 140 #[.val (.int u0), .val (.int u1), .val (.int u2), .val (.int u3), .val (.int nn), .val (.int lm), .val (.int dl), .val (.int md), .val (.int cd), .val (.int u1)] [(.int nn), (.int lm), (.int u1), (.int cd)] := s144
              |>.icmpY at_113 (cmpT (cd := .ge) c145) (by decide) (by decide)
              |>.iloadN at_130 rfl rfl
              |>.istore #[.val (.int u0), .val (.int u1), .val (.int u2), .val (.int u3), .val (.int nn), .val (.int lm), .val (.int dl), .val (.int md), .val (.int cd), .val (.int u1)] at_131 rfl rfl
              |>.iload at_133 rfl rfl
              |>.iloadN at_135 rfl rfl
              |>.iload at_136 rfl rfl
              |>.iload at_138 rfl rfl
            obtain ⟨r148, s147⟩ := Sit.callS (y := (⟨"com/example/o1bucket/o1bucket/range/BucketCounts", "topRangeOr", "(IIII)I"⟩ : MethodName)) (W := 0) (Q := fun v hh => (v = some (.int (trF cd u1 lm nn))) ∧ (fun hh => hh = h0) hh) [(.int cd), (.int u1), (.int lm), (.int nn)] [] s146 hZ hown (wi hw 15 rfl) (wi hw 16 rfl) (wi hw 7 rfl) (wi hw 17 rfl) (by decide) (fun h1 hP hn => (rmTop l Z a0 hw [] cd u1 lm nn h1 n0 hn).mono fun v hh q => ⟨q.1, q.2 ▸ hP⟩) hml rfl (lenOf pd_2 rfl) at_140 (Nat.le_of_eq rfl) (by decide) (by decide) (by decide) (by decide) (pc' := 143) rfl
            obtain ⟨_, er148, _⟩ := s147.facts
            subst er148
            have s149 : Sit p l e _ s m _ below meth c _ st n0 0 0 (fun hh => hh = h0) 143 #[.val (.int u0), .val (.int u1), .val (.int u2), .val (.int u3), .val (.int nn), .val (.int lm), .val (.int dl), .val (.int md), .val (.int cd), .val (.int u1)] [(.int (trF cd u1 lm nn))] := s147.mono fun _ q => q.2
            have s150 : Sit p l e _ s m _ below meth c _ st n0 0 0 _ 145 #[.val (.int u0), .val (.int u1), .val (.int u2), .val (.int u3), .val (.int nn), .val (.int lm), .val (.int dl), .val (.int md), .val (.int cd), .val (.int u1)] [(.int u1), (.int (trF cd u1 lm nn))] := s149
              |>.iload at_143 rfl rfl
            have s151 : Sit p l e _ s m _ below meth c _ st n0 0 0 _ 153 #[.val (.int u0), .val (.int u1), .val (.int u2), .val (.int u3), .val (.int nn), .val (.int lm), .val (.int dl), .val (.int md), .val (.int cd), .val (.int u1)] [(.int (1 : Int32))] := s150
              |>.icmpN at_145 ((neF (Classical.not_not.mp (fun h => h (trF_out hc hl (by omega) (by omega)))))) rfl
              |>.iconst (1 : Int32) at_148 rfl rfl
              |>.goto at_149 (by decide) (by decide)
            exact s151.retZ at_153 hret hlk (fun hh q => rfl)
          · have s152 : Sit p l e _ s m _ below meth c _ st n0 0 0 _ 120 #[.val (.int u0), .val (.int u1), .val (.int u2), .val (.int u3), .val (.int nn), .val (.int lm), .val (.int dl), .val (.int md), .val (.int cd), .unset] [(.int nn), (.int cd)] := s144
              |>.icmpN at_113 (cmpF (cd := .ge) c145) rfl
              |>.iload at_116 rfl rfl
              |>.iload at_118 rfl rfl
            by_cases c153 : cd.toInt ≥ nn.toInt
            · have s154 : Sit p l e _ s m _ below meth c _ st n0 0 0 _ 140 #[.val (.int u0), .val (.int u1), .val (.int u2), .val (.int u3), .val (.int nn), .val (.int lm), .val (.int dl), .val (.int md), .val (.int cd), .val (.int u1)] [(.int nn), (.int lm), (.int u1), (.int cd)] := s152
                |>.icmpY at_120 (cmpT (cd := .ge) c153) (by decide) (by decide)
                |>.iloadN at_130 rfl rfl
                |>.istore #[.val (.int u0), .val (.int u1), .val (.int u2), .val (.int u3), .val (.int nn), .val (.int lm), .val (.int dl), .val (.int md), .val (.int cd), .val (.int u1)] at_131 rfl rfl
                |>.iload at_133 rfl rfl
                |>.iloadN at_135 rfl rfl
                |>.iload at_136 rfl rfl
                |>.iload at_138 rfl rfl
              obtain ⟨r156, s155⟩ := Sit.callS (y := (⟨"com/example/o1bucket/o1bucket/range/BucketCounts", "topRangeOr", "(IIII)I"⟩ : MethodName)) (W := 0) (Q := fun v hh => (v = some (.int (trF cd u1 lm nn))) ∧ (fun hh => hh = h0) hh) [(.int cd), (.int u1), (.int lm), (.int nn)] [] s154 hZ hown (wi hw 15 rfl) (wi hw 16 rfl) (wi hw 7 rfl) (wi hw 17 rfl) (by decide) (fun h1 hP hn => (rmTop l Z a0 hw [] cd u1 lm nn h1 n0 hn).mono fun v hh q => ⟨q.1, q.2 ▸ hP⟩) hml rfl (lenOf pd_2 rfl) at_140 (Nat.le_of_eq rfl) (by decide) (by decide) (by decide) (by decide) (pc' := 143) rfl
              obtain ⟨_, er156, _⟩ := s155.facts
              subst er156
              have s157 : Sit p l e _ s m _ below meth c _ st n0 0 0 (fun hh => hh = h0) 143 #[.val (.int u0), .val (.int u1), .val (.int u2), .val (.int u3), .val (.int nn), .val (.int lm), .val (.int dl), .val (.int md), .val (.int cd), .val (.int u1)] [(.int (trF cd u1 lm nn))] := s155.mono fun _ q => q.2
              have s158 : Sit p l e _ s m _ below meth c _ st n0 0 0 _ 145 #[.val (.int u0), .val (.int u1), .val (.int u2), .val (.int u3), .val (.int nn), .val (.int lm), .val (.int dl), .val (.int md), .val (.int cd), .val (.int u1)] [(.int u1), (.int (trF cd u1 lm nn))] := s157
                |>.iload at_143 rfl rfl
              have s159 : Sit p l e _ s m _ below meth c _ st n0 0 0 _ 153 #[.val (.int u0), .val (.int u1), .val (.int u2), .val (.int u3), .val (.int nn), .val (.int lm), .val (.int dl), .val (.int md), .val (.int cd), .val (.int u1)] [(.int (1 : Int32))] := s158
                |>.icmpN at_145 ((neF (Classical.not_not.mp (fun h => h (trF_out hc hl (by omega) (by omega)))))) rfl
                |>.iconst (1 : Int32) at_148 rfl rfl
                |>.goto at_149 (by decide) (by decide)
              exact s159.retZ at_153 hret hlk (fun hh q => rfl)
            · have s160 : Sit p l e _ s m _ below meth c _ st n0 0 0 _ 140 #[.val (.int u0), .val (.int u1), .val (.int u2), .val (.int u3), .val (.int nn), .val (.int lm), .val (.int dl), .val (.int md), .val (.int cd), .val (.int cd)] [(.int nn), (.int lm), (.int u1), (.int cd)] := s152
                |>.icmpN at_120 (cmpF (cd := .ge) c153) rfl
                |>.iload at_123 rfl rfl
                |>.istore #[.val (.int u0), .val (.int u1), .val (.int u2), .val (.int u3), .val (.int nn), .val (.int lm), .val (.int dl), .val (.int md), .val (.int cd), .val (.int cd)] at_125 rfl rfl
                |>.goto at_127 (by decide) (by decide)
                |>.iload at_133 rfl rfl
                |>.iloadN at_135 rfl rfl
                |>.iload at_136 rfl rfl
                |>.iload at_138 rfl rfl
              obtain ⟨r162, s161⟩ := Sit.callS (y := (⟨"com/example/o1bucket/o1bucket/range/BucketCounts", "topRangeOr", "(IIII)I"⟩ : MethodName)) (W := 0) (Q := fun v hh => (v = some (.int (trF cd u1 lm nn))) ∧ (fun hh => hh = h0) hh) [(.int cd), (.int u1), (.int lm), (.int nn)] [] s160 hZ hown (wi hw 15 rfl) (wi hw 16 rfl) (wi hw 7 rfl) (wi hw 17 rfl) (by decide) (fun h1 hP hn => (rmTop l Z a0 hw [] cd u1 lm nn h1 n0 hn).mono fun v hh q => ⟨q.1, q.2 ▸ hP⟩) hml rfl (lenOf pd_2 rfl) at_140 (Nat.le_of_eq rfl) (by decide) (by decide) (by decide) (by decide) (pc' := 143) rfl
              obtain ⟨_, er162, _⟩ := s161.facts
              subst er162
              have s163 : Sit p l e _ s m _ below meth c _ st n0 0 0 (fun hh => hh = h0) 143 #[.val (.int u0), .val (.int u1), .val (.int u2), .val (.int u3), .val (.int nn), .val (.int lm), .val (.int dl), .val (.int md), .val (.int cd), .val (.int cd)] [(.int (trF cd u1 lm nn))] := s161.mono fun _ q => q.2
              have s164 : Sit p l e _ s m _ below meth c _ st n0 0 0 _ 145 #[.val (.int u0), .val (.int u1), .val (.int u2), .val (.int u3), .val (.int nn), .val (.int lm), .val (.int dl), .val (.int md), .val (.int cd), .val (.int cd)] [(.int cd), (.int (trF cd u1 lm nn))] := s163
                |>.iload at_143 rfl rfl
              have s165 : Sit p l e _ s m _ below meth c _ st n0 0 0 _ 153 #[.val (.int u0), .val (.int u1), .val (.int u2), .val (.int u3), .val (.int nn), .val (.int lm), .val (.int dl), .val (.int md), .val (.int cd), .val (.int cd)] [(.int (1 : Int32))] := s164
                |>.icmpN at_145 ((neF (Classical.not_not.mp (fun h => h (trF_in hc hl (by omega) (by omega) (by omega)))))) rfl
                |>.iconst (1 : Int32) at_148 rfl rfl
                |>.goto at_149 (by decide) (by decide)
              exact s165.retZ at_153 hret hlk (fun hh q => rfl)
        · have s166 : Sit p l e _ s m _ below meth c _ st n0 0 0 _ 109 #[.val (.int u0), .val (.int u1), .val (.int u2), .val (.int u3), .val (.int nn), .val (.int lm), .val (.int dl), .val (.int md), .val (.int ((lm + dl) &&& (2147483647 : Int32))), .unset] [] := s140
            |>.icmpN at_86 ((neF (Classical.not_not.mp c141))) rfl
            |>.iload at_89 rfl rfl
            |>.iload at_91 rfl rfl
            |>.iadd at_93 rfl
            |>.ldc hZ hown (wi hw 0 rfl) at_94 rfl
            |>.iand at_96 rfl
            |>.istore #[.val (.int u0), .val (.int u1), .val (.int u2), .val (.int u3), .val (.int nn), .val (.int lm), .val (.int dl), .val (.int md), .val (.int ((lm + dl) &&& (2147483647 : Int32))), .unset] at_97 rfl rfl
            |>.goto at_99 (by decide) (by decide)
          obtain ⟨cd, e_cd, s167⟩ : ∃ cd : Int32, cd = ((lm + dl) &&& (2147483647 : Int32)) ∧ Sit p l e _ s m _ below meth c _ st n0 0 0 _ 109 #[.val (.int u0), .val (.int u1), .val (.int u2), .val (.int u3), .val (.int nn), .val (.int lm), .val (.int dl), .val (.int md), .val (.int cd), .unset] [] := ⟨_, rfl, s166⟩
          have hc : 0 ≤ cd.toInt := by rw [e_cd]; first | exact and31 _ | exact and255 _
          have s168 : Sit p l e _ s m _ below meth c _ st n0 0 0 _ 113 #[.val (.int u0), .val (.int u1), .val (.int u2), .val (.int u3), .val (.int nn), .val (.int lm), .val (.int dl), .val (.int md), .val (.int cd), .unset] [(.int cd), (.int lm)] := s167
            |>.iload at_109 rfl rfl
            |>.iload at_111 rfl rfl
          by_cases c169 : lm.toInt ≥ cd.toInt
          · have s170 : Sit p l e _ s m _ below meth c _ st n0 0 0 _ 140 #[.val (.int u0), .val (.int u1), .val (.int u2), .val (.int u3), .val (.int nn), .val (.int lm), .val (.int dl), .val (.int md), .val (.int cd), .val (.int u1)] [(.int nn), (.int lm), (.int u1), (.int cd)] := s168
              |>.icmpY at_113 (cmpT (cd := .ge) c169) (by decide) (by decide)
              |>.iloadN at_130 rfl rfl
              |>.istore #[.val (.int u0), .val (.int u1), .val (.int u2), .val (.int u3), .val (.int nn), .val (.int lm), .val (.int dl), .val (.int md), .val (.int cd), .val (.int u1)] at_131 rfl rfl
              |>.iload at_133 rfl rfl
              |>.iloadN at_135 rfl rfl
              |>.iload at_136 rfl rfl
              |>.iload at_138 rfl rfl
            obtain ⟨r172, s171⟩ := Sit.callS (y := (⟨"com/example/o1bucket/o1bucket/range/BucketCounts", "topRangeOr", "(IIII)I"⟩ : MethodName)) (W := 0) (Q := fun v hh => (v = some (.int (trF cd u1 lm nn))) ∧ (fun hh => hh = h0) hh) [(.int cd), (.int u1), (.int lm), (.int nn)] [] s170 hZ hown (wi hw 15 rfl) (wi hw 16 rfl) (wi hw 7 rfl) (wi hw 17 rfl) (by decide) (fun h1 hP hn => (rmTop l Z a0 hw [] cd u1 lm nn h1 n0 hn).mono fun v hh q => ⟨q.1, q.2 ▸ hP⟩) hml rfl (lenOf pd_2 rfl) at_140 (Nat.le_of_eq rfl) (by decide) (by decide) (by decide) (by decide) (pc' := 143) rfl
            obtain ⟨_, er172, _⟩ := s171.facts
            subst er172
            have s173 : Sit p l e _ s m _ below meth c _ st n0 0 0 (fun hh => hh = h0) 143 #[.val (.int u0), .val (.int u1), .val (.int u2), .val (.int u3), .val (.int nn), .val (.int lm), .val (.int dl), .val (.int md), .val (.int cd), .val (.int u1)] [(.int (trF cd u1 lm nn))] := s171.mono fun _ q => q.2
            have s174 : Sit p l e _ s m _ below meth c _ st n0 0 0 _ 145 #[.val (.int u0), .val (.int u1), .val (.int u2), .val (.int u3), .val (.int nn), .val (.int lm), .val (.int dl), .val (.int md), .val (.int cd), .val (.int u1)] [(.int u1), (.int (trF cd u1 lm nn))] := s173
              |>.iload at_143 rfl rfl
            have s175 : Sit p l e _ s m _ below meth c _ st n0 0 0 _ 153 #[.val (.int u0), .val (.int u1), .val (.int u2), .val (.int u3), .val (.int nn), .val (.int lm), .val (.int dl), .val (.int md), .val (.int cd), .val (.int u1)] [(.int (1 : Int32))] := s174
              |>.icmpN at_145 ((neF (Classical.not_not.mp (fun h => h (trF_out hc hl (by omega) (by omega)))))) rfl
              |>.iconst (1 : Int32) at_148 rfl rfl
              |>.goto at_149 (by decide) (by decide)
            exact s175.retZ at_153 hret hlk (fun hh q => rfl)
          · have s176 : Sit p l e _ s m _ below meth c _ st n0 0 0 _ 120 #[.val (.int u0), .val (.int u1), .val (.int u2), .val (.int u3), .val (.int nn), .val (.int lm), .val (.int dl), .val (.int md), .val (.int cd), .unset] [(.int nn), (.int cd)] := s168
              |>.icmpN at_113 (cmpF (cd := .ge) c169) rfl
              |>.iload at_116 rfl rfl
              |>.iload at_118 rfl rfl
            by_cases c177 : cd.toInt ≥ nn.toInt
            · have s178 : Sit p l e _ s m _ below meth c _ st n0 0 0 _ 140 #[.val (.int u0), .val (.int u1), .val (.int u2), .val (.int u3), .val (.int nn), .val (.int lm), .val (.int dl), .val (.int md), .val (.int cd), .val (.int u1)] [(.int nn), (.int lm), (.int u1), (.int cd)] := s176
                |>.icmpY at_120 (cmpT (cd := .ge) c177) (by decide) (by decide)
                |>.iloadN at_130 rfl rfl
                |>.istore #[.val (.int u0), .val (.int u1), .val (.int u2), .val (.int u3), .val (.int nn), .val (.int lm), .val (.int dl), .val (.int md), .val (.int cd), .val (.int u1)] at_131 rfl rfl
                |>.iload at_133 rfl rfl
                |>.iloadN at_135 rfl rfl
                |>.iload at_136 rfl rfl
                |>.iload at_138 rfl rfl
              obtain ⟨r180, s179⟩ := Sit.callS (y := (⟨"com/example/o1bucket/o1bucket/range/BucketCounts", "topRangeOr", "(IIII)I"⟩ : MethodName)) (W := 0) (Q := fun v hh => (v = some (.int (trF cd u1 lm nn))) ∧ (fun hh => hh = h0) hh) [(.int cd), (.int u1), (.int lm), (.int nn)] [] s178 hZ hown (wi hw 15 rfl) (wi hw 16 rfl) (wi hw 7 rfl) (wi hw 17 rfl) (by decide) (fun h1 hP hn => (rmTop l Z a0 hw [] cd u1 lm nn h1 n0 hn).mono fun v hh q => ⟨q.1, q.2 ▸ hP⟩) hml rfl (lenOf pd_2 rfl) at_140 (Nat.le_of_eq rfl) (by decide) (by decide) (by decide) (by decide) (pc' := 143) rfl
              obtain ⟨_, er180, _⟩ := s179.facts
              subst er180
              have s181 : Sit p l e _ s m _ below meth c _ st n0 0 0 (fun hh => hh = h0) 143 #[.val (.int u0), .val (.int u1), .val (.int u2), .val (.int u3), .val (.int nn), .val (.int lm), .val (.int dl), .val (.int md), .val (.int cd), .val (.int u1)] [(.int (trF cd u1 lm nn))] := s179.mono fun _ q => q.2
              have s182 : Sit p l e _ s m _ below meth c _ st n0 0 0 _ 145 #[.val (.int u0), .val (.int u1), .val (.int u2), .val (.int u3), .val (.int nn), .val (.int lm), .val (.int dl), .val (.int md), .val (.int cd), .val (.int u1)] [(.int u1), (.int (trF cd u1 lm nn))] := s181
                |>.iload at_143 rfl rfl
              have s183 : Sit p l e _ s m _ below meth c _ st n0 0 0 _ 153 #[.val (.int u0), .val (.int u1), .val (.int u2), .val (.int u3), .val (.int nn), .val (.int lm), .val (.int dl), .val (.int md), .val (.int cd), .val (.int u1)] [(.int (1 : Int32))] := s182
                |>.icmpN at_145 ((neF (Classical.not_not.mp (fun h => h (trF_out hc hl (by omega) (by omega)))))) rfl
                |>.iconst (1 : Int32) at_148 rfl rfl
                |>.goto at_149 (by decide) (by decide)
              exact s183.retZ at_153 hret hlk (fun hh q => rfl)
            · have s184 : Sit p l e _ s m _ below meth c _ st n0 0 0 _ 140 #[.val (.int u0), .val (.int u1), .val (.int u2), .val (.int u3), .val (.int nn), .val (.int lm), .val (.int dl), .val (.int md), .val (.int cd), .val (.int cd)] [(.int nn), (.int lm), (.int u1), (.int cd)] := s176
                |>.icmpN at_120 (cmpF (cd := .ge) c177) rfl
                |>.iload at_123 rfl rfl
                |>.istore #[.val (.int u0), .val (.int u1), .val (.int u2), .val (.int u3), .val (.int nn), .val (.int lm), .val (.int dl), .val (.int md), .val (.int cd), .val (.int cd)] at_125 rfl rfl
                |>.goto at_127 (by decide) (by decide)
                |>.iload at_133 rfl rfl
                |>.iloadN at_135 rfl rfl
                |>.iload at_136 rfl rfl
                |>.iload at_138 rfl rfl
              obtain ⟨r186, s185⟩ := Sit.callS (y := (⟨"com/example/o1bucket/o1bucket/range/BucketCounts", "topRangeOr", "(IIII)I"⟩ : MethodName)) (W := 0) (Q := fun v hh => (v = some (.int (trF cd u1 lm nn))) ∧ (fun hh => hh = h0) hh) [(.int cd), (.int u1), (.int lm), (.int nn)] [] s184 hZ hown (wi hw 15 rfl) (wi hw 16 rfl) (wi hw 7 rfl) (wi hw 17 rfl) (by decide) (fun h1 hP hn => (rmTop l Z a0 hw [] cd u1 lm nn h1 n0 hn).mono fun v hh q => ⟨q.1, q.2 ▸ hP⟩) hml rfl (lenOf pd_2 rfl) at_140 (Nat.le_of_eq rfl) (by decide) (by decide) (by decide) (by decide) (pc' := 143) rfl
              obtain ⟨_, er186, _⟩ := s185.facts
              subst er186
              have s187 : Sit p l e _ s m _ below meth c _ st n0 0 0 (fun hh => hh = h0) 143 #[.val (.int u0), .val (.int u1), .val (.int u2), .val (.int u3), .val (.int nn), .val (.int lm), .val (.int dl), .val (.int md), .val (.int cd), .val (.int cd)] [(.int (trF cd u1 lm nn))] := s185.mono fun _ q => q.2
              have s188 : Sit p l e _ s m _ below meth c _ st n0 0 0 _ 145 #[.val (.int u0), .val (.int u1), .val (.int u2), .val (.int u3), .val (.int nn), .val (.int lm), .val (.int dl), .val (.int md), .val (.int cd), .val (.int cd)] [(.int cd), (.int (trF cd u1 lm nn))] := s187
                |>.iload at_143 rfl rfl
              have s189 : Sit p l e _ s m _ below meth c _ st n0 0 0 _ 153 #[.val (.int u0), .val (.int u1), .val (.int u2), .val (.int u3), .val (.int nn), .val (.int lm), .val (.int dl), .val (.int md), .val (.int cd), .val (.int cd)] [(.int (1 : Int32))] := s188
                |>.icmpN at_145 ((neF (Classical.not_not.mp (fun h => h (trF_in hc hl (by omega) (by omega) (by omega)))))) rfl
                |>.iconst (1 : Int32) at_148 rfl rfl
                |>.goto at_149 (by decide) (by decide)
              exact s189.retZ at_153 hret hlk (fun hh q => rfl)
      · have s190 : Sit p l e _ s m _ below meth c _ st n0 0 0 _ 109 #[.val (.int u0), .val (.int u1), .val (.int u2), .val (.int u3), .val (.int nn), .val (.int lm), .val (.int dl), .val (.int md), .val (.int ((nn + dl) &&& (2147483647 : Int32))), .unset] [] := s138
          |>.icmpN at_67 ((neF (Classical.not_not.mp c139))) rfl
          |>.iload at_70 rfl rfl
          |>.iload at_72 rfl rfl
          |>.iadd at_74 rfl
          |>.ldc hZ hown (wi hw 0 rfl) at_75 rfl
          |>.iand at_77 rfl
          |>.istore #[.val (.int u0), .val (.int u1), .val (.int u2), .val (.int u3), .val (.int nn), .val (.int lm), .val (.int dl), .val (.int md), .val (.int ((nn + dl) &&& (2147483647 : Int32))), .unset] at_78 rfl rfl
          |>.goto at_80 (by decide) (by decide)
        obtain ⟨cd, e_cd, s191⟩ : ∃ cd : Int32, cd = ((nn + dl) &&& (2147483647 : Int32)) ∧ Sit p l e _ s m _ below meth c _ st n0 0 0 _ 109 #[.val (.int u0), .val (.int u1), .val (.int u2), .val (.int u3), .val (.int nn), .val (.int lm), .val (.int dl), .val (.int md), .val (.int cd), .unset] [] := ⟨_, rfl, s190⟩
        have hc : 0 ≤ cd.toInt := by rw [e_cd]; first | exact and31 _ | exact and255 _
        have s192 : Sit p l e _ s m _ below meth c _ st n0 0 0 _ 113 #[.val (.int u0), .val (.int u1), .val (.int u2), .val (.int u3), .val (.int nn), .val (.int lm), .val (.int dl), .val (.int md), .val (.int cd), .unset] [(.int cd), (.int lm)] := s191
          |>.iload at_109 rfl rfl
          |>.iload at_111 rfl rfl
        by_cases c193 : lm.toInt ≥ cd.toInt
        · have s194 : Sit p l e _ s m _ below meth c _ st n0 0 0 _ 140 #[.val (.int u0), .val (.int u1), .val (.int u2), .val (.int u3), .val (.int nn), .val (.int lm), .val (.int dl), .val (.int md), .val (.int cd), .val (.int u1)] [(.int nn), (.int lm), (.int u1), (.int cd)] := s192
            |>.icmpY at_113 (cmpT (cd := .ge) c193) (by decide) (by decide)
            |>.iloadN at_130 rfl rfl
            |>.istore #[.val (.int u0), .val (.int u1), .val (.int u2), .val (.int u3), .val (.int nn), .val (.int lm), .val (.int dl), .val (.int md), .val (.int cd), .val (.int u1)] at_131 rfl rfl
            |>.iload at_133 rfl rfl
            |>.iloadN at_135 rfl rfl
            |>.iload at_136 rfl rfl
            |>.iload at_138 rfl rfl
          obtain ⟨r196, s195⟩ := Sit.callS (y := (⟨"com/example/o1bucket/o1bucket/range/BucketCounts", "topRangeOr", "(IIII)I"⟩ : MethodName)) (W := 0) (Q := fun v hh => (v = some (.int (trF cd u1 lm nn))) ∧ (fun hh => hh = h0) hh) [(.int cd), (.int u1), (.int lm), (.int nn)] [] s194 hZ hown (wi hw 15 rfl) (wi hw 16 rfl) (wi hw 7 rfl) (wi hw 17 rfl) (by decide) (fun h1 hP hn => (rmTop l Z a0 hw [] cd u1 lm nn h1 n0 hn).mono fun v hh q => ⟨q.1, q.2 ▸ hP⟩) hml rfl (lenOf pd_2 rfl) at_140 (Nat.le_of_eq rfl) (by decide) (by decide) (by decide) (by decide) (pc' := 143) rfl
          obtain ⟨_, er196, _⟩ := s195.facts
          subst er196
          have s197 : Sit p l e _ s m _ below meth c _ st n0 0 0 (fun hh => hh = h0) 143 #[.val (.int u0), .val (.int u1), .val (.int u2), .val (.int u3), .val (.int nn), .val (.int lm), .val (.int dl), .val (.int md), .val (.int cd), .val (.int u1)] [(.int (trF cd u1 lm nn))] := s195.mono fun _ q => q.2
          have s198 : Sit p l e _ s m _ below meth c _ st n0 0 0 _ 145 #[.val (.int u0), .val (.int u1), .val (.int u2), .val (.int u3), .val (.int nn), .val (.int lm), .val (.int dl), .val (.int md), .val (.int cd), .val (.int u1)] [(.int u1), (.int (trF cd u1 lm nn))] := s197
            |>.iload at_143 rfl rfl
          have s199 : Sit p l e _ s m _ below meth c _ st n0 0 0 _ 153 #[.val (.int u0), .val (.int u1), .val (.int u2), .val (.int u3), .val (.int nn), .val (.int lm), .val (.int dl), .val (.int md), .val (.int cd), .val (.int u1)] [(.int (1 : Int32))] := s198
            |>.icmpN at_145 ((neF (Classical.not_not.mp (fun h => h (trF_out hc hl (by omega) (by omega)))))) rfl
            |>.iconst (1 : Int32) at_148 rfl rfl
            |>.goto at_149 (by decide) (by decide)
          exact s199.retZ at_153 hret hlk (fun hh q => rfl)
        · have s200 : Sit p l e _ s m _ below meth c _ st n0 0 0 _ 120 #[.val (.int u0), .val (.int u1), .val (.int u2), .val (.int u3), .val (.int nn), .val (.int lm), .val (.int dl), .val (.int md), .val (.int cd), .unset] [(.int nn), (.int cd)] := s192
            |>.icmpN at_113 (cmpF (cd := .ge) c193) rfl
            |>.iload at_116 rfl rfl
            |>.iload at_118 rfl rfl
          by_cases c201 : cd.toInt ≥ nn.toInt
          · have s202 : Sit p l e _ s m _ below meth c _ st n0 0 0 _ 140 #[.val (.int u0), .val (.int u1), .val (.int u2), .val (.int u3), .val (.int nn), .val (.int lm), .val (.int dl), .val (.int md), .val (.int cd), .val (.int u1)] [(.int nn), (.int lm), (.int u1), (.int cd)] := s200
              |>.icmpY at_120 (cmpT (cd := .ge) c201) (by decide) (by decide)
              |>.iloadN at_130 rfl rfl
              |>.istore #[.val (.int u0), .val (.int u1), .val (.int u2), .val (.int u3), .val (.int nn), .val (.int lm), .val (.int dl), .val (.int md), .val (.int cd), .val (.int u1)] at_131 rfl rfl
              |>.iload at_133 rfl rfl
              |>.iloadN at_135 rfl rfl
              |>.iload at_136 rfl rfl
              |>.iload at_138 rfl rfl
            obtain ⟨r204, s203⟩ := Sit.callS (y := (⟨"com/example/o1bucket/o1bucket/range/BucketCounts", "topRangeOr", "(IIII)I"⟩ : MethodName)) (W := 0) (Q := fun v hh => (v = some (.int (trF cd u1 lm nn))) ∧ (fun hh => hh = h0) hh) [(.int cd), (.int u1), (.int lm), (.int nn)] [] s202 hZ hown (wi hw 15 rfl) (wi hw 16 rfl) (wi hw 7 rfl) (wi hw 17 rfl) (by decide) (fun h1 hP hn => (rmTop l Z a0 hw [] cd u1 lm nn h1 n0 hn).mono fun v hh q => ⟨q.1, q.2 ▸ hP⟩) hml rfl (lenOf pd_2 rfl) at_140 (Nat.le_of_eq rfl) (by decide) (by decide) (by decide) (by decide) (pc' := 143) rfl
            obtain ⟨_, er204, _⟩ := s203.facts
            subst er204
            have s205 : Sit p l e _ s m _ below meth c _ st n0 0 0 (fun hh => hh = h0) 143 #[.val (.int u0), .val (.int u1), .val (.int u2), .val (.int u3), .val (.int nn), .val (.int lm), .val (.int dl), .val (.int md), .val (.int cd), .val (.int u1)] [(.int (trF cd u1 lm nn))] := s203.mono fun _ q => q.2
            have s206 : Sit p l e _ s m _ below meth c _ st n0 0 0 _ 145 #[.val (.int u0), .val (.int u1), .val (.int u2), .val (.int u3), .val (.int nn), .val (.int lm), .val (.int dl), .val (.int md), .val (.int cd), .val (.int u1)] [(.int u1), (.int (trF cd u1 lm nn))] := s205
              |>.iload at_143 rfl rfl
            have s207 : Sit p l e _ s m _ below meth c _ st n0 0 0 _ 153 #[.val (.int u0), .val (.int u1), .val (.int u2), .val (.int u3), .val (.int nn), .val (.int lm), .val (.int dl), .val (.int md), .val (.int cd), .val (.int u1)] [(.int (1 : Int32))] := s206
              |>.icmpN at_145 ((neF (Classical.not_not.mp (fun h => h (trF_out hc hl (by omega) (by omega)))))) rfl
              |>.iconst (1 : Int32) at_148 rfl rfl
              |>.goto at_149 (by decide) (by decide)
            exact s207.retZ at_153 hret hlk (fun hh q => rfl)
          · have s208 : Sit p l e _ s m _ below meth c _ st n0 0 0 _ 140 #[.val (.int u0), .val (.int u1), .val (.int u2), .val (.int u3), .val (.int nn), .val (.int lm), .val (.int dl), .val (.int md), .val (.int cd), .val (.int cd)] [(.int nn), (.int lm), (.int u1), (.int cd)] := s200
              |>.icmpN at_120 (cmpF (cd := .ge) c201) rfl
              |>.iload at_123 rfl rfl
              |>.istore #[.val (.int u0), .val (.int u1), .val (.int u2), .val (.int u3), .val (.int nn), .val (.int lm), .val (.int dl), .val (.int md), .val (.int cd), .val (.int cd)] at_125 rfl rfl
              |>.goto at_127 (by decide) (by decide)
              |>.iload at_133 rfl rfl
              |>.iloadN at_135 rfl rfl
              |>.iload at_136 rfl rfl
              |>.iload at_138 rfl rfl
            obtain ⟨r210, s209⟩ := Sit.callS (y := (⟨"com/example/o1bucket/o1bucket/range/BucketCounts", "topRangeOr", "(IIII)I"⟩ : MethodName)) (W := 0) (Q := fun v hh => (v = some (.int (trF cd u1 lm nn))) ∧ (fun hh => hh = h0) hh) [(.int cd), (.int u1), (.int lm), (.int nn)] [] s208 hZ hown (wi hw 15 rfl) (wi hw 16 rfl) (wi hw 7 rfl) (wi hw 17 rfl) (by decide) (fun h1 hP hn => (rmTop l Z a0 hw [] cd u1 lm nn h1 n0 hn).mono fun v hh q => ⟨q.1, q.2 ▸ hP⟩) hml rfl (lenOf pd_2 rfl) at_140 (Nat.le_of_eq rfl) (by decide) (by decide) (by decide) (by decide) (pc' := 143) rfl
            obtain ⟨_, er210, _⟩ := s209.facts
            subst er210
            have s211 : Sit p l e _ s m _ below meth c _ st n0 0 0 (fun hh => hh = h0) 143 #[.val (.int u0), .val (.int u1), .val (.int u2), .val (.int u3), .val (.int nn), .val (.int lm), .val (.int dl), .val (.int md), .val (.int cd), .val (.int cd)] [(.int (trF cd u1 lm nn))] := s209.mono fun _ q => q.2
            have s212 : Sit p l e _ s m _ below meth c _ st n0 0 0 _ 145 #[.val (.int u0), .val (.int u1), .val (.int u2), .val (.int u3), .val (.int nn), .val (.int lm), .val (.int dl), .val (.int md), .val (.int cd), .val (.int cd)] [(.int cd), (.int (trF cd u1 lm nn))] := s211
              |>.iload at_143 rfl rfl
            have s213 : Sit p l e _ s m _ below meth c _ st n0 0 0 _ 153 #[.val (.int u0), .val (.int u1), .val (.int u2), .val (.int u3), .val (.int nn), .val (.int lm), .val (.int dl), .val (.int md), .val (.int cd), .val (.int cd)] [(.int (1 : Int32))] := s212
              |>.icmpN at_145 ((neF (Classical.not_not.mp (fun h => h (trF_in hc hl (by omega) (by omega) (by omega)))))) rfl
              |>.iconst (1 : Int32) at_148 rfl rfl
              |>.goto at_149 (by decide) (by decide)
            exact s213.retZ at_153 hret hlk (fun hh q => rfl)
    · have s214 : Sit p l e _ s m _ below meth c _ st n0 0 0 _ 109 #[.val (.int u0), .val (.int u1), .val (.int u2), .val (.int u3), .val (.int nn), .val (.int lm), .val (.int dl), .val (.int md), .val (.int (u0 &&& (2147483647 : Int32))), .unset] [] := s136
        |>.ifN at_52 ((neF (Classical.not_not.mp c137))) rfl
        |>.iloadN at_55 rfl rfl
        |>.ldc hZ hown (wi hw 0 rfl) at_56 rfl
        |>.iand at_58 rfl
        |>.istore #[.val (.int u0), .val (.int u1), .val (.int u2), .val (.int u3), .val (.int nn), .val (.int lm), .val (.int dl), .val (.int md), .val (.int (u0 &&& (2147483647 : Int32))), .unset] at_59 rfl rfl
        |>.goto at_61 (by decide) (by decide)
      obtain ⟨cd, e_cd, s215⟩ : ∃ cd : Int32, cd = (u0 &&& (2147483647 : Int32)) ∧ Sit p l e _ s m _ below meth c _ st n0 0 0 _ 109 #[.val (.int u0), .val (.int u1), .val (.int u2), .val (.int u3), .val (.int nn), .val (.int lm), .val (.int dl), .val (.int md), .val (.int cd), .unset] [] := ⟨_, rfl, s214⟩
      have hc : 0 ≤ cd.toInt := by rw [e_cd]; first | exact and31 _ | exact and255 _
      have s216 : Sit p l e _ s m _ below meth c _ st n0 0 0 _ 113 #[.val (.int u0), .val (.int u1), .val (.int u2), .val (.int u3), .val (.int nn), .val (.int lm), .val (.int dl), .val (.int md), .val (.int cd), .unset] [(.int cd), (.int lm)] := s215
        |>.iload at_109 rfl rfl
        |>.iload at_111 rfl rfl
      by_cases c217 : lm.toInt ≥ cd.toInt
      · have s218 : Sit p l e _ s m _ below meth c _ st n0 0 0 _ 140 #[.val (.int u0), .val (.int u1), .val (.int u2), .val (.int u3), .val (.int nn), .val (.int lm), .val (.int dl), .val (.int md), .val (.int cd), .val (.int u1)] [(.int nn), (.int lm), (.int u1), (.int cd)] := s216
          |>.icmpY at_113 (cmpT (cd := .ge) c217) (by decide) (by decide)
          |>.iloadN at_130 rfl rfl
          |>.istore #[.val (.int u0), .val (.int u1), .val (.int u2), .val (.int u3), .val (.int nn), .val (.int lm), .val (.int dl), .val (.int md), .val (.int cd), .val (.int u1)] at_131 rfl rfl
          |>.iload at_133 rfl rfl
          |>.iloadN at_135 rfl rfl
          |>.iload at_136 rfl rfl
          |>.iload at_138 rfl rfl
        obtain ⟨r220, s219⟩ := Sit.callS (y := (⟨"com/example/o1bucket/o1bucket/range/BucketCounts", "topRangeOr", "(IIII)I"⟩ : MethodName)) (W := 0) (Q := fun v hh => (v = some (.int (trF cd u1 lm nn))) ∧ (fun hh => hh = h0) hh) [(.int cd), (.int u1), (.int lm), (.int nn)] [] s218 hZ hown (wi hw 15 rfl) (wi hw 16 rfl) (wi hw 7 rfl) (wi hw 17 rfl) (by decide) (fun h1 hP hn => (rmTop l Z a0 hw [] cd u1 lm nn h1 n0 hn).mono fun v hh q => ⟨q.1, q.2 ▸ hP⟩) hml rfl (lenOf pd_2 rfl) at_140 (Nat.le_of_eq rfl) (by decide) (by decide) (by decide) (by decide) (pc' := 143) rfl
        obtain ⟨_, er220, _⟩ := s219.facts
        subst er220
        have s221 : Sit p l e _ s m _ below meth c _ st n0 0 0 (fun hh => hh = h0) 143 #[.val (.int u0), .val (.int u1), .val (.int u2), .val (.int u3), .val (.int nn), .val (.int lm), .val (.int dl), .val (.int md), .val (.int cd), .val (.int u1)] [(.int (trF cd u1 lm nn))] := s219.mono fun _ q => q.2
        have s222 : Sit p l e _ s m _ below meth c _ st n0 0 0 _ 145 #[.val (.int u0), .val (.int u1), .val (.int u2), .val (.int u3), .val (.int nn), .val (.int lm), .val (.int dl), .val (.int md), .val (.int cd), .val (.int u1)] [(.int u1), (.int (trF cd u1 lm nn))] := s221
          |>.iload at_143 rfl rfl
        have s223 : Sit p l e _ s m _ below meth c _ st n0 0 0 _ 153 #[.val (.int u0), .val (.int u1), .val (.int u2), .val (.int u3), .val (.int nn), .val (.int lm), .val (.int dl), .val (.int md), .val (.int cd), .val (.int u1)] [(.int (1 : Int32))] := s222
          |>.icmpN at_145 ((neF (Classical.not_not.mp (fun h => h (trF_out hc hl (by omega) (by omega)))))) rfl
          |>.iconst (1 : Int32) at_148 rfl rfl
          |>.goto at_149 (by decide) (by decide)
        exact s223.retZ at_153 hret hlk (fun hh q => rfl)
      · have s224 : Sit p l e _ s m _ below meth c _ st n0 0 0 _ 120 #[.val (.int u0), .val (.int u1), .val (.int u2), .val (.int u3), .val (.int nn), .val (.int lm), .val (.int dl), .val (.int md), .val (.int cd), .unset] [(.int nn), (.int cd)] := s216
          |>.icmpN at_113 (cmpF (cd := .ge) c217) rfl
          |>.iload at_116 rfl rfl
          |>.iload at_118 rfl rfl
        by_cases c225 : cd.toInt ≥ nn.toInt
        · have s226 : Sit p l e _ s m _ below meth c _ st n0 0 0 _ 140 #[.val (.int u0), .val (.int u1), .val (.int u2), .val (.int u3), .val (.int nn), .val (.int lm), .val (.int dl), .val (.int md), .val (.int cd), .val (.int u1)] [(.int nn), (.int lm), (.int u1), (.int cd)] := s224
            |>.icmpY at_120 (cmpT (cd := .ge) c225) (by decide) (by decide)
            |>.iloadN at_130 rfl rfl
            |>.istore #[.val (.int u0), .val (.int u1), .val (.int u2), .val (.int u3), .val (.int nn), .val (.int lm), .val (.int dl), .val (.int md), .val (.int cd), .val (.int u1)] at_131 rfl rfl
            |>.iload at_133 rfl rfl
            |>.iloadN at_135 rfl rfl
            |>.iload at_136 rfl rfl
            |>.iload at_138 rfl rfl
          obtain ⟨r228, s227⟩ := Sit.callS (y := (⟨"com/example/o1bucket/o1bucket/range/BucketCounts", "topRangeOr", "(IIII)I"⟩ : MethodName)) (W := 0) (Q := fun v hh => (v = some (.int (trF cd u1 lm nn))) ∧ (fun hh => hh = h0) hh) [(.int cd), (.int u1), (.int lm), (.int nn)] [] s226 hZ hown (wi hw 15 rfl) (wi hw 16 rfl) (wi hw 7 rfl) (wi hw 17 rfl) (by decide) (fun h1 hP hn => (rmTop l Z a0 hw [] cd u1 lm nn h1 n0 hn).mono fun v hh q => ⟨q.1, q.2 ▸ hP⟩) hml rfl (lenOf pd_2 rfl) at_140 (Nat.le_of_eq rfl) (by decide) (by decide) (by decide) (by decide) (pc' := 143) rfl
          obtain ⟨_, er228, _⟩ := s227.facts
          subst er228
          have s229 : Sit p l e _ s m _ below meth c _ st n0 0 0 (fun hh => hh = h0) 143 #[.val (.int u0), .val (.int u1), .val (.int u2), .val (.int u3), .val (.int nn), .val (.int lm), .val (.int dl), .val (.int md), .val (.int cd), .val (.int u1)] [(.int (trF cd u1 lm nn))] := s227.mono fun _ q => q.2
          have s230 : Sit p l e _ s m _ below meth c _ st n0 0 0 _ 145 #[.val (.int u0), .val (.int u1), .val (.int u2), .val (.int u3), .val (.int nn), .val (.int lm), .val (.int dl), .val (.int md), .val (.int cd), .val (.int u1)] [(.int u1), (.int (trF cd u1 lm nn))] := s229
            |>.iload at_143 rfl rfl
          have s231 : Sit p l e _ s m _ below meth c _ st n0 0 0 _ 153 #[.val (.int u0), .val (.int u1), .val (.int u2), .val (.int u3), .val (.int nn), .val (.int lm), .val (.int dl), .val (.int md), .val (.int cd), .val (.int u1)] [(.int (1 : Int32))] := s230
            |>.icmpN at_145 ((neF (Classical.not_not.mp (fun h => h (trF_out hc hl (by omega) (by omega)))))) rfl
            |>.iconst (1 : Int32) at_148 rfl rfl
            |>.goto at_149 (by decide) (by decide)
          exact s231.retZ at_153 hret hlk (fun hh q => rfl)
        · have s232 : Sit p l e _ s m _ below meth c _ st n0 0 0 _ 140 #[.val (.int u0), .val (.int u1), .val (.int u2), .val (.int u3), .val (.int nn), .val (.int lm), .val (.int dl), .val (.int md), .val (.int cd), .val (.int cd)] [(.int nn), (.int lm), (.int u1), (.int cd)] := s224
            |>.icmpN at_120 (cmpF (cd := .ge) c225) rfl
            |>.iload at_123 rfl rfl
            |>.istore #[.val (.int u0), .val (.int u1), .val (.int u2), .val (.int u3), .val (.int nn), .val (.int lm), .val (.int dl), .val (.int md), .val (.int cd), .val (.int cd)] at_125 rfl rfl
            |>.goto at_127 (by decide) (by decide)
            |>.iload at_133 rfl rfl
            |>.iloadN at_135 rfl rfl
            |>.iload at_136 rfl rfl
            |>.iload at_138 rfl rfl
          obtain ⟨r234, s233⟩ := Sit.callS (y := (⟨"com/example/o1bucket/o1bucket/range/BucketCounts", "topRangeOr", "(IIII)I"⟩ : MethodName)) (W := 0) (Q := fun v hh => (v = some (.int (trF cd u1 lm nn))) ∧ (fun hh => hh = h0) hh) [(.int cd), (.int u1), (.int lm), (.int nn)] [] s232 hZ hown (wi hw 15 rfl) (wi hw 16 rfl) (wi hw 7 rfl) (wi hw 17 rfl) (by decide) (fun h1 hP hn => (rmTop l Z a0 hw [] cd u1 lm nn h1 n0 hn).mono fun v hh q => ⟨q.1, q.2 ▸ hP⟩) hml rfl (lenOf pd_2 rfl) at_140 (Nat.le_of_eq rfl) (by decide) (by decide) (by decide) (by decide) (pc' := 143) rfl
          obtain ⟨_, er234, _⟩ := s233.facts
          subst er234
          have s235 : Sit p l e _ s m _ below meth c _ st n0 0 0 (fun hh => hh = h0) 143 #[.val (.int u0), .val (.int u1), .val (.int u2), .val (.int u3), .val (.int nn), .val (.int lm), .val (.int dl), .val (.int md), .val (.int cd), .val (.int cd)] [(.int (trF cd u1 lm nn))] := s233.mono fun _ q => q.2
          have s236 : Sit p l e _ s m _ below meth c _ st n0 0 0 _ 145 #[.val (.int u0), .val (.int u1), .val (.int u2), .val (.int u3), .val (.int nn), .val (.int lm), .val (.int dl), .val (.int md), .val (.int cd), .val (.int cd)] [(.int cd), (.int (trF cd u1 lm nn))] := s235
            |>.iload at_143 rfl rfl
          have s237 : Sit p l e _ s m _ below meth c _ st n0 0 0 _ 153 #[.val (.int u0), .val (.int u1), .val (.int u2), .val (.int u3), .val (.int nn), .val (.int lm), .val (.int dl), .val (.int md), .val (.int cd), .val (.int cd)] [(.int (1 : Int32))] := s236
            |>.icmpN at_145 ((neF (Classical.not_not.mp (fun h => h (trF_in hc hl (by omega) (by omega) (by omega)))))) rfl
            |>.iconst (1 : Int32) at_148 rfl rfl
            |>.goto at_149 (by decide) (by decide)
          exact s237.retZ at_153 hret hlk (fun hh q => rfl)
set_option maxRecDepth 65536 in
set_option maxHeartbeats 40000000 in
theorem comes_1 {Post : Tables → Env → Array Value → State → Outcome → State → Prop} (hpost : ∀ tb e args s v u, (limb_1_1.after args s (.returned v) u = true ∧ limb_1_2.after args s (.returned v) u = true ∧ True) → FrameEnd s (.returned v) u (Jvm.fieldLocs frame_1_writes args s ++ Jvm.arrayLocs frame_1_arrays args s ++ Jvm.staticLocs frame_1_statics s) 0 0 → Post tb e args s (.returned v) u) :
    ArmFor flags0 classFile x code maxLocals ret World_1 tables_1 room_1 Calls_1 rest_1 Pre_1 Post := by
  intro l hfl _ _ p e ha hc hk s m args below hf hA hF happ hP
  obtain ⟨hcalls, hrest, hpre⟩ := hP
  obtain ⟨-, -, -, hnamed, -, -, -, hat⟩ := (Spec.applies_iff hf).mp happ
  obtain ⟨hg, hn⟩ := and_e (Cond.before_iff.mp (show (Jvm.Cond.and given_1 narrow_1).before args s = true from hpre))
  obtain ⟨g0, q0⟩ := and_e hg
  obtain ⟨g1, q1⟩ := and_e q0
  obtain ⟨g2, q2⟩ := and_e q1
  obtain ⟨g3, q3⟩ := and_e q2
  obtain ⟨w0, w1, w2, w3, rfl⟩ : ∃ w0 w1 w2 w3 : Value, args = #[w0, w1, w2, w3] := by
    have hs : args.size = 4 := by simpa [Cond.value, given_1] using g0
    obtain ⟨L⟩ := args
    match L, hs with
    | [w0, w1, w2, w3], _ => exact ⟨w0, w1, w2, w3, rfl⟩
  have hw := fun d (hd : d ∈ tables_1) => atoms_spec (ws := Jvm.Cond.code x code maxLocals ret :: tables_1) hat d (List.mem_cons_of_mem _ hd)
  obtain ⟨i0, ei0⟩ := is_v g1
  obtain rfl : w0 = (.int i0) := Option.some.inj ei0
  obtain ⟨i1, ei1⟩ := is_v g2
  obtain rfl : w1 = (.int i1) := Option.some.inj ei1
  obtain ⟨i2, ei2⟩ := is_v g3
  obtain rfl : w2 = (.int i2) := Option.some.inj ei2
  obtain ⟨i3, ei3⟩ := is_v q3
  obtain rfl : w3 = (.int i3) := Option.some.inj ei3
  obtain ⟨n, o, h1, h2, h3, _, L, rfl, ⟨N, rfl⟩, hq⟩ := rm0 l s _ hw tables_1 i0 i1 i2 i3 s.heap s.heap.size (Nat.le_refl _) p e ha hc hk s m _ below hf ((Spec.applies_iff_loose hf).mp happ).1 ⟨rfl, State.Warmed39.refl s, rfl⟩ trivial
  refine ⟨n, _, h1, h2, h3, hpost _ _ _ _ _ _ ⟨Cond.after_iff.mpr rfl, Cond.after_iff.mpr (eq_i res_at (Term.int_eval (1)) rfl), trivial⟩ ⟨hq.1, hq.2.1, (hq.2.2.sift fun y hy => Or.inr (N y hy)).mono (by decide) (by decide)⟩⟩
theorem main_1_1 : Claimed_1_1 := comes_1 fun _ _ _ _ _ _ h hF => ⟨h.1, hF⟩
theorem main_1_2 : Claimed_1_2 := comes_1 fun _ _ _ _ _ _ h hF => ⟨h.2.1, hF⟩
end Jvm.Pilot.@@N@@
namespace Jvm.Pilot.@@N@@
open Jvm Jvm.ClassFile Sem Op Lib Jvm.Free Jvm.Stand Jvm.Pilot.@@N@@.Jvm.D
/-! MADE BY PROGRAM (witnessworld.py) out of the Statement's table words and the real class files: 15 classes; the members and pool entries that the words name. The judged class is class 1, her method 1. -/
namespace start1
open Jvm.ClassFile
def u (s : String) : CpInfo := .utf8 (stringToUtf16 s)
/-- a pool by its gaps: so many unusable entries, then the entry; so many at the end -/
def gap : Nat → List CpInfo → List CpInfo
  | 0, r => r
  | n + 1, r => .unusable :: gap n r
def poolList (es : List (Nat × CpInfo)) (last : Nat) : List CpInfo := es.foldr (fun e r => gap e.1 (e.2 :: r)) (gap last [])
def pool (es : List (Nat × CpInfo)) (last : Nat) : Array CpInfo := ⟨poolList es last⟩
def fileOf (pool : Array CpInfo) (this : Nat) (attrs : Array Attribute := #[]) (ms : Array MethodInfo := #[]) (fl : Nat := 33) (sup : Nat := 0) (ifs : Array Nat := #[]) (fds : Array FieldInfo := #[]) : ClassFile where
  minorVersion := 0
  majorVersion := 65
  constantPool := pool
  accessFlags := fl
  thisClass := this
  superClass := sup
  interfaces := ifs
  fields := fds
  methods := ms
  attributes := attrs
def plain (name : String) (sup : Option ClassId) : Class where
  name := name
  kind := .ordinary
  loader := none
  accessFlags := 33
  super := sup
  interfaces := #[]
  cf := none
  fields := #[]
  methods := #[]
  instanceTypes := #[]
  staticTypes := #[]
  resolved := #[]
  callSites := []
  init := .initialized
  statics := none
  mirror := none

def pool0 : Array CpInfo := pool [(5, u "<init>"), (0, u "()V"), (1, .class_ 10), (1, u "java/lang/Object")] 113

def k0m0 : Method := { name := "<init>", desc := "()V", sig := { parameters := [], returnType := none }, accessFlags := 1, code := none }
/-- java/lang/Object -/
def k0 : Class := { plain "java/lang/Object" none with
  accessFlags := 33
  interfaces := #[]
  cf := some (fileOf pool0 8 #[] #[{ accessFlags := 1, nameIndex := 5, descriptorIndex := 6, attributes := #[] }] 33 0 #[] #[])
  fields := #[]
  methods := #[k0m0]
  instanceTypes := #[]
  staticTypes := #[]
  resolved := Array.replicate 124 none
  statics := none }

def pool1 : Array CpInfo := pool [(2, .class_ 4), (1, u "java/lang/Object"), (0, u "<init>"), (0, u "()V"), (0, .integer 2147483647), (0, .methodref 9 10), (0, .class_ 11), (0, .nameAndType 12 13), (0, u "java/lang/Math"), (0, u "max"), (0, u "(II)I"), (0, .methodref 15 16), (0, .class_ 17), (0, .nameAndType 18 19), (0, u "com/example/o1bucket/o1bucket/range/BucketCounts"), (0, u "powerOfTwoMask"), (0, u "(I)I"), (0, .methodref 15 21), (0, .nameAndType 22 23), (0, u "topRangeOr"), (0, u "(IIII)I"), (0, .class_ 25), (0, u "com/example/o1bucket/o1bucket/range/BucketCountsTopRangeOrPinLaw"), (2, u "law"), (0, u "(IIII)Z")] 3

def k1m0 : Method := { name := "<init>", desc := "()V", sig := { parameters := [], returnType := none }, accessFlags := 2, code := none }
def k1c1 : Code := { maxStack := 4, maxLocals := 10, code := code, exceptionTable := #[], attributes := #[] }
def k1m1 : Method := { name := "law", desc := "(IIII)Z", sig := { parameters := [.int, .int, .int, .int], returnType := some .boolean }, accessFlags := 9, code := some k1c1 }
/-- com/example/o1bucket/o1bucket/range/BucketCountsTopRangeOrPinLaw -/
def k1 : Class := { plain "com/example/o1bucket/o1bucket/range/BucketCountsTopRangeOrPinLaw" (some 0) with
  accessFlags := 49
  interfaces := #[]
  cf := some (fileOf pool1 24 #[] #[{ accessFlags := 2, nameIndex := 5, descriptorIndex := 6, attributes := #[] }, { accessFlags := 9, nameIndex := 28, descriptorIndex := 29, attributes := #[] }] 49 2 #[] #[])
  fields := #[]
  methods := #[k1m0, k1m1]
  instanceTypes := #[]
  staticTypes := #[]
  resolved := Array.replicate 33 none
  statics := none }

def pool2 : Array CpInfo := pool [(1, .class_ 2), (0, u "java/lang/Math"), (1, .class_ 6), (1, u "java/lang/Object"), (0, u "<init>"), (0, u "()V"), (89, .class_ 100), (1, u "java/lang/Math$RandomNumberGeneratorHolder"), (71, u "negativeZeroFloatBits"), (0, u "J"), (2, u "negativeZeroDoubleBits"), (21, u "max"), (46, u "$assertionsDisabled"), (0, u "Z"), (88, u "(II)I"), (2, u "twoToTheDoubleScaleDown"), (0, u "D"), (4, u "twoToTheDoubleScaleUp"), (9, u "E"), (3, u "PI"), (2, u "TAU"), (2, u "DEGREES_TO_RADIANS"), (0, u "RADIANS_TO_DEGREES")] 94

def k2m0 : Method := { name := "<init>", desc := "()V", sig := { parameters := [], returnType := none }, accessFlags := 2, code := none }
def k2c1 : Code := { maxStack := 2, maxLocals := 2, code := jdk_29_method_65_code, exceptionTable := #[], attributes := #[] }
def k2m1 : Method := { name := "max", desc := "(II)I", sig := { parameters := [.int, .int], returnType := some .int }, accessFlags := 9, code := some k2c1 }
/-- java/lang/Math -/
def k2 : Class := { plain "java/lang/Math" (some 0) with
  accessFlags := 49
  interfaces := #[]
  cf := some (fileOf pool2 1 #[.nestMembers #[98]] #[{ accessFlags := 2, nameIndex := 7, descriptorIndex := 8, attributes := #[] }, { accessFlags := 9, nameIndex := 198, descriptorIndex := 335, attributes := #[] }] 49 4 #[] #[{ accessFlags := 25, nameIndex := 354, descriptorIndex := 339, attributes := #[] }, { accessFlags := 25, nameIndex := 358, descriptorIndex := 339, attributes := #[] }, { accessFlags := 25, nameIndex := 361, descriptorIndex := 339, attributes := #[] }, { accessFlags := 26, nameIndex := 364, descriptorIndex := 339, attributes := #[] }, { accessFlags := 26, nameIndex := 365, descriptorIndex := 339, attributes := #[] }, { accessFlags := 26, nameIndex := 172, descriptorIndex := 173, attributes := #[] }, { accessFlags := 26, nameIndex := 176, descriptorIndex := 173, attributes := #[] }, { accessFlags := 8, nameIndex := 344, descriptorIndex := 339, attributes := #[] }, { accessFlags := 8, nameIndex := 338, descriptorIndex := 339, attributes := #[] }, { accessFlags := 4120, nameIndex := 245, descriptorIndex := 246, attributes := #[] }])
  fields := #[{ name := "E", type := .double, accessFlags := 25, slot := 0, constantValue := 0 }, { name := "PI", type := .double, accessFlags := 25, slot := 1, constantValue := 0 }, { name := "TAU", type := .double, accessFlags := 25, slot := 2, constantValue := 0 }, { name := "DEGREES_TO_RADIANS", type := .double, accessFlags := 26, slot := 3, constantValue := 0 }, { name := "RADIANS_TO_DEGREES", type := .double, accessFlags := 26, slot := 4, constantValue := 0 }, { name := "negativeZeroFloatBits", type := .long, accessFlags := 26, slot := 5, constantValue := 0 }, { name := "negativeZeroDoubleBits", type := .long, accessFlags := 26, slot := 6, constantValue := 0 }, { name := "twoToTheDoubleScaleUp", type := .double, accessFlags := 8, slot := 7, constantValue := 0 }, { name := "twoToTheDoubleScaleDown", type := .double, accessFlags := 8, slot := 8, constantValue := 0 }, { name := "$assertionsDisabled", type := .boolean, accessFlags := 4120, slot := 9, constantValue := 0 }]
  methods := #[k2m0, k2m1]
  instanceTypes := #[]
  staticTypes := #[.double, .double, .double, .double, .double, .long, .long, .double, .double, .boolean]
  resolved := Array.replicate 460 none
  statics := none }

def pool3 : Array CpInfo := pool [(2, .class_ 4), (1, u "java/lang/Object"), (0, u "<init>"), (0, u "()V"), (9, .long 4294967295), (1, .methodref 19 20), (0, .class_ 21), (0, .nameAndType 22 23), (0, u "java/lang/Integer"), (0, u "numberOfLeadingZeros"), (0, u "(I)I"), (2, .class_ 27), (0, u "com/example/o1bucket/o1bucket/range/BucketCounts"), (5, u "powerOfTwoMask"), (5, u "topRangeOr"), (0, u "(IIII)I")] 17

def k3m0 : Method := { name := "<init>", desc := "()V", sig := { parameters := [], returnType := none }, accessFlags := 2, code := none }
def k3c1 : Code := { maxStack := 4, maxLocals := 1, code := prog_6_method_3_code, exceptionTable := #[], attributes := #[] }
def k3m1 : Method := { name := "powerOfTwoMask", desc := "(I)I", sig := { parameters := [.int], returnType := some .int }, accessFlags := 8, code := some k3c1 }
def k3c2 : Code := { maxStack := 3, maxLocals := 5, code := prog_6_method_7_code, exceptionTable := #[], attributes := #[] }
def k3m2 : Method := { name := "topRangeOr", desc := "(IIII)I", sig := { parameters := [.int, .int, .int, .int], returnType := some .int }, accessFlags := 8, code := some k3c2 }
/-- com/example/o1bucket/o1bucket/range/BucketCounts -/
def k3 : Class := { plain "com/example/o1bucket/o1bucket/range/BucketCounts" (some 0) with
  accessFlags := 48
  interfaces := #[]
  cf := some (fileOf pool3 26 #[] #[{ accessFlags := 2, nameIndex := 5, descriptorIndex := 6, attributes := #[] }, { accessFlags := 8, nameIndex := 33, descriptorIndex := 23, attributes := #[] }, { accessFlags := 8, nameIndex := 39, descriptorIndex := 40, attributes := #[] }] 48 2 #[] #[])
  fields := #[]
  methods := #[k3m0, k3m1, k3m2]
  instanceTypes := #[]
  staticTypes := #[]
  resolved := Array.replicate 58 none
  statics := none }

def pool4 : Array CpInfo := pool [(1, .class_ 2), (0, u "java/io/Serializable"), (0, .class_ 4), (0, u "java/lang/Object")] 2

/-- java/io/Serializable -/
def k4 : Class := { plain "java/io/Serializable" (some 0) with
  accessFlags := 1537
  interfaces := #[]
  cf := some (fileOf pool4 1 #[] #[] 1537 3 #[] #[])
  fields := #[]
  methods := #[]
  instanceTypes := #[]
  staticTypes := #[]
  resolved := Array.replicate 7 none
  statics := none }

def pool5 : Array CpInfo := pool [(2, .class_ 4), (1, u "java/lang/Object"), (0, u "<init>"), (0, u "()V"), (1, .class_ 10), (1, u "java/lang/Number"), (2, .class_ 14), (0, u "java/io/Serializable"), (0, u "serialVersionUID"), (0, u "J")] 20

def k5m0 : Method := { name := "<init>", desc := "()V", sig := { parameters := [], returnType := none }, accessFlags := 1, code := none }
/-- java/lang/Number -/
def k5 : Class := { plain "java/lang/Number" (some 0) with
  accessFlags := 1057
  interfaces := #[4]
  cf := some (fileOf pool5 8 #[] #[{ accessFlags := 1, nameIndex := 5, descriptorIndex := 6, attributes := #[] }] 1057 2 #[13] #[{ accessFlags := 26, nameIndex := 15, descriptorIndex := 16, attributes := #[] }])
  fields := #[{ name := "serialVersionUID", type := .long, accessFlags := 26, slot := 0, constantValue := 0 }]
  methods := #[k5m0]
  instanceTypes := #[]
  staticTypes := #[.long]
  resolved := Array.replicate 37 none
  statics := none }

def pool6 : Array CpInfo := pool [(1, .class_ 2), (0, u "java/lang/Comparable"), (0, .class_ 4), (0, u "java/lang/Object")] 7

/-- java/lang/Comparable -/
def k6 : Class := { plain "java/lang/Comparable" (some 0) with
  accessFlags := 1537
  interfaces := #[]
  cf := some (fileOf pool6 1 #[] #[] 1537 3 #[] #[])
  fields := #[]
  methods := #[]
  instanceTypes := #[]
  staticTypes := #[]
  resolved := Array.replicate 12 none
  statics := none }

def pool7 : Array CpInfo := pool [(1, .class_ 2), (0, u "java/lang/constant/Constable"), (0, .class_ 4), (0, u "java/lang/Object")] 6

/-- java/lang/constant/Constable -/
def k7 : Class := { plain "java/lang/constant/Constable" (some 0) with
  accessFlags := 1537
  interfaces := #[]
  cf := some (fileOf pool7 1 #[] #[] 1537 3 #[] #[])
  fields := #[]
  methods := #[]
  instanceTypes := #[]
  staticTypes := #[]
  resolved := Array.replicate 11 none
  statics := none }

def pool8 : Array CpInfo := pool [(1, .class_ 2), (0, u "java/lang/constant/ConstantDesc"), (0, .class_ 4), (0, u "java/lang/Object")] 32

/-- java/lang/constant/ConstantDesc -/
def k8 : Class := { plain "java/lang/constant/ConstantDesc" (some 0) with
  accessFlags := 1537
  interfaces := #[]
  cf := some (fileOf pool8 1 #[] #[] 1537 3 #[] #[])
  fields := #[]
  methods := #[]
  instanceTypes := #[]
  staticTypes := #[]
  resolved := Array.replicate 37 none
  statics := none }

def pool9 : Array CpInfo := pool [(1, .class_ 2), (0, u "java/lang/Integer"), (16, u "digits"), (0, u "[C"), (32, u "numberOfLeadingZeros"), (0, u "(I)I"), (30, u "DigitOnes"), (0, u "[B"), (2, u "DigitTens"), (99, .class_ 190), (0, u "java/lang/Integer$IntegerCache"), (3, u "I"), (8, .class_ 204), (0, u "java/lang/Number"), (2, u "value"), (56, .integer 65536), (37, u "TYPE"), (0, u "Ljava/lang/Class;"), (0, .class_ 305), (0, u "java/lang/Comparable"), (0, .class_ 307), (0, u "java/lang/constant/Constable"), (0, .class_ 309), (0, u "java/lang/constant/ConstantDesc"), (0, u "MIN_VALUE"), (1, u "MAX_VALUE"), (3, u "SIZE"), (1, u "BYTES"), (1, u "serialVersionUID"), (0, u "J")] 131

def k9c0 : Code := { maxStack := 3, maxLocals := 2, code := jdk_33_method_47_code, exceptionTable := #[], attributes := #[] }
def k9m0 : Method := { name := "numberOfLeadingZeros", desc := "(I)I", sig := { parameters := [.int], returnType := some .int }, accessFlags := 9, code := some k9c0 }
/-- java/lang/Integer -/
def k9 : Class := { plain "java/lang/Integer" (some 5) with
  accessFlags := 49
  interfaces := #[6, 7, 8]
  cf := some (fileOf pool9 1 #[.nestMembers #[189]] #[{ accessFlags := 9, nameIndex := 53, descriptorIndex := 54, attributes := #[] }] 49 203 #[304, 306, 308] #[{ accessFlags := 25, nameIndex := 310, descriptorIndex := 194, attributes := #[] }, { accessFlags := 25, nameIndex := 312, descriptorIndex := 194, attributes := #[] }, { accessFlags := 25, nameIndex := 302, descriptorIndex := 303, attributes := #[] }, { accessFlags := 24, nameIndex := 19, descriptorIndex := 20, attributes := #[] }, { accessFlags := 24, nameIndex := 89, descriptorIndex := 86, attributes := #[] }, { accessFlags := 24, nameIndex := 85, descriptorIndex := 86, attributes := #[] }, { accessFlags := 18, nameIndex := 207, descriptorIndex := 194, attributes := #[] }, { accessFlags := 25, nameIndex := 316, descriptorIndex := 194, attributes := #[] }, { accessFlags := 25, nameIndex := 318, descriptorIndex := 194, attributes := #[] }, { accessFlags := 26, nameIndex := 320, descriptorIndex := 321, attributes := #[] }])
  fields := #[{ name := "MIN_VALUE", type := .int, accessFlags := 25, slot := 0, constantValue := 0 }, { name := "MAX_VALUE", type := .int, accessFlags := 25, slot := 1, constantValue := 0 }, { name := "TYPE", type := (.object "java/lang/Class"), accessFlags := 25, slot := 2, constantValue := 0 }, { name := "digits", type := (.array .char), accessFlags := 24, slot := 3, constantValue := 0 }, { name := "DigitTens", type := (.array .byte), accessFlags := 24, slot := 4, constantValue := 0 }, { name := "DigitOnes", type := (.array .byte), accessFlags := 24, slot := 5, constantValue := 0 }, { name := "value", type := .int, accessFlags := 18, slot := 0, constantValue := 0 }, { name := "SIZE", type := .int, accessFlags := 25, slot := 6, constantValue := 0 }, { name := "BYTES", type := .int, accessFlags := 25, slot := 7, constantValue := 0 }, { name := "serialVersionUID", type := .long, accessFlags := 26, slot := 8, constantValue := 0 }]
  methods := #[k9m0]
  instanceTypes := #[.int]
  staticTypes := #[.int, .int, (.object "java/lang/Class"), (.array .char), (.array .byte), (.array .byte), .int, .int, .long]
  resolved := Array.replicate 453 none
  statics := none }

def pool10 : Array CpInfo := pool [(1, u "java/lang/Cloneable"), (0, .class_ 1), (0, u "java/lang/Object"), (0, .class_ 3)] 3

/-- java/lang/Cloneable -/
def k10 : Class := { plain "java/lang/Cloneable" (some 0) with
  accessFlags := 1537
  interfaces := #[]
  cf := some (fileOf pool10 2 #[] #[] 1537 4 #[] #[])
  fields := #[]
  methods := #[]
  instanceTypes := #[]
  staticTypes := #[]
  resolved := Array.replicate 8 none
  statics := none }

/-- the primitive byte -/
def k11 : Class := { plain "byte" none with kind := .primitive 'B', accessFlags := 0x411 }
/-- [B -/
def k12 : Class := { plain "[B" (some 0) with kind := .array 11 .byte, interfaces := #[10, 4], accessFlags := 1041 }

/-- the primitive int -/
def k13 : Class := { plain "int" none with kind := .primitive 'I', accessFlags := 0x411 }
/-- [I -/
def k14 : Class := { plain "[I" (some 0) with kind := .array 13 .int, interfaces := #[10, 4], accessFlags := 1041 }

def heap : Heap := #[]
def classes : Array Class := #[k0, k1, k2, k3, k4, k5, k6, k7, k8, k9, k10, k11, k12, k13, k14]
def interned : List (Array UInt16 × Addr) := []
def slotsUsed : Nat := 0
def theMethod : MethodId := ⟨1, 1⟩
def args0 : Array Value := #[.int 5, .int 7, .int 2, .int 9]
def aboutOver (below : List Frame) : State where
  vm := { classes := classes, interned := interned.toArray }
  heap := heap
  slotsUsed := slotsUsed
  threads := #[{ frames := .invoking theMethod args0 :: below }]
def below0 : List Frame := [.native { method := ⟨0, 0⟩, args := #[] }]
def about1 : State := aboutOver below0
def p0 : Program := .bare "" "" ""
def e0 : Env := launch0.env 0 0 0
theorem w_frames : about1.frames = Frame.invoking theMethod args0 :: below0 := rfl
set_option maxRecDepth 65536 in
theorem w_args : argsFit about1.vm theMethod args0 = true := by decide +kernel
set_option maxRecDepth 65536 in
theorem w_heap : heapFits about1 = true := by decide +kernel
set_option maxRecDepth 65536 in
theorem w_runnable : about1.curStatus? = some .runnable := by decide +kernel
set_option maxRecDepth 65536 in
theorem w_alone : about1.alone = true := by decide +kernel
set_option maxRecDepth 65536 in
theorem w_named : about1.methodNamed? x = some theMethod := by decide +kernel
set_option maxRecDepth 65536 in
theorem w_hears : about1.hears theMethod below0 = true := by decide +kernel
set_option maxRecDepth 65536 in
theorem w_ripe : about1.ripe theMethod args0 below0 = true := by decide +kernel
theorem w_running : about1.status = .running := rfl
set_option maxRecDepth 65536 in
theorem w_room : about1.hasRoom e0.platform room_1 = true :=
  launch0.hasRoom_least _ room_1 (by decide +kernel) (by decide +kernel) (by decide +kernel) (by decide +kernel) (by decide +kernel) (by decide +kernel)
theorem allAtoms_all (ts : List Jvm.Cond) (a : Array Jvm.Value) (st : Jvm.State) : (allAtoms ts).before a st = ts.all (fun c => c.before a st) := by
  induction ts with
  | nil => rfl
  | cons c t ih =>
    show (Jvm.Cond.and c (allAtoms t)).before a st = _
    rw [Jvm.Cond.before_and, ih, List.all_cons]
def words1 : List Jvm.Cond := Jvm.Cond.code x code maxLocals ret :: tables_1
/-- a 'code' word, met by the world's own term for the bytes: nothing is compared byte by byte -/
theorem code_word {y : MethodName} {bytes : ByteArray} {mx : Nat} {rt : Option FieldType} {a : Array Value} {s : State} {m : MethodId} {meth : Method} {c : Code} (h1 : s.methodNamed? y = some m) (h2 : s.vm.method? m = some meth) (h3 : meth.code = some c) (h4 : c.code = bytes)
    (h5 : (c.maxLocals == mx && c.exceptionTable.isEmpty && decide (c.maxStack ≤ mostOperands) && decide (meth.sig.returnType = rt) && !meth.locks && decide (parseMethodDescriptor y.desc = some meth.sig)) = true) : (Jvm.Cond.code y bytes mx rt).before a s = true := by
  simp only [Bool.and_eq_true, beq_iff_eq, Bool.not_eq_true', decide_eq_true_eq] at h5
  obtain ⟨⟨⟨⟨⟨g1, g2⟩, g3⟩, g4⟩, g5⟩, g6⟩ := h5
  simp [Cond.before, Cond.holds, Cond.value, h1, h2, h3, h4, g1, g2, g3, g4, g5, g6]
def isCode : Jvm.Cond → Bool
  | .code _ _ _ _ => true
  | _ => false
theorem all_split {L : List Jvm.Cond} {P : Jvm.Cond → Bool} (h1 : L.all (fun c => isCode c || P c) = true) (h2 : ∀ c ∈ L.filter isCode, P c = true) : L.all P = true := by
  refine List.all_eq_true.mpr fun c hc => ?_
  have h := List.all_eq_true.mp h1 c hc
  rcases Bool.eq_false_or_eq_true (isCode c) with hi | hi
  · exact h2 c (List.mem_filter.mpr ⟨hc, hi⟩)
  · simpa [hi] using h
set_option maxRecDepth 65536 in
theorem w_c0 : (Jvm.Cond.code x code maxLocals ret).before args0 about1 = true := code_word (m := ⟨1, 1⟩) (meth := k1m1) (c := k1c1) (by decide +kernel) rfl rfl rfl (by decide +kernel)
set_option maxRecDepth 65536 in
theorem w_c1 : (Jvm.Cond.code ({ cls := "java/lang/Math", name := "max", desc := "(II)I" } : Jvm.MethodName) jdk_29_method_65_code (2 : Nat) (Option.some Jvm.ClassFile.FieldType.int)).before args0 about1 = true := code_word (m := ⟨2, 1⟩) (meth := k2m1) (c := k2c1) (by decide +kernel) rfl rfl rfl (by decide +kernel)
set_option maxRecDepth 65536 in
theorem w_c2 : (Jvm.Cond.code ({ cls := "com/example/o1bucket/o1bucket/range/BucketCounts", name := "powerOfTwoMask", desc := "(I)I" } : Jvm.MethodName) prog_6_method_3_code (1 : Nat) (Option.some Jvm.ClassFile.FieldType.int)).before args0 about1 = true := code_word (m := ⟨3, 1⟩) (meth := k3m1) (c := k3c1) (by decide +kernel) rfl rfl rfl (by decide +kernel)
set_option maxRecDepth 65536 in
theorem w_c3 : (Jvm.Cond.code ({ cls := "java/lang/Integer", name := "numberOfLeadingZeros", desc := "(I)I" } : Jvm.MethodName) jdk_33_method_47_code (2 : Nat) (Option.some Jvm.ClassFile.FieldType.int)).before args0 about1 = true := code_word (m := ⟨9, 0⟩) (meth := k9m0) (c := k9c0) (by decide +kernel) rfl rfl rfl (by decide +kernel)
set_option maxRecDepth 65536 in
theorem w_c4 : (Jvm.Cond.code ({ cls := "com/example/o1bucket/o1bucket/range/BucketCounts", name := "topRangeOr", desc := "(IIII)I" } : Jvm.MethodName) prog_6_method_7_code (5 : Nat) (Option.some Jvm.ClassFile.FieldType.int)).before args0 about1 = true := code_word (m := ⟨3, 2⟩) (meth := k3m2) (c := k3c2) (by decide +kernel) rfl rfl rfl (by decide +kernel)
def codes1 : List Jvm.Cond := [Jvm.Cond.code x code maxLocals ret, Jvm.Cond.code ({ cls := "java/lang/Math", name := "max", desc := "(II)I" } : Jvm.MethodName) jdk_29_method_65_code (2 : Nat) (Option.some Jvm.ClassFile.FieldType.int), Jvm.Cond.code ({ cls := "com/example/o1bucket/o1bucket/range/BucketCounts", name := "powerOfTwoMask", desc := "(I)I" } : Jvm.MethodName) prog_6_method_3_code (1 : Nat) (Option.some Jvm.ClassFile.FieldType.int), Jvm.Cond.code ({ cls := "java/lang/Integer", name := "numberOfLeadingZeros", desc := "(I)I" } : Jvm.MethodName) jdk_33_method_47_code (2 : Nat) (Option.some Jvm.ClassFile.FieldType.int), Jvm.Cond.code ({ cls := "com/example/o1bucket/o1bucket/range/BucketCounts", name := "topRangeOr", desc := "(IIII)I" } : Jvm.MethodName) prog_6_method_7_code (5 : Nat) (Option.some Jvm.ClassFile.FieldType.int)]
set_option maxRecDepth 65536 in
theorem codes_eq : words1.filter isCode = codes1 := rfl
theorem w_codes : ∀ c ∈ words1.filter isCode, c.before args0 about1 = true := by
  rw [codes_eq]
  intro c hc
  simp only [codes1, List.mem_cons, List.not_mem_nil, or_false] at hc
  rcases hc with rfl | rfl | rfl | rfl | rfl
  · exact w_c0
  · exact w_c1
  · exact w_c2
  · exact w_c3
  · exact w_c4
set_option maxRecDepth 65536 in
theorem w_t1 : words1.all (fun c => isCode c || c.before args0 about1) = true := by decide +kernel
theorem w_tables : (allAtoms (Jvm.Cond.code x code maxLocals ret :: tables_1)).before args0 about1 = true := by
  rw [allAtoms_all]
  show words1.all (fun c => c.before args0 about1) = true
  refine all_split ?_ w_codes
  rw [w_t1]
set_option maxRecDepth 65536 in
theorem w_case : (Jvm.Cond.and given_1 narrow_1).before args0 about1 = true := by decide +kernel
theorem w_applies : (headSpec (Jvm.Cond.code x code maxLocals ret :: tables_1) room_1).applies x e0.platform about1 = true :=
  (Spec.applies_iff w_frames).mpr ⟨w_running, w_runnable, w_alone, w_named, w_hears, w_ripe, w_room, w_tables⟩
theorem atStart : AtStart classFile x code maxLocals ret World_1 tables_1 room_1 Calls_1 rest_1 Pre_1 launch0 p0 e0 about1 theMethod args0 below0 :=
  ⟨lists_1, trivial, launch0.admits_env _ _ _, launch0.least_env, fairChoices_fair.cas, fairChoices_fair.clock, w_frames, w_args, w_heap, w_applies, trivial, trivial, w_case⟩
end start1
theorem witness_1 : WitnessClaimed_1 := ⟨start1.p0, start1.e0, start1.about1, start1.theMethod, start1.args0, start1.below0, start1.atStart⟩
end Jvm.Pilot.@@N@@
