import JvmDerived
import JvmDerived.Pilot.@@N@@Statement
import JvmDerived.Pilot.@@N@@Code
set_option linter.unusedVariables false
set_option linter.unusedSimpArgs false
namespace Jvm.RoadKit
open Sem ClassFile Op Lib Jvm.Stand Jvm.Free Jvm.LawKit
section New
variable {p : Program} {l : Launch} {e : Env} {R : Room} {s : State} {m : MethodId} {args : Array Value} {below : List Frame} {meth : Method} {c : Code} {T : State} {locs : List Loc} {cells slots : Nat}
theorem retI (X : Stand p l e R s m args below meth c T locs cells slots) (hx : p.tables.exec = Jvm.exec) {pc : Nat} {Ls : Array Slot} {z : Int32} {rest : List Value} (hret : meth.sig.returnType = some .int) (hd : decode c.code pc = .ok (.ireturn, 1)) {fs : List Frame}
    (hl : ∀ (f : JFrame) (acts : List Action), f.method = m → f.locked = none → f.entered = [] → (doReturn e (T.setTop f) acts (some (.int z))).1 = T.setFrames fs) : Steps p.tables e below (T.setTop (mkF m pc Ls (.int z :: rest))) (T.setFrames fs) := by
  have hm' : T.vm.method? m = some meth := X.method'
  have hn : narrow .int (.int z) = .int z := rfl
  show Steps p.tables e below (T.setTop { method := m, pc := pc, locals := Ls, stack := _ :: rest, locked := none }) _
  jvm_step X.here [X.here.top, hx, hd, hm', hret, hn]
  first | (intro acts; rw [hl _ acts rfl rfl rfl]) | rw [hl _ _ rfl rfl rfl]
  exact Steps.refl _
end New
end Jvm.RoadKit
namespace Jvm.Pilot.@@N@@
open Jvm Jvm.ClassFile Sem Op Lib Jvm.Free Jvm.Stand Jvm.LawKit Jvm.RoadKit Bundle Jvm.Pilot.@@N@@.Jvm.D

theorem wi {Z : State} {a0 : Array Value} (hw : ∀ d ∈ tables_1, d.before a0 Z = true) (i : Nat) {d : Jvm.Cond} (h : tables_1[i]? = some d) : d.before a0 Z = true := hw d (List.mem_of_getElem? h)
section OwnKit
variable {p : Program} {l : Launch} {e : Env} {R : Room} {s : State} {m : MethodId} {args : Array Value} {below : List Frame} {meth : Method} {c : Code} {bs : ByteArray} {st : State} {n0 cells slots : Nat} {P P' : Heap → Prop} {pc pc' : Nat} {L L' : Array Slot} {S S' : List Value} {Z : State} {a0 : Array Value} {own : String}
/-- where a walk stands: some state T reached from st, with what is known of its heap -/
def Sit (p : Program) (l : Launch) (e : Env) (R : Room) (s : State) (m : MethodId) (args : Array Value) (below : List Frame) (meth : Method) (c : Code) (bs : ByteArray) (st : State) (n0 cells slots : Nat) (P : Heap → Prop) (pc : Nat) (L : Array Slot) (S : List Value) : Prop :=
  ∃ (T : State) (locs : List Loc) (k n : Nat), Stand p l e R s m args below meth c T locs k n ∧ k ≤ cells ∧ n ≤ slots ∧ Fr n0 locs ∧ n0 ≤ s.heap.size ∧ P T.heap ∧ p.tables.exec = Jvm.exec ∧ c.code = bs ∧ ∀ t, Steps p.tables e below (T.setTop (mkF m pc L S)) t → Steps p.tables e below st t
theorem Sit.go (h : Sit p l e R s m args below meth c bs st n0 cells slots P pc L S)
    (f : ∀ T locs k n, Stand p l e R s m args below meth c T locs k n → p.tables.exec = Jvm.exec → c.code = bs → P T.heap → ∀ t, Steps p.tables e below (T.setTop (mkF m pc' L' S')) t → Steps p.tables e below (T.setTop (mkF m pc L S)) t) :
    Sit p l e R s m args below meth c bs st n0 cells slots P pc' L' S' := by
  obtain ⟨T, locs, k, n, X, q1, q2, q3, q4, q5, hx, hby, q⟩ := h
  exact ⟨T, locs, k, n, X, q1, q2, q3, q4, q5, hx, hby, fun t z => q t (f T locs k n X hx hby q5 t z)⟩
theorem Sit.mono (h : Sit p l e R s m args below meth c bs st n0 cells slots P pc L S) (f : ∀ hh, P hh → P' hh) : Sit p l e R s m args below meth c bs st n0 cells slots P' pc L S := by
  obtain ⟨T, locs, k, n, X, q1, q2, q3, q4, q5, r⟩ := h
  exact ⟨T, locs, k, n, X, q1, q2, q3, q4, f _ q5, r⟩
theorem Sit.bound {cells' slots' : Nat} (h : Sit p l e R s m args below meth c bs st n0 cells slots P pc L S) (h1 : cells ≤ cells') (h2 : slots ≤ slots') : Sit p l e R s m args below meth c bs st n0 cells' slots' P pc L S := by
  obtain ⟨T, locs, k, n, X, q1, q2, r⟩ := h
  exact ⟨T, locs, k, n, X, Nat.le_trans q1 h1, Nat.le_trans q2 h2, r⟩
theorem Sit.facts (h : Sit p l e R s m args below meth c bs st n0 cells slots P pc L S) : ∃ hh, P hh := by
  obtain ⟨T, locs, k, n, X, q1, q2, q3, q4, q5, r⟩ := h
  exact ⟨_, q5⟩
theorem Sit.ex {α : Type} {Q : α → Heap → Prop} (h : Sit p l e R s m args below meth c bs st n0 cells slots (fun hh => ∃ x, Q x hh) pc L S) : ∃ x, Sit p l e R s m args below meth c bs st n0 cells slots (Q x) pc L S := by
  obtain ⟨T, locs, k, n, X, q1, q2, q3, q4, ⟨x, q5⟩, r⟩ := h
  exact ⟨x, T, locs, k, n, X, q1, q2, q3, q4, q5, r⟩
theorem Sit.size (h : Sit p l e R s m args below meth c bs st n0 cells slots P pc L S) : Sit p l e R s m args below meth c bs st n0 cells slots (fun hh => P hh ∧ n0 ≤ hh.size) pc L S := by
  obtain ⟨T, locs, k, n, X, q1, q2, q3, q4, q5, r⟩ := h
  exact ⟨T, locs, k, n, X, q1, q2, q3, q4, ⟨q5, Nat.le_trans q4 X.same.2.1⟩, r⟩
/-! plain steps -/
theorem Sit.iload {k : Nat} {v : Int32} (h : Sit p l e R s m args below meth c bs st n0 cells slots P pc L S) (hd : decode bs pc = .ok (.iload k, 2)) (hl : L[k]? = some (.val (.int v))) (hp : pc + 2 = pc') : Sit p l e R s m args below meth c bs st n0 cells slots P pc' L (.int v :: S) := by
  subst hp; exact h.go fun T _ _ _ X hx hby _ t z => XS.iload X.here hx rfl (hb hby hd) hl z
theorem Sit.iloadN {k : Fin 4} {v : Int32} (h : Sit p l e R s m args below meth c bs st n0 cells slots P pc L S) (hd : decode bs pc = .ok (.iload_n k, 1)) (hl : L[k.val]? = some (.val (.int v))) (hp : pc + 1 = pc') : Sit p l e R s m args below meth c bs st n0 cells slots P pc' L (.int v :: S) := by
  subst hp; exact h.go fun T _ _ _ X hx hby _ t z => XS.iloadN X.here hx rfl (hb hby hd) hl z
theorem Sit.lload {k : Nat} {v : Int64} (h : Sit p l e R s m args below meth c bs st n0 cells slots P pc L S) (hd : decode bs pc = .ok (.lload k, 2)) (hl : L[k]? = some (.val (.long v))) (hp : pc + 2 = pc') : Sit p l e R s m args below meth c bs st n0 cells slots P pc' L (.long v :: S) := by
  subst hp; exact h.go fun T _ _ _ X hx hby _ t z => XS.lload X.here hx rfl (hb hby hd) hl z
theorem Sit.lloadN {k : Fin 4} {v : Int64} (h : Sit p l e R s m args below meth c bs st n0 cells slots P pc L S) (hd : decode bs pc = .ok (.lload_n k, 1)) (hl : L[k.val]? = some (.val (.long v))) (hp : pc + 1 = pc') : Sit p l e R s m args below meth c bs st n0 cells slots P pc' L (.long v :: S) := by
  subst hp; exact h.go fun T _ _ _ X hx hby _ t z => XS.lloadN X.here hx rfl (hb hby hd) hl z
theorem Sit.aload {k : Nat} {v : Addr} (h : Sit p l e R s m args below meth c bs st n0 cells slots P pc L S) (hd : decode bs pc = .ok (.aload k, 2)) (hl : L[k]? = some (.val (.ref v))) (hp : pc + 2 = pc') : Sit p l e R s m args below meth c bs st n0 cells slots P pc' L (.ref v :: S) := by
  subst hp; exact h.go fun T _ _ _ X hx hby _ t z => XS.aload X.here hx rfl (hb hby hd) hl rfl z
theorem Sit.aloadN {k : Fin 4} {v : Addr} (h : Sit p l e R s m args below meth c bs st n0 cells slots P pc L S) (hd : decode bs pc = .ok (.aload_n k, 1)) (hl : L[k.val]? = some (.val (.ref v))) (hp : pc + 1 = pc') : Sit p l e R s m args below meth c bs st n0 cells slots P pc' L (.ref v :: S) := by
  subst hp; exact h.go fun T _ _ _ X hx hby _ t z => XS.aloadN X.here hx rfl (hb hby hd) hl rfl z
theorem Sit.istore {k : Nat} {v : Int32} (L' : Array Slot) (h : Sit p l e R s m args below meth c bs st n0 cells slots P pc L (.int v :: S)) (hd : decode bs pc = .ok (.istore k, 2)) (hl : storeLocals L k (.int v) = some L') (hp : pc + 2 = pc') : Sit p l e R s m args below meth c bs st n0 cells slots P pc' L' S := by
  subst hp; exact h.go fun T _ _ _ X hx hby _ t z => XS.istore X.here hx rfl (hb hby hd) rfl hl z
theorem Sit.istoreN {k : Fin 4} {v : Int32} (L' : Array Slot) (h : Sit p l e R s m args below meth c bs st n0 cells slots P pc L (.int v :: S)) (hd : decode bs pc = .ok (.istore_n k, 1)) (hl : storeLocals L k.val (.int v) = some L') (hp : pc + 1 = pc') : Sit p l e R s m args below meth c bs st n0 cells slots P pc' L' S := by
  subst hp; exact h.go fun T _ _ _ X hx hby _ t z => XS.istoreN X.here hx rfl (hb hby hd) rfl hl z
theorem Sit.lstore {k : Nat} {v : Int64} (L' : Array Slot) (h : Sit p l e R s m args below meth c bs st n0 cells slots P pc L (.long v :: S)) (hd : decode bs pc = .ok (.lstore k, 2)) (hl : storeLocals L k (.long v) = some L') (hp : pc + 2 = pc') : Sit p l e R s m args below meth c bs st n0 cells slots P pc' L' S := by
  subst hp; exact h.go fun T _ _ _ X hx hby _ t z => XS.lstore X.here hx rfl (hb hby hd) rfl hl z
theorem Sit.lstoreN {k : Fin 4} {v : Int64} (L' : Array Slot) (h : Sit p l e R s m args below meth c bs st n0 cells slots P pc L (.long v :: S)) (hd : decode bs pc = .ok (.lstore_n k, 1)) (hl : storeLocals L k.val (.long v) = some L') (hp : pc + 1 = pc') : Sit p l e R s m args below meth c bs st n0 cells slots P pc' L' S := by
  subst hp; exact h.go fun T _ _ _ X hx hby _ t z => XS.lstoreN X.here hx rfl (hb hby hd) rfl hl z
theorem Sit.astore {k : Nat} {v : Addr} (L' : Array Slot) (h : Sit p l e R s m args below meth c bs st n0 cells slots P pc L (.ref v :: S)) (hd : decode bs pc = .ok (.astore k, 2)) (hl : storeLocals L k (.ref v) = some L') (hp : pc + 2 = pc') : Sit p l e R s m args below meth c bs st n0 cells slots P pc' L' S := by
  subst hp; exact h.go fun T _ _ _ X hx hby _ t z => XS.astore X.here hx rfl (hb hby hd) rfl rfl hl z
theorem Sit.astoreN {k : Fin 4} {v : Addr} (L' : Array Slot) (h : Sit p l e R s m args below meth c bs st n0 cells slots P pc L (.ref v :: S)) (hd : decode bs pc = .ok (.astore_n k, 1)) (hl : storeLocals L k.val (.ref v) = some L') (hp : pc + 1 = pc') : Sit p l e R s m args below meth c bs st n0 cells slots P pc' L' S := by
  subst hp; exact h.go fun T _ _ _ X hx hby _ t z => XS.astoreN X.here hx rfl (hb hby hd) rfl rfl hl z
theorem Sit.iconst {i : Int} (v : Int32) (h : Sit p l e R s m args below meth c bs st n0 cells slots P pc L S) (hd : decode bs pc = .ok (.iconst i, 1)) (hv : Int32.ofInt i = v) (hp : pc + 1 = pc') : Sit p l e R s m args below meth c bs st n0 cells slots P pc' L (.int v :: S) := by
  subst hp hv; exact h.go fun T _ _ _ X hx hby _ t z => XS.iconst X.here hx rfl (hb hby hd) z
theorem Sit.bipush {i : Int} (v : Int32) (h : Sit p l e R s m args below meth c bs st n0 cells slots P pc L S) (hd : decode bs pc = .ok (.bipush i, 2)) (hv : (Int8.ofInt i).toInt32 = v) (hp : pc + 2 = pc') : Sit p l e R s m args below meth c bs st n0 cells slots P pc' L (.int v :: S) := by
  subst hp hv; exact h.go fun T _ _ _ X hx hby _ t z => XS.bipush X.here hx rfl (hb hby hd) z
theorem Sit.sipush {i : Int} (v : Int32) (h : Sit p l e R s m args below meth c bs st n0 cells slots P pc L S) (hd : decode bs pc = .ok (.sipush i, 3)) (hv : (Int16.ofInt i).toInt32 = v) (hp : pc + 3 = pc') : Sit p l e R s m args below meth c bs st n0 cells slots P pc' L (.int v :: S) := by
  subst hp hv; exact h.go fun T _ _ _ X hx hby _ t z => XS.sipush X.here hx rfl (hb hby hd) z
theorem Sit.lconst {k : Fin 2} (v : Int64) (h : Sit p l e R s m args below meth c bs st n0 cells slots P pc L S) (hd : decode bs pc = .ok (.lconst k, 1)) (hv : Int64.ofNat k = v) (hp : pc + 1 = pc') : Sit p l e R s m args below meth c bs st n0 cells slots P pc' L (.long v :: S) := by
  subst hp hv; exact h.go fun T _ _ _ X hx hby _ t z => XS.lconst X.here hx rfl (hb hby hd) z
theorem Sit.ldc {index : Nat} {v : Int32} (h : Sit p l e R s m args below meth c bs st n0 cells slots P pc L S) (hZ : Z.Warmed39 s.vm) (hown : s.vm.findClass own = some m.cls) (w : (Cond.constant own index v).before a0 Z = true) (hd : decode bs pc = .ok (.ldc index, 2)) (hp : pc + 2 = pc') : Sit p l e R s m args below meth c bs st n0 cells slots P pc' L (.int v :: S) := by
  subst hp; exact h.go fun T _ _ _ X hx hby _ t z => X.ldcInt hx hown (mvT hZ w) (g := mkF m pc L S) rfl (hb hby hd) t z
theorem Sit.ldcw {index : Nat} {v : Int32} (h : Sit p l e R s m args below meth c bs st n0 cells slots P pc L S) (hZ : Z.Warmed39 s.vm) (hown : s.vm.findClass own = some m.cls) (w : (Cond.constant own index v).before a0 Z = true) (hd : decode bs pc = .ok (.ldc_w index, 3)) (hp : pc + 3 = pc') : Sit p l e R s m args below meth c bs st n0 cells slots P pc' L (.int v :: S) := by
  subst hp; exact h.go fun T _ _ _ X hx hby _ t z => X.ldcwInt hx hown (mvT hZ w) (g := mkF m pc L S) rfl (hb hby hd) t z
theorem Sit.ldc2 {index : Nat} {v : Int64} (h : Sit p l e R s m args below meth c bs st n0 cells slots P pc L S) (hZ : Z.Warmed39 s.vm) (hown : s.vm.findClass own = some m.cls) (w : (Cond.constantLong own index v).before a0 Z = true) (hd : decode bs pc = .ok (.ldc2_w index, 3)) (hp : pc + 3 = pc') : Sit p l e R s m args below meth c bs st n0 cells slots P pc' L (.long v :: S) := by
  subst hp; exact h.go fun T _ _ _ X hx hby _ t z => X.ldc2Long hx hown (mvT hZ w) (g := mkF m pc L S) rfl (hb hby hd) t z
/-! Java's shifts on longs and >>> on ints -/
def ushr32 (x y : Int32) : Int32 := (x.toUInt32 >>> (y &&& 31).toUInt32).toInt32
def shl64 (x : Int64) (y : Int32) : Int64 := x <<< (y &&& 0x3f).toInt64
def ushr64 (x : Int64) (y : Int32) : Int64 := (x.toUInt64 >>> (y &&& 0x3f).toInt64.toUInt64).toInt64
def lcmp3 (x y : Int64) : Int32 := if x > y then 1 else if x = y then 0 else -1
theorem Sit.iadd {x : Int32} {y : Int32} (h : Sit p l e R s m args below meth c bs st n0 cells slots P pc L (.int y :: .int x :: S)) (hd : decode bs pc = .ok (.iadd, 1)) (hp : pc + 1 = pc') : Sit p l e R s m args below meth c bs st n0 cells slots P pc' L (.int (x + y) :: S) := by
  subst hp; exact h.go fun T _ _ _ X hx hby _ t z => XS.iadd X.here hx rfl (hb hby hd) rfl z
theorem Sit.isub {x : Int32} {y : Int32} (h : Sit p l e R s m args below meth c bs st n0 cells slots P pc L (.int y :: .int x :: S)) (hd : decode bs pc = .ok (.isub, 1)) (hp : pc + 1 = pc') : Sit p l e R s m args below meth c bs st n0 cells slots P pc' L (.int (x - y) :: S) := by
  subst hp; exact h.go fun T _ _ _ X hx hby _ t z => XS.isub X.here hx rfl (hb hby hd) rfl z
theorem Sit.imul {x : Int32} {y : Int32} (h : Sit p l e R s m args below meth c bs st n0 cells slots P pc L (.int y :: .int x :: S)) (hd : decode bs pc = .ok (.imul, 1)) (hp : pc + 1 = pc') : Sit p l e R s m args below meth c bs st n0 cells slots P pc' L (.int (x * y) :: S) := by
  subst hp; exact h.go fun T _ _ _ X hx hby _ t z => XS.imul X.here hx rfl (hb hby hd) rfl z
theorem Sit.iand {x : Int32} {y : Int32} (h : Sit p l e R s m args below meth c bs st n0 cells slots P pc L (.int y :: .int x :: S)) (hd : decode bs pc = .ok (.iand, 1)) (hp : pc + 1 = pc') : Sit p l e R s m args below meth c bs st n0 cells slots P pc' L (.int (x &&& y) :: S) := by
  subst hp; exact h.go fun T _ _ _ X hx hby _ t z => XS.iand X.here hx rfl (hb hby hd) rfl z
theorem Sit.ior {x : Int32} {y : Int32} (h : Sit p l e R s m args below meth c bs st n0 cells slots P pc L (.int y :: .int x :: S)) (hd : decode bs pc = .ok (.ior, 1)) (hp : pc + 1 = pc') : Sit p l e R s m args below meth c bs st n0 cells slots P pc' L (.int (x ||| y) :: S) := by
  subst hp; exact h.go fun T _ _ _ X hx hby _ t z => XS.ior X.here hx rfl (hb hby hd) rfl z
theorem Sit.ixor {x : Int32} {y : Int32} (h : Sit p l e R s m args below meth c bs st n0 cells slots P pc L (.int y :: .int x :: S)) (hd : decode bs pc = .ok (.ixor, 1)) (hp : pc + 1 = pc') : Sit p l e R s m args below meth c bs st n0 cells slots P pc' L (.int (x ^^^ y) :: S) := by
  subst hp; exact h.go fun T _ _ _ X hx hby _ t z => XS.ixor X.here hx rfl (hb hby hd) rfl z
theorem Sit.ishl {x : Int32} {y : Int32} (h : Sit p l e R s m args below meth c bs st n0 cells slots P pc L (.int y :: .int x :: S)) (hd : decode bs pc = .ok (.ishl, 1)) (hp : pc + 1 = pc') : Sit p l e R s m args below meth c bs st n0 cells slots P pc' L (.int (x <<< (y &&& 31)) :: S) := by
  subst hp; exact h.go fun T _ _ _ X hx hby _ t z => XS.ishl X.here hx rfl (hb hby hd) rfl z
theorem Sit.ishr {x : Int32} {y : Int32} (h : Sit p l e R s m args below meth c bs st n0 cells slots P pc L (.int y :: .int x :: S)) (hd : decode bs pc = .ok (.ishr, 1)) (hp : pc + 1 = pc') : Sit p l e R s m args below meth c bs st n0 cells slots P pc' L (.int (x >>> (y &&& 31)) :: S) := by
  subst hp; exact h.go fun T _ _ _ X hx hby _ t z => XS.ishr X.here hx rfl (hb hby hd) rfl z
theorem Sit.iushr {x : Int32} {y : Int32} (h : Sit p l e R s m args below meth c bs st n0 cells slots P pc L (.int y :: .int x :: S)) (hd : decode bs pc = .ok (.iushr, 1)) (hp : pc + 1 = pc') : Sit p l e R s m args below meth c bs st n0 cells slots P pc' L (.int (ushr32 x y) :: S) := by
  subst hp; exact h.go fun T _ _ _ X hx hby _ t z => XS.iushr X.here hx rfl (hb hby hd) rfl z
theorem Sit.ladd {x : Int64} {y : Int64} (h : Sit p l e R s m args below meth c bs st n0 cells slots P pc L (.long y :: .long x :: S)) (hd : decode bs pc = .ok (.ladd, 1)) (hp : pc + 1 = pc') : Sit p l e R s m args below meth c bs st n0 cells slots P pc' L (.long (x + y) :: S) := by
  subst hp; exact h.go fun T _ _ _ X hx hby _ t z => XS.ladd X.here hx rfl (hb hby hd) rfl z
theorem Sit.lsub {x : Int64} {y : Int64} (h : Sit p l e R s m args below meth c bs st n0 cells slots P pc L (.long y :: .long x :: S)) (hd : decode bs pc = .ok (.lsub, 1)) (hp : pc + 1 = pc') : Sit p l e R s m args below meth c bs st n0 cells slots P pc' L (.long (x - y) :: S) := by
  subst hp; exact h.go fun T _ _ _ X hx hby _ t z => XS.lsub X.here hx rfl (hb hby hd) rfl z
theorem Sit.lmul {x : Int64} {y : Int64} (h : Sit p l e R s m args below meth c bs st n0 cells slots P pc L (.long y :: .long x :: S)) (hd : decode bs pc = .ok (.lmul, 1)) (hp : pc + 1 = pc') : Sit p l e R s m args below meth c bs st n0 cells slots P pc' L (.long (x * y) :: S) := by
  subst hp; exact h.go fun T _ _ _ X hx hby _ t z => XS.lmul X.here hx rfl (hb hby hd) rfl z
theorem Sit.land {x : Int64} {y : Int64} (h : Sit p l e R s m args below meth c bs st n0 cells slots P pc L (.long y :: .long x :: S)) (hd : decode bs pc = .ok (.land, 1)) (hp : pc + 1 = pc') : Sit p l e R s m args below meth c bs st n0 cells slots P pc' L (.long (x &&& y) :: S) := by
  subst hp; exact h.go fun T _ _ _ X hx hby _ t z => XS.land X.here hx rfl (hb hby hd) rfl z
theorem Sit.lor {x : Int64} {y : Int64} (h : Sit p l e R s m args below meth c bs st n0 cells slots P pc L (.long y :: .long x :: S)) (hd : decode bs pc = .ok (.lor, 1)) (hp : pc + 1 = pc') : Sit p l e R s m args below meth c bs st n0 cells slots P pc' L (.long (x ||| y) :: S) := by
  subst hp; exact h.go fun T _ _ _ X hx hby _ t z => XS.lor X.here hx rfl (hb hby hd) rfl z
theorem Sit.lxor {x : Int64} {y : Int64} (h : Sit p l e R s m args below meth c bs st n0 cells slots P pc L (.long y :: .long x :: S)) (hd : decode bs pc = .ok (.lxor, 1)) (hp : pc + 1 = pc') : Sit p l e R s m args below meth c bs st n0 cells slots P pc' L (.long (x ^^^ y) :: S) := by
  subst hp; exact h.go fun T _ _ _ X hx hby _ t z => XS.lxor X.here hx rfl (hb hby hd) rfl z
theorem Sit.lshl {x : Int64} {y : Int32} (h : Sit p l e R s m args below meth c bs st n0 cells slots P pc L (.int y :: .long x :: S)) (hd : decode bs pc = .ok (.lshl, 1)) (hp : pc + 1 = pc') : Sit p l e R s m args below meth c bs st n0 cells slots P pc' L (.long (shl64 x y) :: S) := by
  subst hp; exact h.go fun T _ _ _ X hx hby _ t z => XS.lshl X.here hx rfl (hb hby hd) rfl z
theorem Sit.lushr {x : Int64} {y : Int32} (h : Sit p l e R s m args below meth c bs st n0 cells slots P pc L (.int y :: .long x :: S)) (hd : decode bs pc = .ok (.lushr, 1)) (hp : pc + 1 = pc') : Sit p l e R s m args below meth c bs st n0 cells slots P pc' L (.long (ushr64 x y) :: S) := by
  subst hp; exact h.go fun T _ _ _ X hx hby _ t z => XS.lushr X.here hx rfl (hb hby hd) rfl z
theorem Sit.lcmp {x : Int64} {y : Int64} (h : Sit p l e R s m args below meth c bs st n0 cells slots P pc L (.long y :: .long x :: S)) (hd : decode bs pc = .ok (.lcmp, 1)) (hp : pc + 1 = pc') : Sit p l e R s m args below meth c bs st n0 cells slots P pc' L (.int (lcmp3 x y) :: S) := by
  subst hp; exact h.go fun T _ _ _ X hx hby _ t z => XS.lcmp X.here hx rfl (hb hby hd) rfl z
theorem Sit.i2l {x : Int32} (h : Sit p l e R s m args below meth c bs st n0 cells slots P pc L (.int x :: S)) (hd : decode bs pc = .ok (.i2l, 1)) (hp : pc + 1 = pc') : Sit p l e R s m args below meth c bs st n0 cells slots P pc' L (.long (x.toInt64) :: S) := by
  subst hp; exact h.go fun T _ _ _ X hx hby _ t z => XS.i2l X.here hx rfl (hb hby hd) rfl z
theorem Sit.l2i {x : Int64} (h : Sit p l e R s m args below meth c bs st n0 cells slots P pc L (.long x :: S)) (hd : decode bs pc = .ok (.l2i, 1)) (hp : pc + 1 = pc') : Sit p l e R s m args below meth c bs st n0 cells slots P pc' L (.int (x.toInt32) :: S) := by
  subst hp; exact h.go fun T _ _ _ X hx hby _ t z => XS.l2i X.here hx rfl (hb hby hd) rfl z
theorem Sit.i2b {x : Int32} (h : Sit p l e R s m args below meth c bs st n0 cells slots P pc L (.int x :: S)) (hd : decode bs pc = .ok (.i2b, 1)) (hp : pc + 1 = pc') : Sit p l e R s m args below meth c bs st n0 cells slots P pc' L (.int (x.toInt8.toInt32) :: S) := by
  subst hp; exact h.go fun T _ _ _ X hx hby _ t z => XS.i2b X.here hx rfl (hb hby hd) rfl z
theorem Sit.ineg {x : Int32} (h : Sit p l e R s m args below meth c bs st n0 cells slots P pc L (.int x :: S)) (hd : decode bs pc = .ok (.ineg, 1)) (hp : pc + 1 = pc') : Sit p l e R s m args below meth c bs st n0 cells slots P pc' L (.int (-x) :: S) := by
  subst hp; exact h.go fun T _ _ _ X hx hby _ t z => XS.ineg X.here hx rfl (hb hby hd) rfl z
theorem Sit.idiv {x y : Int32} (h : Sit p l e R s m args below meth c bs st n0 cells slots P pc L (.int y :: .int x :: S)) (hd : decode bs pc = .ok (.idiv, 1)) (hy : y ≠ 0) (hp : pc + 1 = pc') : Sit p l e R s m args below meth c bs st n0 cells slots P pc' L (.int (x / y) :: S) := by
  subst hp; exact h.go fun T _ _ _ X hx hby _ t z => XS.idiv X.here hx rfl (hb hby hd) rfl hy z
theorem Sit.irem {x y : Int32} (h : Sit p l e R s m args below meth c bs st n0 cells slots P pc L (.int y :: .int x :: S)) (hd : decode bs pc = .ok (.irem, 1)) (hy : y ≠ 0) (hp : pc + 1 = pc') : Sit p l e R s m args below meth c bs st n0 cells slots P pc' L (.int (x % y) :: S) := by
  subst hp; exact h.go fun T _ _ _ X hx hby _ t z => iremM X hx rfl (hb hby hd) rfl hy z
theorem Sit.lrem {x y : Int64} (h : Sit p l e R s m args below meth c bs st n0 cells slots P pc L (.long y :: .long x :: S)) (hd : decode bs pc = .ok (.lrem, 1)) (hy : y ≠ 0) (hp : pc + 1 = pc') : Sit p l e R s m args below meth c bs st n0 cells slots P pc' L (.long (x % y) :: S) := by
  subst hp; rw [← lrem_mod]; exact h.go fun T _ _ _ X hx hby _ t z => XS.lrem X.here hx rfl (hb hby hd) rfl hy z
theorem Sit.iinc {k : Nat} {i : Int} {x : Int32} (v : Int32) (L' : Array Slot) (h : Sit p l e R s m args below meth c bs st n0 cells slots P pc L S) (hd : decode bs pc = .ok (.iinc k i, 3)) (hl : L[k]? = some (.val (.int x))) (hv : x + Int32.ofInt i = v) (hl' : storeLocals L k (.int v) = some L') (hp : pc + 3 = pc') : Sit p l e R s m args below meth c bs st n0 cells slots P pc' L' S := by
  subst hp hv; exact h.go fun T _ _ _ X hx hby _ t z => XS.iinc X.here hx rfl (hb hby hd) hl hl' z
theorem Sit.dup {x : Value} (h : Sit p l e R s m args below meth c bs st n0 cells slots P pc L (x :: S)) (hd : decode bs pc = .ok (.dup, 1)) (hc : x.category = 1) (hp : pc + 1 = pc') : Sit p l e R s m args below meth c bs st n0 cells slots P pc' L (x :: x :: S) := by
  subst hp; exact h.go fun T _ _ _ X hx hby _ t z => XS.dup X.here hx rfl (hb hby hd) rfl hc z
theorem Sit.dupX1 {x y : Value} (h : Sit p l e R s m args below meth c bs st n0 cells slots P pc L (x :: y :: S)) (hd : decode bs pc = .ok (.dup_x1, 1)) (hc : x.category = 1) (hc' : y.category = 1) (hp : pc + 1 = pc') : Sit p l e R s m args below meth c bs st n0 cells slots P pc' L (x :: y :: x :: S) := by
  subst hp; exact h.go fun T _ _ _ X hx hby _ t z => XS.dupX1 X.here hx rfl (hb hby hd) rfl hc hc' z
theorem Sit.dup2 {x y : Value} (h : Sit p l e R s m args below meth c bs st n0 cells slots P pc L (x :: y :: S)) (hd : decode bs pc = .ok (.dup2, 1)) (hc : x.category = 1) (hc' : y.category = 1) (hp : pc + 1 = pc') : Sit p l e R s m args below meth c bs st n0 cells slots P pc' L (x :: y :: x :: y :: S) := by
  subst hp; exact h.go fun T _ _ _ X hx hby _ t z => Jvm.Free.XT.dup2 X.here hx rfl (hb hby hd) rfl hc hc' z
theorem Sit.pop {x : Value} (h : Sit p l e R s m args below meth c bs st n0 cells slots P pc L (x :: S)) (hd : decode bs pc = .ok (.pop, 1)) (hc : x.category = 1) (hp : pc + 1 = pc') : Sit p l e R s m args below meth c bs st n0 cells slots P pc' L S := by
  subst hp; exact h.go fun T _ _ _ X hx hby _ t z => XS.pop X.here hx rfl (hb hby hd) rfl hc z
theorem Sit.goto {o : Int} (h : Sit p l e R s m args below meth c bs st n0 cells slots P pc L S) (hd : decode bs pc = .ok (.goto o, 3)) (ho : 0 ≤ (pc : Int) + o) (hp : ((pc : Int) + o).toNat = pc') : Sit p l e R s m args below meth c bs st n0 cells slots P pc' L S :=
  h.go fun T _ _ _ X hx hby _ t z => XS.goto X.here hx rfl (pc0 := pc) rfl (hb hby hd) ho hp z
theorem Sit.ifY {cd : ClassFile.Cond} {x : Int32} {o : Int} (h : Sit p l e R s m args below meth c bs st n0 cells slots P pc L (.int x :: S)) (hd : decode bs pc = .ok (.ifCond cd o, 3)) (hc : if_icmp.holds cd x 0 = true) (ho : 0 ≤ (pc : Int) + o) (hp : ((pc : Int) + o).toNat = pc') : Sit p l e R s m args below meth c bs st n0 cells slots P pc' L S :=
  h.go fun T _ _ _ X hx hby _ t z => XS.ifYes X.here hx rfl (pc0 := pc) rfl (hb hby hd) rfl ((if0 _ _).trans hc) ho hp z
theorem Sit.ifN {cd : ClassFile.Cond} {x : Int32} {o : Int} (h : Sit p l e R s m args below meth c bs st n0 cells slots P pc L (.int x :: S)) (hd : decode bs pc = .ok (.ifCond cd o, 3)) (hc : if_icmp.holds cd x 0 = false) (hp : pc + 3 = pc') : Sit p l e R s m args below meth c bs st n0 cells slots P pc' L S := by
  subst hp; exact h.go fun T _ _ _ X hx hby _ t z => XS.ifNo X.here hx rfl (hb hby hd) rfl ((if0 _ _).trans hc) z
theorem Sit.icmpY {cd : ClassFile.Cond} {x y : Int32} {o : Int} (h : Sit p l e R s m args below meth c bs st n0 cells slots P pc L (.int y :: .int x :: S)) (hd : decode bs pc = .ok (.if_icmp cd o, 3)) (hc : if_icmp.holds cd x y = true) (ho : 0 ≤ (pc : Int) + o) (hp : ((pc : Int) + o).toNat = pc') : Sit p l e R s m args below meth c bs st n0 cells slots P pc' L S :=
  h.go fun T _ _ _ X hx hby _ t z => XS.icmpYes X.here hx rfl (pc0 := pc) rfl (hb hby hd) rfl hc ho hp z
theorem Sit.icmpN {cd : ClassFile.Cond} {x y : Int32} {o : Int} (h : Sit p l e R s m args below meth c bs st n0 cells slots P pc L (.int y :: .int x :: S)) (hd : decode bs pc = .ok (.if_icmp cd o, 3)) (hc : if_icmp.holds cd x y = false) (hp : pc + 3 = pc') : Sit p l e R s m args below meth c bs st n0 cells slots P pc' L S := by
  subst hp; exact h.go fun T _ _ _ X hx hby _ t z => XS.icmpNo X.here hx rfl (hb hby hd) rfl hc z
/-! comparisons as facts on whole numbers -/
def cmpP : ClassFile.Cond → Int32 → Int32 → Prop
  | .eq, x, y => x.toInt = y.toInt
  | .ne, x, y => x.toInt ≠ y.toInt
  | .lt, x, y => x.toInt < y.toInt
  | .ge, x, y => y.toInt ≤ x.toInt
  | .gt, x, y => y.toInt < x.toInt
  | .le, x, y => x.toInt ≤ y.toInt
theorem cmpP_holds (cd : ClassFile.Cond) (x y : Int32) : if_icmp.holds cd x y = true ↔ cmpP cd x y := by
  cases cd <;> simp [if_icmp.holds, cmpP, Int32.lt_iff_toInt_lt, Int32.le_iff_toInt_le, Int32.toInt_inj]
theorem cmpT {cd : ClassFile.Cond} {x y : Int32} (h : cmpP cd x y) : if_icmp.holds cd x y = true := (cmpP_holds cd x y).mpr h
theorem cmpF {cd : ClassFile.Cond} {x y : Int32} (h : ¬ cmpP cd x y) : if_icmp.holds cd x y = false := by
  rw [← Bool.not_eq_true, cmpP_holds]; exact h
def cmpZ : ClassFile.Cond → Int32 → Prop
  | .eq, x => x.toInt = 0
  | .ne, x => x.toInt ≠ 0
  | .lt, x => x.toInt < 0
  | .ge, x => 0 ≤ x.toInt
  | .gt, x => 0 < x.toInt
  | .le, x => x.toInt ≤ 0
theorem cmpT0 {cd : ClassFile.Cond} {x : Int32} (h : cmpZ cd x) : if_icmp.holds cd x 0 = true := cmpT (by cases cd <;> exact h)
theorem cmpF0 {cd : ClassFile.Cond} {x : Int32} (h : ¬ cmpZ cd x) : if_icmp.holds cd x 0 = false := cmpF (by cases cd <;> exact h)
def cmpJ : ClassFile.Cond → Int64 → Int64 → Prop
  | .eq, x, y => x = y
  | .ne, x, y => ¬ x = y
  | .lt, x, y => x.toInt < y.toInt
  | .ge, x, y => y.toInt ≤ x.toInt
  | .gt, x, y => y.toInt < x.toInt
  | .le, x, y => x.toInt ≤ y.toInt
theorem lc_iff (cd : ClassFile.Cond) (x y : Int64) : if_icmp.holds cd (lcmp3 x y) 0 = true ↔ cmpJ cd x y := by
  rw [cmpP_holds]
  obtain ⟨h1, h2, h3⟩ := c_lcmp x y
  have e : lcmp3 x y = lcmpW x y := rfl
  rw [e]
  have z : (0 : Int32).toInt = 0 := rfl
  have q : x = y ↔ x.toInt = y.toInt := Int64.toInt_inj.symm
  rcases Int.lt_trichotomy x.toInt y.toInt with h | h | h
  · have := h1 h; cases cd <;> simp only [cmpP, cmpJ, z, q] <;> omega
  · have := h2 h; cases cd <;> simp only [cmpP, cmpJ, z, q] <;> omega
  · have := h3 h; cases cd <;> simp only [cmpP, cmpJ, z, q] <;> omega
theorem lcT {cd : ClassFile.Cond} {x y : Int64} (h : cmpJ cd x y) : if_icmp.holds cd (lcmp3 x y) 0 = true := (lc_iff cd x y).mpr h
theorem lcF {cd : ClassFile.Cond} {x y : Int64} (h : ¬ cmpJ cd x y) : if_icmp.holds cd (lcmp3 x y) 0 = false := by
  rw [← Bool.not_eq_true, lc_iff]; exact h
theorem eqT {x y : Int32} (h : x = y) : if_icmp.holds .eq x y = true := (teq h).1
theorem eqF {x y : Int32} (h : ¬ x = y) : if_icmp.holds .eq x y = false := (feq h).1
theorem neT {x y : Int32} (h : ¬ x = y) : if_icmp.holds .ne x y = true := (feq h).2
theorem neF {x y : Int32} (h : x = y) : if_icmp.holds .ne x y = false := (teq h).2
/-! leaving -/
def Out (p : Program) (e : Env) (below : List Frame) (s st : State) (n0 cells slots : Nat) (Q : Option Value → Heap → Prop) : Prop :=
  ∃ s₂ o, Steps p.tables e below st s₂ ∧ s₂.status = .running ∧ Ended s₂ below o ∧ ∃ v L, o = .returned v ∧ (Fr n0 L ∧ Q v s₂.heap) ∧ FrameEnd s o s₂ L cells slots
theorem Out.mk {T : State} {locs : List Loc} {k n : Nat} {v : Option Value} {Q : Option Value → Heap → Prop} (X : Stand p l e R s m args below meth c T locs k n) (q1 : k ≤ cells) (q2 : n ≤ slots) (q3 : Fr n0 locs) (hQ : Q v T.heap) (hv : meth.sig.returnType = none → v = none) (hlk : meth.locks = false)
    (hst : ∀ fs : List Frame, (∀ (f : JFrame) (acts : List Action), f.method = m → f.locked = none → f.entered = [] → (doReturn e (T.setTop f) acts v).1 = T.setFrames fs) → Steps p.tables e below st (T.setFrames fs)) : Out p e below s st n0 cells slots Q := by
  obtain ⟨fs, hr, hrun, hended, hW, hsame⟩ := X.leave (v := v) hv hlk
  exact ⟨_, _, hst fs hr, hrun, hended, _, _, rfl, ⟨q3, hQ⟩, ⟨_, rfl⟩, hW, hsame.mono q1 q2⟩
theorem Sit.retI {z : Int32} {Q : Option Value → Heap → Prop} (h : Sit p l e R s m args below meth c bs st n0 cells slots P pc L (.int z :: S)) (hd : decode bs pc = .ok (.ireturn, 1)) (hret : meth.sig.returnType = some .int) (hlk : meth.locks = false) (hQ : ∀ hh, P hh → Q (some (.int z)) hh) : Out p e below s st n0 cells slots Q := by
  obtain ⟨T, locs, k, n, X, q1, q2, q3, q4, q5, hx, hby, q⟩ := h
  exact Out.mk X q1 q2 q3 (hQ _ q5) (fun h => by rw [hret] at h; cases h) hlk fun fs hr => q _ (Jvm.RoadKit.retI X hx hret (hb hby hd) hr)
theorem Sit.retZ {z : Int32} {Q : Option Value → Heap → Prop} (h : Sit p l e R s m args below meth c bs st n0 cells slots P pc L (.int z :: S)) (hd : decode bs pc = .ok (.ireturn, 1)) (hret : meth.sig.returnType = some .boolean) (hlk : meth.locks = false) (hQ : ∀ hh, P hh → Q (some (.int (z &&& 1))) hh) : Out p e below s st n0 cells slots Q := by
  obtain ⟨T, locs, k, n, X, q1, q2, q3, q4, q5, hx, hby, q⟩ := h
  exact Out.mk X q1 q2 q3 (hQ _ q5) (fun h => by rw [hret] at h; cases h) hlk fun fs hr => q _ (retN X hx (t := .boolean) hret (by simp) (hb hby hd) hr)
theorem Sit.retJ {z : Int64} {Q : Option Value → Heap → Prop} (h : Sit p l e R s m args below meth c bs st n0 cells slots P pc L [.long z]) (hd : decode bs pc = .ok (.lreturn, 1)) (hret : meth.sig.returnType = some .long) (hlk : meth.locks = false) (hQ : ∀ hh, P hh → Q (some (.long z)) hh) : Out p e below s st n0 cells slots Q := by
  obtain ⟨T, locs, k, n, X, q1, q2, q3, q4, q5, hx, hby, q⟩ := h
  exact Out.mk X q1 q2 q3 (hQ _ q5) (fun h => by rw [hret] at h; cases h) hlk fun fs hr => q _ (X.lreturnOut hx hret (hb hby hd) hr)
theorem Sit.retV {Q : Option Value → Heap → Prop} (h : Sit p l e R s m args below meth c bs st n0 cells slots P pc L []) (hd : decode bs pc = .ok (.return_, 1)) (hret : meth.sig.returnType = none) (hlk : meth.locks = false) (hQ : ∀ hh, P hh → Q none hh) : Out p e below s st n0 cells slots Q := by
  obtain ⟨T, locs, k, n, X, q1, q2, q3, q4, q5, hx, hby, q⟩ := h
  exact Out.mk X q1 q2 q3 (hQ _ q5) (fun _ => rfl) hlk fun fs hr => q _ (X.returnOut hx hret (hb hby hd) hr)
theorem Sit.retA {z : Addr} {t : FieldType} {Q : Option Value → Heap → Prop} (h : Sit p l e R s m args below meth c bs st n0 cells slots P pc L [.ref z]) (hd : decode bs pc = .ok (.areturn, 1)) (hret : meth.sig.returnType = some t) (ht : t.isReference = true) (hlk : meth.locks = false) (hQ : ∀ hh, P hh → Q (some (.ref z)) hh) : Out p e below s st n0 cells slots Q := by
  obtain ⟨T, locs, k, n, X, q1, q2, q3, q4, q5, hx, hby, q⟩ := h
  exact Out.mk X q1 q2 q3 (hQ _ q5) (fun h => by rw [hret] at h; cases h) hlk fun fs hr => q _ (X.areturnOut hx rfl hret ht (hb hby hd) hr)
/-! a method's contract -/
abbrev Met1 (l : Launch) (y : MethodName) (bytes : ByteArray) (maxL : Nat) (ret : Option FieldType) (ws : List Jvm.Cond) (rm : Room) (Z : State) (as : Array Value) (h0 : Heap) (n0 : Nat) (Q : Option Value → Heap → Prop) : Prop :=
  MetFree l y (head1 (Jvm.Cond.code y bytes maxL ret :: ws) rm) (fun a U => a = as ∧ Z.Warmed39 U.vm ∧ U.heap = h0) (fun _ _ _ _ _ => True) (fun _ U o U' => ∃ v L, o = .returned v ∧ (Fr n0 L ∧ Q v U'.heap) ∧ FrameEnd U o U' L rm.cells rm.slots)
theorem Met1.of {y : MethodName} {bytes : ByteArray} {maxL : Nat} {ret : Option FieldType} {ws : List Jvm.Cond} {rm : Room} {as : Array Value} {h0 : Heap} {Q : Option Value → Heap → Prop} {L0 : Array Slot} (hpn : plainFor y = true) (hef : ∀ m, entryFrame m as maxL = mkF m 0 L0 []) (Z0 : n0 ≤ h0.size)
    (body : ∀ p e s m below meth c st, Sit p l e rm s m as below meth c bytes st n0 0 0 (fun h => h = h0) 0 L0 [] → Z.Warmed39 s.vm → s.vm.findClass y.cls = some m.cls → meth.sig.returnType = ret → meth.locks = false → meth.name = y.name → c.maxLocals = maxL → Out p e below s st n0 rm.cells rm.slots Q) : Met1 l y bytes maxL ret ws rm Z as h0 n0 Q := by
  refine MetFree.of_bodySF hpn hisR ?_
  intro p e s m args below meth c s₁ Bd hml0 hP hK
  obtain ⟨rfl, hZ, hh⟩ := hP
  have e0 : s₁.heap = h0 := by rw [← hh, Bd.state]; rfl
  exact body p e s m below meth c _ ⟨s₁, [], 0, 0, Stand.of_body Bd, Nat.le_refl _, Nat.le_refl _, Fr.nil n0, by rw [hh]; exact Z0, e0, Bd.exec, Bd.bytes, fun t k => castTop (hef m) k⟩ hZ (findClass_of_methodNamed Bd.named) Bd.returns Bd.notSynchronized (name_of_methodNamed Bd.named Bd.method).1 hml0
theorem Met1.mono {y : MethodName} {bytes : ByteArray} {maxL : Nat} {ret : Option FieldType} {ws : List Jvm.Cond} {rm : Room} {as : Array Value} {h0 : Heap} {Q Q' : Option Value → Heap → Prop} (h : Met1 l y bytes maxL ret ws rm Z as h0 n0 Q) (f : ∀ v hh, Q v hh → Q' v hh) : Met1 l y bytes maxL ret ws rm Z as h0 n0 Q' := by
  intro p e ha hc hk s m args below hf happ hP hK
  obtain ⟨n, o, h1, h2, h3, v, L, h4, ⟨h5, h6⟩, h7⟩ := h p e ha hc hk s m args below hf happ hP hK
  exact ⟨n, o, h1, h2, h3, v, L, h4, ⟨h5, f _ _ h6⟩, h7⟩
/-! a static call by its contract -/
theorem Sit.callS {index : Nat} {y : MethodName} {bytes : ByteArray} {maxL maxO : Nat} {ret : Option FieldType} {rm : Room} {Q : Option Value → Heap → Prop} {W : Nat} (argsL rest : List Value) (h : Sit p l e R s m args below meth c bs st n0 cells slots P pc L (argsL.reverse ++ rest)) (hZ : Z.Warmed39 s.vm) (hown : s.vm.findClass own = some m.cls)
    (w1 : (Cond.methodLink own index y).before a0 Z = true) (w2 : (Cond.static y).before a0 Z = true) (w3 : (Cond.initialized y.cls).before a0 Z = true) (w4 : (Cond.code y bytes maxL ret).before a0 Z = true) (hy : y.cls ≠ "java/lang/invoke/MethodHandle" ∧ y.cls ≠ "java/lang/invoke/VarHandle")
    (hM : ∀ h0, P h0 → n0 ≤ h0.size → Met1 l y bytes maxL ret [] rm Z argsL.toArray h0 n0 Q) (hml : c.maxLocals = maxO) (hsz : L.size = maxO) (hlen : ∀ sig, parseMethodDescriptor y.desc = some sig → argsL.length = sig.parameters.length) (hd : decode bs pc = .ok (.invokestatic index, 3)) (hW : 2 * 0 + (rest.map fun v => v.category).sum ≤ W)
    (hf : rm.frames + 1 ≤ R.frames) (hl : W + (maxL + 11) + rm.locals ≤ R.locals) (hcl : cells + rm.cells ≤ R.cells) (hsl : slots + rm.slots ≤ R.slots) (hp : pc + 3 = pc') :
    ∃ v : Option Value, Sit p l e R s m args below meth c bs st n0 (cells + rm.cells) (slots + rm.slots) (fun hh => Q v hh) pc' L (v.toList ++ rest) := by
  subst hp
  obtain ⟨T, locs, k, n, X, q1, q2, q3, q4, q5, hx, hby, q⟩ := h
  obtain ⟨v, _, ⟨T2, L2, k2, n2⟩, -, X2, ⟨Lc2, ⟨hN2, hQ2⟩, l2, y2, z2⟩, st2⟩ := Jvm.LawKit.callS X hx (y := y) hown (mvT hZ w1) (mvT hZ w2) (mvT hZ w3) (mvT hZ w4) hy (backOf (W := W) (Q := fun v hh L => Fr n0 L ∧ Q v hh) (hM T.heap q5 (Nat.le_trans q4 X.same.2.1)) hZ w4 w3 hf hl) (g := mkF m pc L (argsL.reverse ++ rest)) rfl (by rw [hml]; exact hsz) (argsL := argsL) (rest := rest) hlen rfl hW (hb hby hd) (fun _ _ => ⟨rfl, rfl, Nat.le_trans (Nat.add_le_add_right q1 _) hcl, Nat.le_trans (Nat.add_le_add_right q2 _) hsl⟩)
  dsimp only [Pt.U, Pt.locs, Pt.cells, Pt.slots] at X2 l2 y2 z2 st2 hQ2
  subst l2 y2 z2
  exact ⟨v, T2, _, _, _, X2, Nat.add_le_add_right q1 _, Nat.add_le_add_right q2 _, Fr.app q3 hN2, q4, hQ2, hx, hby, fun t z => q t (st2 t z)⟩
end OwnKit

section OwnHeap
variable {p : Program} {l : Launch} {e : Env} {R : Room} {s : State} {m : MethodId} {args : Array Value} {below : List Frame} {meth : Method} {c : Code} {bs : ByteArray} {st : State} {n0 cells slots : Nat} {P P' : Heap → Prop} {pc pc' : Nat} {L L' : Array Slot} {S S' : List Value} {Z : State} {a0 : Array Value} {own : String} {hh hh' : Heap} {a b : Addr} {ty : FieldType} {vs : List Value} {v w : Value} {j : Nat}
/-- an array and its components -/
def AV (Z : State) (h : Heap) (a : Addr) (ty : FieldType) (vs : List Value) : Prop := ∃ cl : Cell, Arr Z h a cl ty ∧ cl.slots.toList = vs
theorem AV.lt (A : AV Z hh a ty vs) : a < hh.size := by obtain ⟨cl, A, -⟩ := A; exact A.lt
theorem AV.ext (A : AV Z hh a ty vs) (E : Ext hh hh') : AV Z hh' a ty vs := by obtain ⟨cl, A, r⟩ := A; exact ⟨cl, A.ext E, r⟩
theorem AV.other (A : AV Z hh a ty vs) (X : Wr hh hh' b j v) (q : a ≠ b) : AV Z hh' a ty vs := by obtain ⟨cl, A, r⟩ := A; exact ⟨cl, A.other X q, r⟩
theorem AV.keep {ws : List Addr} (A : AV Z hh a ty vs) (K : Keep hh hh' ws) (q : a ∉ ws) : AV Z hh' a ty vs := by obtain ⟨cl, A, r⟩ := A; exact ⟨cl, ⟨K.2.1 a cl A.1 q, A.2⟩, r⟩
theorem AV.set (A : AV Z hh a ty vs) (X : Wr hh hh' a j v) : AV Z hh' a ty (vs.set j v) := by
  obtain ⟨cl, A, rfl⟩ := A
  exact ⟨_, A.same X, by simp [Cell.setSlot]⟩
theorem AV.new {k : ClassId} {n : Int32} (A : Arr Z hh a (newA k ty n) ty) : AV Z hh a ty (List.replicate n.toNatClampNeg (defaultValue ty)) := ⟨_, A, by simp [newA]⟩
theorem AV.uniq {us : List Value} (A : AV Z hh a ty vs) (B : AV Z hh a ty us) : vs = us := by
  obtain ⟨c1, A, rfl⟩ := A
  obtain ⟨c2, B, rfl⟩ := B
  cases A.1.symm.trans B.1; rfl
theorem clamp_of {x : Int32} {i : Nat} (h : x.toInt = (i : Int)) : x.toNatClampNeg = i := by
  show x.toInt.toNat = i
  omega
theorem nlt0 {x : Int32} (h : 0 ≤ x.toInt) : ¬ x < 0 := by rw [Int32.lt_iff_toInt_lt]; show ¬ x.toInt < 0; omega
theorem AV.inb {cl : Cell} {x : Int32} (hx : 0 ≤ x.toInt) (r : cl.slots.toList = vs) (h : x.toNatClampNeg < vs.length) : ¬ (x < 0 ∨ cl.slots.size ≤ x.toNatClampNeg) := by
  rintro (q | q)
  · exact nlt0 hx q
  · subst r; simp at h; omega
theorem Sit.alen {n : Nat} (v : Int32) (h : Sit p l e R s m args below meth c bs st n0 cells slots P pc L (.ref a :: S)) (hZ : Z.Warmed39 s.vm) (hP : ∀ hh, P hh → ∃ vs, AV Z hh a ty vs ∧ vs.length = n) (hd : decode bs pc = .ok (.arraylength, 1)) (hv : n.toInt32 = v) (hp : pc + 1 = pc') : Sit p l e R s m args below meth c bs st n0 cells slots P pc' L (.int v :: S) := by
  subst hp hv
  refine h.go fun T _ _ _ X hx hby hT t z => ?_
  obtain ⟨vs, ⟨cl, A, r⟩, rfl⟩ := hP _ hT
  refine X.arraylength hx A.1 (State.isArrayOf_alike hZ.alike A.2.1) (g := mkF m pc L (.ref a :: S)) rfl rfl (hb hby hd) t ?_
  have e : cl.slots.size = vs.length := by rw [← r]; simp
  rw [e]; exact z
theorem Sit.iaload {x v : Int32} (h : Sit p l e R s m args below meth c bs st n0 cells slots P pc L (.int x :: .ref a :: S)) (hZ : Z.Warmed39 s.vm) (hx0 : 0 ≤ x.toInt) (hP : ∀ hh, P hh → ∃ vs, AV Z hh a .int vs ∧ vs[x.toNatClampNeg]? = some (.int v)) (hd : decode bs pc = .ok (.iaload, 1)) (hp : pc + 1 = pc') : Sit p l e R s m args below meth c bs st n0 cells slots P pc' L (.int v :: S) := by
  subst hp
  refine h.go fun T _ _ _ X hx hby hT t z => ?_
  obtain ⟨vs, ⟨cl, A, r⟩, q⟩ := hP _ hT
  exact X.iaload hx A.1 (State.isArrayOf_alike hZ.alike A.2.1) A.2.2 (AV.inb hx0 r (List.getElem?_eq_some_iff.mp q).1) (by subst r; simpa using q) (g := mkF m pc L (.int x :: .ref a :: S)) rfl rfl (hb hby hd) t z
theorem Sit.laload {x : Int32} {v : Int64} (h : Sit p l e R s m args below meth c bs st n0 cells slots P pc L (.int x :: .ref a :: S)) (hZ : Z.Warmed39 s.vm) (hx0 : 0 ≤ x.toInt) (hP : ∀ hh, P hh → ∃ vs, AV Z hh a .long vs ∧ vs[x.toNatClampNeg]? = some (.long v)) (hd : decode bs pc = .ok (.laload, 1)) (hp : pc + 1 = pc') : Sit p l e R s m args below meth c bs st n0 cells slots P pc' L (.long v :: S) := by
  subst hp
  refine h.go fun T _ _ _ X hx hby hT t z => ?_
  obtain ⟨vs, ⟨cl, A, r⟩, q⟩ := hP _ hT
  exact X.laload hx A.1 (State.isArrayOf_alike hZ.alike A.2.1) A.2.2 (AV.inb hx0 r (List.getElem?_eq_some_iff.mp q).1) (by subst r; simpa using q) (g := mkF m pc L (.int x :: .ref a :: S)) rfl rfl (hb hby hd) t z
theorem Sit.baload {x v : Int32} (h : Sit p l e R s m args below meth c bs st n0 cells slots P pc L (.int x :: .ref a :: S)) (hZ : Z.Warmed39 s.vm) (hx0 : 0 ≤ x.toInt) (hP : ∀ hh, P hh → ∃ vs, AV Z hh a .byte vs ∧ vs[x.toNatClampNeg]? = some (.int v)) (hd : decode bs pc = .ok (.baload, 1)) (hp : pc + 1 = pc') : Sit p l e R s m args below meth c bs st n0 cells slots P pc' L (.int v :: S) := by
  subst hp
  refine h.go fun T _ _ _ X hx hby hT t z => ?_
  obtain ⟨vs, ⟨cl, A, r⟩, q⟩ := hP _ hT
  exact X.baloadBytes hx A.1 (State.isArrayOf_alike hZ.alike A.2.1) A.2.2 (AV.inb hx0 r (List.getElem?_eq_some_iff.mp q).1) (by subst r; simpa using q) (g := mkF m pc L (.int x :: .ref a :: S)) rfl rfl (hb hby hd) t z
/-- a step that writes one slot of a new cell -/
theorem Sit.wr {sl : Nat} (h : Sit p l e R s m args below meth c bs st n0 cells slots P pc L S) (ha : n0 ≤ a) (hP' : ∀ hh hh', P hh → Wr hh hh' a sl v → P' hh')
    (f : ∀ T locs k n, Stand p l e R s m args below meth c T locs k n → p.tables.exec = Jvm.exec → c.code = bs → P T.heap → ∃ T' h', Stand p l e R s m args below meth c T' (locs ++ [⟨a, sl⟩]) k n ∧ T'.heap = h' ∧ Wr T.heap h' a sl v ∧ ∀ t, Steps p.tables e below (T'.setTop (mkF m pc' L' S')) t → Steps p.tables e below (T.setTop (mkF m pc L S)) t) :
    Sit p l e R s m args below meth c bs st n0 cells slots P' pc' L' S' := by
  obtain ⟨T, locs, k, n, X, q1, q2, q3, q4, q5, hx, hby, q⟩ := h
  obtain ⟨T', h', X', rfl, hW, stp⟩ := f T locs k n X hx hby q5
  exact ⟨T', _, k, n, X', q1, q2, Fr.snoc X' q3 ha, q4, hP' _ _ q5 hW, hx, hby, fun t z => q t (stp t z)⟩
theorem Sit.iastore {x i : Int32} (h : Sit p l e R s m args below meth c bs st n0 cells slots P pc L (.int x :: .int i :: .ref a :: S)) (hZ : Z.Warmed39 s.vm) (ha : n0 ≤ a) (hx0 : 0 ≤ i.toInt) (hP : ∀ hh, P hh → ∃ vs, AV Z hh a .int vs ∧ i.toNatClampNeg < vs.length) (hP' : ∀ hh hh', P hh → Wr hh hh' a i.toNatClampNeg (.int x) → P' hh') (hd : decode bs pc = .ok (.iastore, 1)) (hp : pc + 1 = pc') : Sit p l e R s m args below meth c bs st n0 cells slots P' pc' L S := by
  subst hp
  refine h.wr ha hP' fun T _ _ _ X hx hby hT => ?_
  obtain ⟨vs, ⟨cl, A, r⟩, q⟩ := hP _ hT
  exact stI X hx hZ rfl A (j := i) (AV.inb hx0 r q) (g := mkF m pc L (.int x :: .int i :: .ref a :: S)) rfl rfl (hb hby hd)
theorem Sit.lastore {x : Int64} {i : Int32} (h : Sit p l e R s m args below meth c bs st n0 cells slots P pc L (.long x :: .int i :: .ref a :: S)) (hZ : Z.Warmed39 s.vm) (ha : n0 ≤ a) (hx0 : 0 ≤ i.toInt) (hP : ∀ hh, P hh → ∃ vs, AV Z hh a .long vs ∧ i.toNatClampNeg < vs.length) (hP' : ∀ hh hh', P hh → Wr hh hh' a i.toNatClampNeg (.long x) → P' hh') (hd : decode bs pc = .ok (.lastore, 1)) (hp : pc + 1 = pc') : Sit p l e R s m args below meth c bs st n0 cells slots P' pc' L S := by
  subst hp
  refine h.wr ha hP' fun T _ _ _ X hx hby hT => ?_
  obtain ⟨vs, ⟨cl, A, r⟩, q⟩ := hP _ hT
  exact stJ X hx hZ rfl A (j := i) (AV.inb hx0 r q) (g := mkF m pc L (.long x :: .int i :: .ref a :: S)) rfl rfl (hb hby hd)
theorem Sit.bastore {x i : Int32} (h : Sit p l e R s m args below meth c bs st n0 cells slots P pc L (.int x :: .int i :: .ref a :: S)) (hZ : Z.Warmed39 s.vm) (ha : n0 ≤ a) (hx0 : 0 ≤ i.toInt) (hP : ∀ hh, P hh → ∃ vs, AV Z hh a .byte vs ∧ i.toNatClampNeg < vs.length) (hP' : ∀ hh hh', P hh → Wr hh hh' a i.toNatClampNeg (.int x.toInt8.toInt32) → P' hh') (hd : decode bs pc = .ok (.bastore, 1)) (hp : pc + 1 = pc') : Sit p l e R s m args below meth c bs st n0 cells slots P' pc' L S := by
  subst hp
  refine h.wr ha hP' fun T _ _ _ X hx hby hT => ?_
  obtain ⟨vs, ⟨cl, A, r⟩, q⟩ := hP _ hT
  exact stB X hx hZ rfl A (j := i) (AV.inb hx0 r q) (g := mkF m pc L (.int x :: .int i :: .ref a :: S)) rfl rfl (hb hby hd)
/-- a step that makes one cell -/
theorem Sit.mk1 {d : Nat} {F : Addr → Heap → Heap → Prop} {P' : Addr → Heap → Prop} {S' : Addr → List Value} (h : Sit p l e R s m args below meth c bs st n0 cells slots P pc L S) (hP' : ∀ hh hh' a, P hh → a = hh.size → Ext hh hh' → F a hh hh' → P' a hh')
    (f : ∀ T locs k n, Stand p l e R s m args below meth c T locs k n → k ≤ cells → n ≤ slots → p.tables.exec = Jvm.exec → c.code = bs → P T.heap → ∃ T' h', Stand p l e R s m args below meth c T' locs (k + 1) (n + d) ∧ T'.heap = h' ∧ Ext T.heap h' ∧ F T.heap.size T.heap h' ∧ ∀ t, Steps p.tables e below (T'.setTop (mkF m pc' L' (S' T.heap.size))) t → Steps p.tables e below (T.setTop (mkF m pc L S)) t) :
    ∃ a, n0 ≤ a ∧ Sit p l e R s m args below meth c bs st n0 (cells + 1) (slots + d) (P' a) pc' L' (S' a) := by
  obtain ⟨T, locs, k, n, X, q1, q2, q3, q4, q5, hx, hby, q⟩ := h
  obtain ⟨T', h', X', rfl, hE, hF, stp⟩ := f T locs k n X q1 q2 hx hby q5
  exact ⟨T.heap.size, Nat.le_trans q4 X.same.2.1, T', _, _, _, X', Nat.add_le_add_right q1 _, Nat.add_le_add_right q2 _, q3, q4, hP' _ _ _ q5 rfl hE hF, hx, hby, fun t z => q t (stp t z)⟩
theorem Sit.newarr {n : Int32} {aty : ArrayType} {P' : Addr → Heap → Prop} (cap : Nat) (h : Sit p l e R s m args below meth c bs st n0 cells slots P pc L (.int n :: S)) (hZ : Z.Warmed39 s.vm) (w : (Cond.arrayClass (newarray.typeOf aty)).before a0 Z = true) (hn : 0 ≤ n.toInt) (hcap : n.toNatClampNeg ≤ cap) (hB : cap * 8 ≤ 536870912) (hc : cells + 1 ≤ R.cells) (hl : slots + cap ≤ R.slots)
    (hP' : ∀ hh hh' a, P hh → a = hh.size → Ext hh hh' → AV Z hh' a (newarray.typeOf aty) (List.replicate n.toNatClampNeg (defaultValue (newarray.typeOf aty))) → P' a hh') (hd : decode bs pc = .ok (.newarray aty, 2)) (hp : pc + 2 = pc') : ∃ a, n0 ≤ a ∧ Sit p l e R s m args below meth c bs st n0 (cells + 1) (slots + cap) (P' a) pc' L (.ref a :: S) := by
  subst hp
  refine h.mk1 (F := fun a _ hh' => AV Z hh' a (newarray.typeOf aty) (List.replicate n.toNatClampNeg (defaultValue (newarray.typeOf aty)))) (S' := fun a => .ref a :: S) hP' fun T locs k i X q1 q2 hx hby hT => ?_
  obtain ⟨T', h', cA, X', e', E', A', st'⟩ := newP X hx hZ w rfl (g := mkF m pc L (.int n :: S)) rfl (hb hby hd) rfl (nlt0 hn) hcap hB (Nat.le_trans (Nat.add_le_add_right q1 1) hc) (Nat.le_trans (Nat.add_le_add_right q2 cap) hl)
  exact ⟨T', h', X', e', E', AV.new A', st'⟩
theorem neN {a b : Nat} (h : a ≠ b) : a ≠ b := h
end OwnHeap


def uF (c1 c2 c3 c4 : Int) : Int :=
  if c1 < 192 ∨ 248 ≤ c1 then -1
  else if c2 < 128 ∨ 191 < c2 then -1
  else if c1 < 224 then (if (c1 - 192) * 64 + (c2 - 128) < 128 then -1 else (c1 - 192) * 64 + (c2 - 128))
  else if c3 < 128 ∨ 191 < c3 then -1
  else if c1 < 240 then (if (c1 - 224) * 4096 + (c2 - 128) * 64 + (c3 - 128) < 2048 then -1
    else if 55296 ≤ (c1 - 224) * 4096 + (c2 - 128) * 64 + (c3 - 128) ∧ (c1 - 224) * 4096 + (c2 - 128) * 64 + (c3 - 128) ≤ 57343 then -1
    else (c1 - 224) * 4096 + (c2 - 128) * 64 + (c3 - 128))
  else if c4 < 128 ∨ 191 < c4 then -1
  else if (c1 - 240) * 262144 + (c2 - 128) * 4096 + (c3 - 128) * 64 + (c4 - 128) < 65536 ∨ 1114111 < (c1 - 240) * 262144 + (c2 - 128) * 4096 + (c3 - 128) * 64 + (c4 - 128) then -1
  else (c1 - 240) * 262144 + (c2 - 128) * 4096 + (c3 - 128) * 64 + (c4 - 128)
theorem res_of {z : Int32} {n : Int} (h : z.toInt = n) : (some (Value.int z) : Option Value) = some (.int (Int32.ofInt n)) := by rw [← h, Int32.ofInt_toInt]
theorem m1 : (-1 : Int32).toInt = -1 := rfl
theorem and255 (x : Int32) : (x &&& (255 : Int32)).toInt = x.toInt % 256 := c_mask x 255 8 (by decide) (by decide)
theorem cont_iff64 : ∀ n : Fin 256, ((Int32.ofNat n.val &&& (192 : Int32)) = (128 : Int32)) ↔ (128 ≤ n.val ∧ n.val ≤ 191) := by decide +kernel
theorem of_small {x : Int32} {n : Nat} (h : x.toInt = (n : Int)) : x = Int32.ofNat n := by
  have := rng32 x
  apply Int32.toInt_inj.mp
  rw [h, Int32.toInt_ofNat_of_lt (by omega)]
theorem cont_iff {x : Int32} (h0 : 0 ≤ x.toInt) (h1 : x.toInt < 256) : ((x &&& (192 : Int32)) = (128 : Int32)) ↔ (128 ≤ x.toInt ∧ x.toInt ≤ 191) := by
  obtain ⟨n, hn⟩ : ∃ n : Nat, x.toInt = (n : Int) := ⟨x.toInt.toNat, by omega⟩
  have q := cont_iff64 ⟨n, by omega⟩
  rw [← of_small hn] at q
  rw [q]; simp only []; omega
theorem nat_of_int {x : Int32} (h : 0 ≤ x.toInt) : x.toBitVec.toNat = x.toInt.toNat := by
  have e : x.toInt = x.toBitVec.toInt := rfl
  rw [e] at h ⊢
  rw [BitVec.toInt_eq_toNat_cond] at h ⊢
  have := x.toBitVec.isLt
  split at h <;> split <;> omega
theorem int_of_nat {x : Int32} {n : Nat} (h : x.toBitVec.toNat = n) (q : n < 2147483648) : x.toInt = (n : Int) := by
  have e : x.toInt = x.toBitVec.toInt := rfl
  rw [e, BitVec.toInt_eq_toNat_cond, h]
  split <;> omega
theorem or_add {x y : Int32} (k a : Nat) (hx : x.toInt = ((2 ^ k * a : Nat) : Int)) (h0 : 0 ≤ y.toInt) (hy : y.toInt < ((2 ^ k : Nat) : Int)) (hs : x.toInt + y.toInt < 2147483648) : (x ||| y).toInt = x.toInt + y.toInt := by
  have e1 := nat_of_int (x := x) (by omega)
  have e2 := nat_of_int h0
  have e3 : (x ||| y).toBitVec.toNat = x.toInt.toNat + y.toInt.toNat := by
    show (x.toBitVec ||| y.toBitVec).toNat = _
    rw [BitVec.toNat_or, e1, e2]
    have e4 : x.toInt.toNat = 2 ^ k * a := by omega
    rw [e4, Nat.two_pow_add_eq_or_of_lt (by omega)]
  rw [int_of_nat e3 (by omega)]; omega
theorem shl_of {x q : Int32} (k : Nat) (hk : q.toBitVec.toNat % 32 = k) (h0 : 0 ≤ x.toInt) (hs : x.toInt * ((2 ^ k : Nat) : Int) < 2147483648) : (x <<< (q &&& 31)).toInt = x.toInt * ((2 ^ k : Nat) : Int) := by
  have h := c_ishl x q k hk
  have r := rng32 (x <<< (q &&& 31))
  have p : 0 ≤ x.toInt * ((2 ^ k : Nat) : Int) := Int.mul_nonneg h0 (Int.natCast_nonneg _)
  generalize x.toInt * ((2 ^ k : Nat) : Int) = z at *
  omega
theorem two_val {x y : Int32} (h1 : 192 ≤ x.toInt) (h2 : x.toInt < 224) (h3 : 128 ≤ y.toInt) (h4 : y.toInt ≤ 191) : (((x &&& (31 : Int32)) <<< ((6 : Int32) &&& 31)) ||| (y &&& (63 : Int32))).toInt = (x.toInt - 192) * 64 + (y.toInt - 128) := by
  have a1 : (x &&& (31 : Int32)).toInt = x.toInt % 32 := c_mask x 31 5 (by decide) (by decide)
  have a2 : (y &&& (63 : Int32)).toInt = y.toInt % 64 := c_mask y 63 6 (by decide) (by decide)
  have b1 := shl_of (x := x &&& (31 : Int32)) (q := 6) 6 (by decide) (by omega) (by simp only [Nat.reducePow]; omega)
  simp only [Nat.reducePow] at b1
  rw [or_add 6 (x.toInt - 192).toNat (by simp only [Nat.reducePow]; omega) (by omega) (by simp only [Nat.reducePow]; omega) (by omega)]
  omega
theorem three_val {x y w : Int32} (h1 : 224 ≤ x.toInt) (h2 : x.toInt < 240) (h3 : 128 ≤ y.toInt) (h4 : y.toInt ≤ 191) (h5 : 128 ≤ w.toInt) (h6 : w.toInt ≤ 191) :
    ((((x &&& (15 : Int32)) <<< ((12 : Int32) &&& 31)) ||| ((y &&& (63 : Int32)) <<< ((6 : Int32) &&& 31))) ||| (w &&& (63 : Int32))).toInt = (x.toInt - 224) * 4096 + (y.toInt - 128) * 64 + (w.toInt - 128) := by
  have a1 : (x &&& (15 : Int32)).toInt = x.toInt % 16 := c_mask x 15 4 (by decide) (by decide)
  have a2 : (y &&& (63 : Int32)).toInt = y.toInt % 64 := c_mask y 63 6 (by decide) (by decide)
  have a3 : (w &&& (63 : Int32)).toInt = w.toInt % 64 := c_mask w 63 6 (by decide) (by decide)
  have b1 := shl_of (x := x &&& (15 : Int32)) (q := 12) 12 (by decide) (by omega) (by simp only [Nat.reducePow]; omega)
  have b2 := shl_of (x := y &&& (63 : Int32)) (q := 6) 6 (by decide) (by omega) (by simp only [Nat.reducePow]; omega)
  simp only [Nat.reducePow] at b1 b2
  have o1 := or_add (x := (x &&& (15 : Int32)) <<< ((12 : Int32) &&& 31)) (y := (y &&& (63 : Int32)) <<< ((6 : Int32) &&& 31)) 12 (x.toInt - 224).toNat (by simp only [Nat.reducePow]; omega) (by omega) (by simp only [Nat.reducePow]; omega) (by omega)
  rw [or_add 6 ((x.toInt - 224) * 64 + (y.toInt - 128)).toNat (by simp only [Nat.reducePow]; omega) (by omega) (by simp only [Nat.reducePow]; omega) (by omega)]
  omega
theorem four_val {x y w z : Int32} (h1 : 240 ≤ x.toInt) (h2 : x.toInt < 248) (h3 : 128 ≤ y.toInt) (h4 : y.toInt ≤ 191) (h5 : 128 ≤ w.toInt) (h6 : w.toInt ≤ 191) (h7 : 128 ≤ z.toInt) (h8 : z.toInt ≤ 191) :
    (((((x &&& (7 : Int32)) <<< ((18 : Int32) &&& 31)) ||| ((y &&& (63 : Int32)) <<< ((12 : Int32) &&& 31))) ||| ((w &&& (63 : Int32)) <<< ((6 : Int32) &&& 31))) ||| (z &&& (63 : Int32))).toInt = (x.toInt - 240) * 262144 + (y.toInt - 128) * 4096 + (w.toInt - 128) * 64 + (z.toInt - 128) := by
  have a1 : (x &&& (7 : Int32)).toInt = x.toInt % 8 := c_mask x 7 3 (by decide) (by decide)
  have a2 : (y &&& (63 : Int32)).toInt = y.toInt % 64 := c_mask y 63 6 (by decide) (by decide)
  have a3 : (w &&& (63 : Int32)).toInt = w.toInt % 64 := c_mask w 63 6 (by decide) (by decide)
  have a4 : (z &&& (63 : Int32)).toInt = z.toInt % 64 := c_mask z 63 6 (by decide) (by decide)
  have b1 := shl_of (x := x &&& (7 : Int32)) (q := 18) 18 (by decide) (by omega) (by simp only [Nat.reducePow]; omega)
  have b2 := shl_of (x := y &&& (63 : Int32)) (q := 12) 12 (by decide) (by omega) (by simp only [Nat.reducePow]; omega)
  have b3 := shl_of (x := w &&& (63 : Int32)) (q := 6) 6 (by decide) (by omega) (by simp only [Nat.reducePow]; omega)
  simp only [Nat.reducePow] at b1 b2 b3
  have o1 := or_add (x := (x &&& (7 : Int32)) <<< ((18 : Int32) &&& 31)) (y := (y &&& (63 : Int32)) <<< ((12 : Int32) &&& 31)) 18 (x.toInt - 240).toNat (by simp only [Nat.reducePow]; omega) (by omega) (by simp only [Nat.reducePow]; omega) (by omega)
  have o2 := or_add (x := ((x &&& (7 : Int32)) <<< ((18 : Int32) &&& 31)) ||| ((y &&& (63 : Int32)) <<< ((12 : Int32) &&& 31))) (y := (w &&& (63 : Int32)) <<< ((6 : Int32) &&& 31)) 12 ((x.toInt - 240) * 64 + (y.toInt - 128)).toNat (by simp only [Nat.reducePow]; omega) (by omega) (by simp only [Nat.reducePow]; omega) (by omega)
  rw [or_add 6 ((x.toInt - 240) * 4096 + (y.toInt - 128) * 64 + (w.toInt - 128)).toNat (by simp only [Nat.reducePow]; omega) (by omega) (by simp only [Nat.reducePow]; omega) (by omega)]
  omega
theorem add_small {x : Int32} {n : Nat} (k : Int32) (j : Nat) (hk : k.toInt = (j : Int)) (h : x.toInt = (n : Int)) (q : n + j < 1000) : (x + k).toInt = ((n + j : Nat) : Int) := by
  have a := c_iadd x k
  have r := rng32 (x + k)
  omega
def CI (x : Int32) : Prop := (x &&& (192 : Int32)).toInt = (128 : Int) ↔ (128 ≤ x.toInt ∧ x.toInt ≤ 191)
theorem ci_of {x : Int32} (h0 : 0 ≤ x.toInt) (h1 : x.toInt < 256) : CI x := by
  have q := cont_iff h0 h1
  rw [← Int32.toInt_inj] at q
  exact q
theorem sub_c {x : Int32} (k : Int32) (n : Int) (hk : k.toInt = n) (h : 0 ≤ x.toInt - n ∧ x.toInt - n < 2147483648) : (x - k).toInt = x.toInt - n := by
  have a := c_isub x k
  have r := rng32 (x - k)
  rw [hk] at a
  omega
theorem mul_c {x : Int32} (k : Int32) (n : Int) (hk : k.toInt = n) (h : 0 ≤ x.toInt * n ∧ x.toInt * n < 2147483648) : (x * k).toInt = x.toInt * n := by
  have a := c_imul x k
  have r := rng32 (x * k)
  rw [hk] at a
  generalize x.toInt * n = z at *
  omega
theorem add_c {x y : Int32} (h : 0 ≤ x.toInt + y.toInt ∧ x.toInt + y.toInt < 2147483648) : (x + y).toInt = x.toInt + y.toInt := by
  have a := c_iadd x y
  have r := rng32 (x + y)
  omega
def ovF (a b : Int) : Int32 := if (a = 224 ∧ b < 160) ∨ (a = 240 ∧ b < 144) then 1 else 0
def byF (a b : Int) : Int32 := if (a = 237 ∧ 159 < b) ∨ (a = 244 ∧ 143 < b) then 1 else 0
theorem ov1 {a b : Int} {z : Int32} (e : z = ovF a b) (h : z.toInt ≠ 0) : (a = 224 ∧ b < 160) ∨ (a = 240 ∧ b < 144) := by
  apply Decidable.byContradiction; intro k
  apply h; rw [e, ovF, if_neg k]; rfl
theorem ov0 {a b : Int} {z : Int32} (e : z = ovF a b) (h : ¬ z.toInt ≠ 0) : ¬ ((a = 224 ∧ b < 160) ∨ (a = 240 ∧ b < 144)) := by
  intro k; apply h; rw [e, ovF, if_pos k]; decide
theorem by1 {a b : Int} {z : Int32} (e : z = byF a b) (h : z.toInt ≠ 0) : (a = 237 ∧ 159 < b) ∨ (a = 244 ∧ 143 < b) := by
  apply Decidable.byContradiction; intro k
  apply h; rw [e, byF, if_neg k]; rfl
theorem by0 {a b : Int} {z : Int32} (e : z = byF a b) (h : ¬ z.toInt ≠ 0) : ¬ ((a = 237 ∧ 159 < b) ∨ (a = 244 ∧ 143 < b)) := by
  intro k; apply h; rw [e, byF, if_pos k]; decide
theorem n22 {a b c d : Int} (h : a < 194) : uF a b c d = -1 := by
  unfold uF
  by_cases h1 : a < 192 ∨ 248 ≤ a
  · exact if_pos h1
  rw [if_neg h1]
  by_cases h2 : b < 128 ∨ 191 < b
  · exact if_pos h2
  rw [if_neg h2, if_pos (by omega), if_pos (by omega)]
theorem n29 {a b c d : Int} (h : 244 < a) : uF a b c d = -1 := by
  unfold uF
  by_cases h1 : a < 192 ∨ 248 ≤ a
  · exact if_pos h1
  rw [if_neg h1]
  by_cases h2 : b < 128 ∨ 191 < b
  · exact if_pos h2
  rw [if_neg h2, if_neg (by omega)]
  by_cases h3 : c < 128 ∨ 191 < c
  · exact if_pos h3
  rw [if_neg h3, if_neg (by omega)]
  by_cases h4 : d < 128 ∨ 191 < d
  · exact if_pos h4
  rw [if_neg h4, if_pos (by omega)]
theorem n40 {a b c d : Int} (h : ¬ (128 ≤ b ∧ b ≤ 191)) : uF a b c d = -1 := by
  unfold uF
  by_cases h1 : a < 192 ∨ 248 ≤ a
  · exact if_pos h1
  rw [if_neg h1, if_pos (by omega)]
theorem n3 {a b c d : Int} (g : 224 ≤ a) (h : ¬ (128 ≤ c ∧ c ≤ 191)) : uF a b c d = -1 := by
  unfold uF
  by_cases h1 : a < 192 ∨ 248 ≤ a
  · exact if_pos h1
  rw [if_neg h1]
  by_cases h2 : b < 128 ∨ 191 < b
  · exact if_pos h2
  rw [if_neg h2, if_neg (by omega), if_pos (by omega)]
theorem n4 {a b c d : Int} (g : 240 ≤ a) (h : ¬ (128 ≤ d ∧ d ≤ 191)) : uF a b c d = -1 := by
  unfold uF
  by_cases h1 : a < 192 ∨ 248 ≤ a
  · exact if_pos h1
  rw [if_neg h1]
  by_cases h2 : b < 128 ∨ 191 < b
  · exact if_pos h2
  rw [if_neg h2, if_neg (by omega)]
  by_cases h3 : c < 128 ∨ 191 < c
  · exact if_pos h3
  rw [if_neg h3, if_neg (by omega), if_pos (by omega)]
theorem nov {a b c d : Int} (h : (a = 224 ∧ b < 160) ∨ (a = 240 ∧ b < 144)) : uF a b c d = -1 := by
  unfold uF
  by_cases h1 : a < 192 ∨ 248 ≤ a
  · exact if_pos h1
  rw [if_neg h1]
  by_cases h2 : b < 128 ∨ 191 < b
  · exact if_pos h2
  rw [if_neg h2, if_neg (by omega)]
  by_cases h3 : c < 128 ∨ 191 < c
  · exact if_pos h3
  rw [if_neg h3]
  rcases h with h | h
  · rw [if_pos (by omega), if_pos (by omega)]
  · rw [if_neg (by omega)]
    by_cases h4 : d < 128 ∨ 191 < d
    · exact if_pos h4
    rw [if_neg h4, if_pos (by omega)]
theorem nby {a b c d : Int} (h : (a = 237 ∧ 159 < b) ∨ (a = 244 ∧ 143 < b)) : uF a b c d = -1 := by
  unfold uF
  by_cases h1 : a < 192 ∨ 248 ≤ a
  · exact if_pos h1
  rw [if_neg h1]
  by_cases h2 : b < 128 ∨ 191 < b
  · exact if_pos h2
  rw [if_neg h2, if_neg (by omega)]
  by_cases h3 : c < 128 ∨ 191 < c
  · exact if_pos h3
  rw [if_neg h3]
  rcases h with h | h
  · rw [if_pos (by omega), if_neg (by omega), if_pos (by omega)]
  · rw [if_neg (by omega)]
    by_cases h4 : d < 128 ∨ 191 < d
    · exact if_pos h4
    rw [if_neg h4, if_pos (by omega)]
theorem u2 {a b c d : Int} (h1 : ¬ a < 194) (h2 : ¬ 224 ≤ a) (h3 : 128 ≤ b ∧ b ≤ 191) : uF a b c d = (a - 192) * 64 + (b - 128) := by
  unfold uF
  rw [if_neg (by omega), if_neg (by omega), if_pos (by omega), if_neg (by omega)]
theorem u3 {a b c d : Int} (h1 : 224 ≤ a) (h2 : ¬ 240 ≤ a) (h3 : 128 ≤ b ∧ b ≤ 191) (h4 : 128 ≤ c ∧ c ≤ 191) (h5 : ¬ ((a = 224 ∧ b < 160) ∨ (a = 240 ∧ b < 144))) (h6 : ¬ ((a = 237 ∧ 159 < b) ∨ (a = 244 ∧ 143 < b))) : uF a b c d = (a - 224) * 4096 + (b - 128) * 64 + (c - 128) := by
  unfold uF
  rw [if_neg (by omega), if_neg (by omega), if_neg (by omega), if_neg (by omega), if_pos (by omega), if_neg (by omega), if_neg (by omega)]
theorem u4 {a b c d : Int} (h1 : 240 ≤ a) (h2 : ¬ 244 < a) (h3 : 128 ≤ b ∧ b ≤ 191) (h4 : 128 ≤ c ∧ c ≤ 191) (h7 : 128 ≤ d ∧ d ≤ 191) (h5 : ¬ ((a = 224 ∧ b < 160) ∨ (a = 240 ∧ b < 144))) (h6 : ¬ ((a = 237 ∧ 159 < b) ∨ (a = 244 ∧ 143 < b))) : uF a b c d = (a - 240) * 262144 + (b - 128) * 4096 + (c - 128) * 64 + (d - 128) := by
  unfold uF
  rw [if_neg (by omega), if_neg (by omega), if_neg (by omega), if_neg (by omega), if_neg (by omega), if_neg (by omega), if_neg (by omega)]
def ctF (x : Int32) : Int32 := if 128 ≤ x.toInt ∧ x.toInt ≤ 191 then 1 else 0


theorem c1_rng (x : Int32) : 128 ≤ ((128 : Int32) ||| (x &&& (127 : Int32))).toInt ∧ ((128 : Int32) ||| (x &&& (127 : Int32))).toInt < 256 := by
  have h : (x &&& (127 : Int32)).toInt = x.toInt % 128 := c_mask x 127 7 (by decide) (by decide)
  have e : (128 : Int32).toInt = 128 := rfl
  rw [or_add 7 1 (by decide) (by omega) (by simp only [Nat.reducePow]; omega) (by omega)]
  omega
theorem byte_back {x : Int32} (h0 : 0 ≤ x.toInt) (h1 : x.toInt < 256) : (x.toInt8.toInt32.toInt8.toInt32 &&& (255 : Int32)).toInt = x.toInt := by
  rw [and255]
  have a := c_i2b x
  have b := c_i2b x.toInt8.toInt32
  omega

theorem pd_0 : parseMethodDescriptor "(I)Z" = some ⟨[.int], some .boolean⟩ := by decide +kernel
theorem pd_1 : parseMethodDescriptor "([BI)I" = some ⟨[(.array .byte), .int], some .int⟩ := by decide +kernel
theorem pd_2 : parseMethodDescriptor "(IIII)I" = some ⟨[.int, .int, .int, .int], some .int⟩ := by decide +kernel
theorem pn_rmC : plainName "com/example/schema_on_the_wire/schemaonthewire/io/TextStreamUtf8PointPinLaw" = true := by first | (simp [plainName, overriddenIn]; done) | decide +kernel
theorem d3_0 : decode method_3_code 0 = .ok (.iload_n 0, 1) := by decide +kernel
theorem d3_1 : decode method_3_code 1 = .ok (.sipush 128, 3) := by decide +kernel
theorem d3_4 : decode method_3_code 4 = .ok (.if_icmp .lt 14, 3) := by decide +kernel
theorem d3_7 : decode method_3_code 7 = .ok (.iload_n 0, 1) := by decide +kernel
theorem d3_8 : decode method_3_code 8 = .ok (.sipush 191, 3) := by decide +kernel
theorem d3_11 : decode method_3_code 11 = .ok (.if_icmp .gt 7, 3) := by decide +kernel
theorem d3_14 : decode method_3_code 14 = .ok (.iconst 1, 1) := by decide +kernel
theorem d3_15 : decode method_3_code 15 = .ok (.goto 4, 3) := by decide +kernel
theorem d3_18 : decode method_3_code 18 = .ok (.iconst 0, 1) := by decide +kernel
theorem d3_19 : decode method_3_code 19 = .ok (.ireturn, 1) := by decide +kernel
theorem ef_rmC (m : MethodId) (q : Int32) : entryFrame m #[(.int q)] 1 = mkF m 0 #[.val (.int q)] [] := by first | (simp [entryFrame, mkF, argsToLocals, Value.category]; done) | rfl
set_option maxRecDepth 65536 in
set_option maxHeartbeats 40000000 in
theorem rmC (l : Launch) (Z : State) (a0 : Array Value) (hw : ∀ d ∈ tables_1, d.before a0 Z = true) (wcs : List Jvm.Cond) (q : Int32)  (h0 : Heap) (n0 : Nat) (Z0 : n0 ≤ h0.size)  : Met1 l (⟨"com/example/schema_on_the_wire/schemaonthewire/io/TextStreamUtf8PointPinLaw", "cont", "(I)Z"⟩ : MethodName) method_3_code 1 (some .boolean) wcs ({ frames := 0, cells := 0, slots := 0, locals := 0 } : Room) Z #[(.int q)] h0 n0 (fun v hh => v = some (.int (ctF q)) ∧ hh = h0) := by
  refine Met1.of (L0 := #[.val (.int q)]) (plainFor_of_name pn_rmC) (fun m => ef_rmC m q) Z0 ?_
  intro p e s m below meth c st s0 hZ hown hret hlk hnm hml
  have s1 : Sit p l e _ s m _ below meth c _ st n0 0 0 _ 4 #[.val (.int q)] [(.int (128 : Int32)), (.int q)] := s0
    |>.iloadN d3_0 rfl rfl
    |>.sipush (128 : Int32) d3_1 rfl rfl
  by_cases cnd2 : q.toInt < (128 : Int)
  · have s3 : Sit p l e _ s m _ below meth c _ st n0 0 0 _ 19 #[.val (.int q)] [(.int (0 : Int32))] := s1
      |>.icmpY d3_4 (cmpT (cd := .lt) cnd2) (by decide) (by decide)
      |>.iconst (0 : Int32) d3_18 rfl rfl
    exact s3.retZ d3_19 hret hlk (fun hh hP => ⟨congrArg (fun t => some (Value.int t)) (by rw [ctF]; exact (if_neg (by omega)).symm), hP⟩)
  · have s4 : Sit p l e _ s m _ below meth c _ st n0 0 0 _ 11 #[.val (.int q)] [(.int (191 : Int32)), (.int q)] := s1
      |>.icmpN d3_4 (cmpF (cd := .lt) cnd2) rfl
      |>.iloadN d3_7 rfl rfl
      |>.sipush (191 : Int32) d3_8 rfl rfl
    by_cases cnd5 : q.toInt > (191 : Int)
    · have s6 : Sit p l e _ s m _ below meth c _ st n0 0 0 _ 19 #[.val (.int q)] [(.int (0 : Int32))] := s4
        |>.icmpY d3_11 (cmpT (cd := .gt) cnd5) (by decide) (by decide)
        |>.iconst (0 : Int32) d3_18 rfl rfl
      exact s6.retZ d3_19 hret hlk (fun hh hP => ⟨congrArg (fun t => some (Value.int t)) (by rw [ctF]; exact (if_neg (by omega)).symm), hP⟩)
    · have s7 : Sit p l e _ s m _ below meth c _ st n0 0 0 _ 19 #[.val (.int q)] [(.int (1 : Int32))] := s4
        |>.icmpN d3_11 (cmpF (cd := .gt) cnd5) rfl
        |>.iconst (1 : Int32) d3_14 rfl rfl
        |>.goto d3_15 (by decide) (by decide)
      exact s7.retZ d3_19 hret hlk (fun hh hP => ⟨congrArg (fun t => some (Value.int t)) (by rw [ctF]; exact (if_pos (by omega)).symm), hP⟩)
theorem pn_rmE : plainName "com/example/schema_on_the_wire/schemaonthewire/io/TextStreamUtf8PointPinLaw" = true := by first | (simp [plainName, overriddenIn]; done) | decide +kernel
theorem d2_0 : decode method_4_code 0 = .ok (.iconst (-1), 1) := by decide +kernel
theorem d2_1 : decode method_4_code 1 = .ok (.istore 4, 2) := by decide +kernel
theorem d2_3 : decode method_4_code 3 = .ok (.iload_n 0, 1) := by decide +kernel
theorem d2_4 : decode method_4_code 4 = .ok (.sipush 192, 3) := by decide +kernel
theorem d2_7 : decode method_4_code 7 = .ok (.if_icmp .lt 10, 3) := by decide +kernel
theorem d2_10 : decode method_4_code 10 = .ok (.iload_n 0, 1) := by decide +kernel
theorem d2_11 : decode method_4_code 11 = .ok (.sipush 248, 3) := by decide +kernel
theorem d2_14 : decode method_4_code 14 = .ok (.if_icmp .lt 6, 3) := by decide +kernel
theorem d2_17 : decode method_4_code 17 = .ok (.iload 4, 2) := by decide +kernel
theorem d2_19 : decode method_4_code 19 = .ok (.ireturn, 1) := by decide +kernel
theorem d2_20 : decode method_4_code 20 = .ok (.iload_n 1, 1) := by decide +kernel
theorem d2_21 : decode method_4_code 21 = .ok (.invokestatic 19, 3) := by decide +kernel
theorem d2_24 : decode method_4_code 24 = .ok (.ifCond .ne 6, 3) := by decide +kernel
theorem d2_27 : decode method_4_code 27 = .ok (.iload 4, 2) := by decide +kernel
theorem d2_29 : decode method_4_code 29 = .ok (.ireturn, 1) := by decide +kernel
theorem d2_30 : decode method_4_code 30 = .ok (.iload_n 0, 1) := by decide +kernel
theorem d2_31 : decode method_4_code 31 = .ok (.sipush 224, 3) := by decide +kernel
theorem d2_34 : decode method_4_code 34 = .ok (.if_icmp .ge 35, 3) := by decide +kernel
theorem d2_37 : decode method_4_code 37 = .ok (.iload_n 0, 1) := by decide +kernel
theorem d2_38 : decode method_4_code 38 = .ok (.sipush 192, 3) := by decide +kernel
theorem d2_41 : decode method_4_code 41 = .ok (.isub, 1) := by decide +kernel
theorem d2_42 : decode method_4_code 42 = .ok (.bipush 64, 2) := by decide +kernel
theorem d2_44 : decode method_4_code 44 = .ok (.imul, 1) := by decide +kernel
theorem d2_45 : decode method_4_code 45 = .ok (.iload_n 1, 1) := by decide +kernel
theorem d2_46 : decode method_4_code 46 = .ok (.sipush 128, 3) := by decide +kernel
theorem d2_49 : decode method_4_code 49 = .ok (.isub, 1) := by decide +kernel
theorem d2_50 : decode method_4_code 50 = .ok (.iadd, 1) := by decide +kernel
theorem d2_51 : decode method_4_code 51 = .ok (.istore 5, 2) := by decide +kernel
theorem d2_53 : decode method_4_code 53 = .ok (.iload 5, 2) := by decide +kernel
theorem d2_55 : decode method_4_code 55 = .ok (.sipush 128, 3) := by decide +kernel
theorem d2_58 : decode method_4_code 58 = .ok (.if_icmp .ge 8, 3) := by decide +kernel
theorem d2_61 : decode method_4_code 61 = .ok (.iload 4, 2) := by decide +kernel
theorem d2_63 : decode method_4_code 63 = .ok (.goto 5, 3) := by decide +kernel
theorem d2_66 : decode method_4_code 66 = .ok (.iload 5, 2) := by decide +kernel
theorem d2_68 : decode method_4_code 68 = .ok (.ireturn, 1) := by decide +kernel
theorem d2_69 : decode method_4_code 69 = .ok (.iload_n 2, 1) := by decide +kernel
theorem d2_70 : decode method_4_code 70 = .ok (.invokestatic 19, 3) := by decide +kernel
theorem d2_73 : decode method_4_code 73 = .ok (.ifCond .ne 6, 3) := by decide +kernel
theorem d2_76 : decode method_4_code 76 = .ok (.iload 4, 2) := by decide +kernel
theorem d2_78 : decode method_4_code 78 = .ok (.ireturn, 1) := by decide +kernel
theorem d2_79 : decode method_4_code 79 = .ok (.iload_n 0, 1) := by decide +kernel
theorem d2_80 : decode method_4_code 80 = .ok (.sipush 240, 3) := by decide +kernel
theorem d2_83 : decode method_4_code 83 = .ok (.if_icmp .ge 60, 3) := by decide +kernel
theorem d2_86 : decode method_4_code 86 = .ok (.iload_n 0, 1) := by decide +kernel
theorem d2_87 : decode method_4_code 87 = .ok (.sipush 224, 3) := by decide +kernel
theorem d2_90 : decode method_4_code 90 = .ok (.isub, 1) := by decide +kernel
theorem d2_91 : decode method_4_code 91 = .ok (.sipush 4096, 3) := by decide +kernel
theorem d2_94 : decode method_4_code 94 = .ok (.imul, 1) := by decide +kernel
theorem d2_95 : decode method_4_code 95 = .ok (.iload_n 1, 1) := by decide +kernel
theorem d2_96 : decode method_4_code 96 = .ok (.sipush 128, 3) := by decide +kernel
theorem d2_99 : decode method_4_code 99 = .ok (.isub, 1) := by decide +kernel
theorem d2_100 : decode method_4_code 100 = .ok (.bipush 64, 2) := by decide +kernel
theorem d2_102 : decode method_4_code 102 = .ok (.imul, 1) := by decide +kernel
theorem d2_103 : decode method_4_code 103 = .ok (.iadd, 1) := by decide +kernel
theorem d2_104 : decode method_4_code 104 = .ok (.iload_n 2, 1) := by decide +kernel
theorem d2_105 : decode method_4_code 105 = .ok (.sipush 128, 3) := by decide +kernel
theorem d2_108 : decode method_4_code 108 = .ok (.isub, 1) := by decide +kernel
theorem d2_109 : decode method_4_code 109 = .ok (.iadd, 1) := by decide +kernel
theorem d2_110 : decode method_4_code 110 = .ok (.istore 5, 2) := by decide +kernel
theorem d2_112 : decode method_4_code 112 = .ok (.iload 5, 2) := by decide +kernel
theorem d2_114 : decode method_4_code 114 = .ok (.sipush 2048, 3) := by decide +kernel
theorem d2_117 : decode method_4_code 117 = .ok (.if_icmp .ge 6, 3) := by decide +kernel
theorem d2_120 : decode method_4_code 120 = .ok (.iload 4, 2) := by decide +kernel
theorem d2_122 : decode method_4_code 122 = .ok (.ireturn, 1) := by decide +kernel
theorem d2_123 : decode method_4_code 123 = .ok (.iload 5, 2) := by decide +kernel
theorem d2_125 : decode method_4_code 125 = .ok (.ldc 23, 2) := by decide +kernel
theorem d2_127 : decode method_4_code 127 = .ok (.if_icmp .lt 13, 3) := by decide +kernel
theorem d2_130 : decode method_4_code 130 = .ok (.iload 5, 2) := by decide +kernel
theorem d2_132 : decode method_4_code 132 = .ok (.ldc 24, 2) := by decide +kernel
theorem d2_134 : decode method_4_code 134 = .ok (.if_icmp .gt 6, 3) := by decide +kernel
theorem d2_137 : decode method_4_code 137 = .ok (.iload 4, 2) := by decide +kernel
theorem d2_139 : decode method_4_code 139 = .ok (.ireturn, 1) := by decide +kernel
theorem d2_140 : decode method_4_code 140 = .ok (.iload 5, 2) := by decide +kernel
theorem d2_142 : decode method_4_code 142 = .ok (.ireturn, 1) := by decide +kernel
theorem d2_143 : decode method_4_code 143 = .ok (.iload_n 3, 1) := by decide +kernel
theorem d2_144 : decode method_4_code 144 = .ok (.invokestatic 19, 3) := by decide +kernel
theorem d2_147 : decode method_4_code 147 = .ok (.ifCond .ne 6, 3) := by decide +kernel
theorem d2_150 : decode method_4_code 150 = .ok (.iload 4, 2) := by decide +kernel
theorem d2_152 : decode method_4_code 152 = .ok (.ireturn, 1) := by decide +kernel
theorem d2_153 : decode method_4_code 153 = .ok (.iload_n 0, 1) := by decide +kernel
theorem d2_154 : decode method_4_code 154 = .ok (.sipush 240, 3) := by decide +kernel
theorem d2_157 : decode method_4_code 157 = .ok (.isub, 1) := by decide +kernel
theorem d2_158 : decode method_4_code 158 = .ok (.ldc 25, 2) := by decide +kernel
theorem d2_160 : decode method_4_code 160 = .ok (.imul, 1) := by decide +kernel
theorem d2_161 : decode method_4_code 161 = .ok (.iload_n 1, 1) := by decide +kernel
theorem d2_162 : decode method_4_code 162 = .ok (.sipush 128, 3) := by decide +kernel
theorem d2_165 : decode method_4_code 165 = .ok (.isub, 1) := by decide +kernel
theorem d2_166 : decode method_4_code 166 = .ok (.sipush 4096, 3) := by decide +kernel
theorem d2_169 : decode method_4_code 169 = .ok (.imul, 1) := by decide +kernel
theorem d2_170 : decode method_4_code 170 = .ok (.iadd, 1) := by decide +kernel
theorem d2_171 : decode method_4_code 171 = .ok (.iload_n 2, 1) := by decide +kernel
theorem d2_172 : decode method_4_code 172 = .ok (.sipush 128, 3) := by decide +kernel
theorem d2_175 : decode method_4_code 175 = .ok (.isub, 1) := by decide +kernel
theorem d2_176 : decode method_4_code 176 = .ok (.bipush 64, 2) := by decide +kernel
theorem d2_178 : decode method_4_code 178 = .ok (.imul, 1) := by decide +kernel
theorem d2_179 : decode method_4_code 179 = .ok (.iadd, 1) := by decide +kernel
theorem d2_180 : decode method_4_code 180 = .ok (.iload_n 3, 1) := by decide +kernel
theorem d2_181 : decode method_4_code 181 = .ok (.sipush 128, 3) := by decide +kernel
theorem d2_184 : decode method_4_code 184 = .ok (.isub, 1) := by decide +kernel
theorem d2_185 : decode method_4_code 185 = .ok (.iadd, 1) := by decide +kernel
theorem d2_186 : decode method_4_code 186 = .ok (.istore 5, 2) := by decide +kernel
theorem d2_188 : decode method_4_code 188 = .ok (.iload 5, 2) := by decide +kernel
theorem d2_190 : decode method_4_code 190 = .ok (.ldc 26, 2) := by decide +kernel
theorem d2_192 : decode method_4_code 192 = .ok (.if_icmp .lt 10, 3) := by decide +kernel
theorem d2_195 : decode method_4_code 195 = .ok (.iload 5, 2) := by decide +kernel
theorem d2_197 : decode method_4_code 197 = .ok (.ldc 27, 2) := by decide +kernel
theorem d2_199 : decode method_4_code 199 = .ok (.if_icmp .le 6, 3) := by decide +kernel
theorem d2_202 : decode method_4_code 202 = .ok (.iload 4, 2) := by decide +kernel
theorem d2_204 : decode method_4_code 204 = .ok (.ireturn, 1) := by decide +kernel
theorem d2_205 : decode method_4_code 205 = .ok (.iload 5, 2) := by decide +kernel
theorem d2_207 : decode method_4_code 207 = .ok (.ireturn, 1) := by decide +kernel
theorem ef_rmE (m : MethodId) (c1 : Int32) (c2 : Int32) (c3 : Int32) (c4 : Int32) : entryFrame m #[(.int c1), (.int c2), (.int c3), (.int c4)] 6 = mkF m 0 #[.val (.int c1), .val (.int c2), .val (.int c3), .val (.int c4), .unset, .unset] [] := by first | (simp [entryFrame, mkF, argsToLocals, Value.category]; done) | rfl
set_option maxRecDepth 65536 in
set_option maxHeartbeats 40000000 in
theorem rmE (l : Launch) (Z : State) (a0 : Array Value) (hw : ∀ d ∈ tables_1, d.before a0 Z = true) (wcs : List Jvm.Cond) (c1 : Int32) (c2 : Int32) (c3 : Int32) (c4 : Int32)  (h0 : Heap) (n0 : Nat) (Z0 : n0 ≤ h0.size) (r1 : 0 ≤ c1.toInt ∧ c1.toInt < 256) (r2 : 0 ≤ c2.toInt ∧ c2.toInt < 256) (r3 : 0 ≤ c3.toInt ∧ c3.toInt < 256) (r4 : 0 ≤ c4.toInt ∧ c4.toInt < 256) : Met1 l (⟨"com/example/schema_on_the_wire/schemaonthewire/io/TextStreamUtf8PointPinLaw", "expected", "(IIII)I"⟩ : MethodName) method_4_code 6 (some .int) wcs ({ frames := 1, cells := 0, slots := 0, locals := 40 } : Room) Z #[(.int c1), (.int c2), (.int c3), (.int c4)] h0 n0 (fun v hh => v = some (.int (Int32.ofInt (uF c1.toInt c2.toInt c3.toInt c4.toInt))) ∧ hh = h0) := by
  refine Met1.of (L0 := #[.val (.int c1), .val (.int c2), .val (.int c3), .val (.int c4), .unset, .unset]) (plainFor_of_name pn_rmE) (fun m => ef_rmE m c1 c2 c3 c4) Z0 ?_
  intro p e s m below meth c st s0 hZ hown hret hlk hnm hml
  have s1 : Sit p l e _ s m _ below meth c _ st n0 0 0 _ 7 #[.val (.int c1), .val (.int c2), .val (.int c3), .val (.int c4), .val (.int (-1 : Int32)), .unset] [(.int (192 : Int32)), (.int c1)] := s0
    |>.iconst (-1 : Int32) d2_0 rfl rfl
    |>.istore #[.val (.int c1), .val (.int c2), .val (.int c3), .val (.int c4), .val (.int (-1 : Int32)), .unset] d2_1 rfl rfl
    |>.iloadN d2_3 rfl rfl
    |>.sipush (192 : Int32) d2_4 rfl rfl
  by_cases cnd2 : c1.toInt < (192 : Int)
  · have s3 : Sit p l e _ s m _ below meth c _ st n0 0 0 _ 19 #[.val (.int c1), .val (.int c2), .val (.int c3), .val (.int c4), .val (.int (-1 : Int32)), .unset] [(.int (-1 : Int32))] := s1
      |>.icmpY d2_7 (cmpT (cd := .lt) cnd2) (by decide) (by decide)
      |>.iload d2_17 rfl rfl
    exact s3.retI d2_19 hret hlk (fun hh q => ⟨res_of (by rw [m1]; unfold uF; rw [if_pos (by omega)]), q⟩)
  · have s4 : Sit p l e _ s m _ below meth c _ st n0 0 0 _ 14 #[.val (.int c1), .val (.int c2), .val (.int c3), .val (.int c4), .val (.int (-1 : Int32)), .unset] [(.int (248 : Int32)), (.int c1)] := s1
      |>.icmpN d2_7 (cmpF (cd := .lt) cnd2) rfl
      |>.iloadN d2_10 rfl rfl
      |>.sipush (248 : Int32) d2_11 rfl rfl
    by_cases cnd5 : c1.toInt < (248 : Int)
    · have s6 : Sit p l e _ s m _ below meth c _ st n0 0 0 _ 21 #[.val (.int c1), .val (.int c2), .val (.int c3), .val (.int c4), .val (.int (-1 : Int32)), .unset] [(.int c2)] := s4
        |>.icmpY d2_14 (cmpT (cd := .lt) cnd5) (by decide) (by decide)
        |>.iloadN d2_20 rfl rfl
      obtain ⟨r8, s7⟩ := Sit.callS (y := (⟨"com/example/schema_on_the_wire/schemaonthewire/io/TextStreamUtf8PointPinLaw", "cont", "(I)Z"⟩ : MethodName)) (W := 0) (Q := fun rv_ hh => (rv_ = some (.int (ctF c2))) ∧ (fun hh => hh = h0) hh) [(.int c2)] [] s6 hZ hown (wi hw 9 rfl) (wi hw 10 rfl) (wi hw 7 rfl) (wi hw 11 rfl) (by decide) (fun h1 hP hn => (rmC l Z a0 hw [] c2 h1 n0 hn).mono fun rv_ hh q => ⟨q.1, q.2 ▸ hP⟩) hml rfl (lenOf pd_0 rfl) d2_21 (Nat.le_of_eq rfl) (by decide) (by decide) (by decide) (by decide) (pc' := 24) rfl
      obtain ⟨_, er8, _⟩ := s7.facts
      subst er8
      have s9 : Sit p l e _ s m _ below meth c _ st n0 0 0 (fun hh => hh = h0) 24 #[.val (.int c1), .val (.int c2), .val (.int c3), .val (.int c4), .val (.int (-1 : Int32)), .unset] [(.int (ctF c2))] := s7.mono fun _ q => q.2
      by_cases kc2 : 128 ≤ c2.toInt ∧ c2.toInt ≤ 191
      · have zc2 : ctF c2 = 1 := if_pos kc2
        have s10 : Sit p l e _ s m _ below meth c _ st n0 0 0 _ 34 #[.val (.int c1), .val (.int c2), .val (.int c3), .val (.int c4), .val (.int (-1 : Int32)), .unset] [(.int (224 : Int32)), (.int c1)] := s9
          |>.ifY d2_24 (neT (show ¬ (ctF c2) = 0 from by rw [zc2]; decide)) (by decide) (by decide)
          |>.iloadN d2_30 rfl rfl
          |>.sipush (224 : Int32) d2_31 rfl rfl
        by_cases cnd11 : c1.toInt ≥ (224 : Int)
        · have s12 : Sit p l e _ s m _ below meth c _ st n0 0 0 _ 70 #[.val (.int c1), .val (.int c2), .val (.int c3), .val (.int c4), .val (.int (-1 : Int32)), .unset] [(.int c3)] := s10
            |>.icmpY d2_34 (cmpT (cd := .ge) cnd11) (by decide) (by decide)
            |>.iloadN d2_69 rfl rfl
          obtain ⟨r14, s13⟩ := Sit.callS (y := (⟨"com/example/schema_on_the_wire/schemaonthewire/io/TextStreamUtf8PointPinLaw", "cont", "(I)Z"⟩ : MethodName)) (W := 0) (Q := fun rv_ hh => (rv_ = some (.int (ctF c3))) ∧ (fun hh => hh = h0) hh) [(.int c3)] [] s12 hZ hown (wi hw 9 rfl) (wi hw 10 rfl) (wi hw 7 rfl) (wi hw 11 rfl) (by decide) (fun h1 hP hn => (rmC l Z a0 hw [] c3 h1 n0 hn).mono fun rv_ hh q => ⟨q.1, q.2 ▸ hP⟩) hml rfl (lenOf pd_0 rfl) d2_70 (Nat.le_of_eq rfl) (by decide) (by decide) (by decide) (by decide) (pc' := 73) rfl
          obtain ⟨_, er14, _⟩ := s13.facts
          subst er14
          have s15 : Sit p l e _ s m _ below meth c _ st n0 0 0 (fun hh => hh = h0) 73 #[.val (.int c1), .val (.int c2), .val (.int c3), .val (.int c4), .val (.int (-1 : Int32)), .unset] [(.int (ctF c3))] := s13.mono fun _ q => q.2
          by_cases kc3 : 128 ≤ c3.toInt ∧ c3.toInt ≤ 191
          · have zc3 : ctF c3 = 1 := if_pos kc3
            have s16 : Sit p l e _ s m _ below meth c _ st n0 0 0 _ 83 #[.val (.int c1), .val (.int c2), .val (.int c3), .val (.int c4), .val (.int (-1 : Int32)), .unset] [(.int (240 : Int32)), (.int c1)] := s15
              |>.ifY d2_73 (neT (show ¬ (ctF c3) = 0 from by rw [zc3]; decide)) (by decide) (by decide)
              |>.iloadN d2_79 rfl rfl
              |>.sipush (240 : Int32) d2_80 rfl rfl
            by_cases cnd17 : c1.toInt ≥ (240 : Int)
            · have s18 : Sit p l e _ s m _ below meth c _ st n0 0 0 _ 144 #[.val (.int c1), .val (.int c2), .val (.int c3), .val (.int c4), .val (.int (-1 : Int32)), .unset] [(.int c4)] := s16
                |>.icmpY d2_83 (cmpT (cd := .ge) cnd17) (by decide) (by decide)
                |>.iloadN d2_143 rfl rfl
              obtain ⟨r20, s19⟩ := Sit.callS (y := (⟨"com/example/schema_on_the_wire/schemaonthewire/io/TextStreamUtf8PointPinLaw", "cont", "(I)Z"⟩ : MethodName)) (W := 0) (Q := fun rv_ hh => (rv_ = some (.int (ctF c4))) ∧ (fun hh => hh = h0) hh) [(.int c4)] [] s18 hZ hown (wi hw 9 rfl) (wi hw 10 rfl) (wi hw 7 rfl) (wi hw 11 rfl) (by decide) (fun h1 hP hn => (rmC l Z a0 hw [] c4 h1 n0 hn).mono fun rv_ hh q => ⟨q.1, q.2 ▸ hP⟩) hml rfl (lenOf pd_0 rfl) d2_144 (Nat.le_of_eq rfl) (by decide) (by decide) (by decide) (by decide) (pc' := 147) rfl
              obtain ⟨_, er20, _⟩ := s19.facts
              subst er20
              have s21 : Sit p l e _ s m _ below meth c _ st n0 0 0 (fun hh => hh = h0) 147 #[.val (.int c1), .val (.int c2), .val (.int c3), .val (.int c4), .val (.int (-1 : Int32)), .unset] [(.int (ctF c4))] := s19.mono fun _ q => q.2
              by_cases kc4 : 128 ≤ c4.toInt ∧ c4.toInt ≤ 191
              · have zc4 : ctF c4 = 1 := if_pos kc4
                have s22 : Sit p l e _ s m _ below meth c _ st n0 0 0 _ 186 #[.val (.int c1), .val (.int c2), .val (.int c3), .val (.int c4), .val (.int (-1 : Int32)), .unset] [(.int (((((c1 - (240 : Int32)) * (262144 : Int32)) + ((c2 - (128 : Int32)) * (4096 : Int32))) + ((c3 - (128 : Int32)) * (64 : Int32))) + (c4 - (128 : Int32))))] := s21
                  |>.ifY d2_147 (neT (show ¬ (ctF c4) = 0 from by rw [zc4]; decide)) (by decide) (by decide)
                  |>.iloadN d2_153 rfl rfl
                  |>.sipush (240 : Int32) d2_154 rfl rfl
                  |>.isub d2_157 rfl
                  |>.ldc hZ hown (wi hw 14 rfl) d2_158 rfl
                  |>.imul d2_160 rfl
                  |>.iloadN d2_161 rfl rfl
                  |>.sipush (128 : Int32) d2_162 rfl rfl
                  |>.isub d2_165 rfl
                  |>.sipush (4096 : Int32) d2_166 rfl rfl
                  |>.imul d2_169 rfl
                  |>.iadd d2_170 rfl
                  |>.iloadN d2_171 rfl rfl
                  |>.sipush (128 : Int32) d2_172 rfl rfl
                  |>.isub d2_175 rfl
                  |>.bipush (64 : Int32) d2_176 rfl rfl
                  |>.imul d2_178 rfl
                  |>.iadd d2_179 rfl
                  |>.iloadN d2_180 rfl rfl
                  |>.sipush (128 : Int32) d2_181 rfl rfl
                  |>.isub d2_184 rfl
                  |>.iadd d2_185 rfl
                obtain ⟨dv, e_dv, s23⟩ : ∃ dv : Int32, dv = (((((c1 - (240 : Int32)) * (262144 : Int32)) + ((c2 - (128 : Int32)) * (4096 : Int32))) + ((c3 - (128 : Int32)) * (64 : Int32))) + (c4 - (128 : Int32))) ∧ Sit p l e _ s m _ below meth c _ st n0 0 0 _ 186 #[.val (.int c1), .val (.int c2), .val (.int c3), .val (.int c4), .val (.int (-1 : Int32)), .unset] [(.int dv)] := ⟨_, rfl, s22⟩
                have ev : dv.toInt = (c1.toInt - 240) * 262144 + (c2.toInt - 128) * 4096 + (c3.toInt - 128) * 64 + (c4.toInt - 128) := by
                  rw [e_dv]
                  have := sub_c (x := c1) (240 : Int32) 240 rfl (by omega)
                  have := mul_c (x := (c1 - (240 : Int32))) (262144 : Int32) 262144 rfl (by omega)
                  have := sub_c (x := c2) (128 : Int32) 128 rfl (by omega)
                  have := mul_c (x := (c2 - (128 : Int32))) (4096 : Int32) 4096 rfl (by omega)
                  have := add_c (x := ((c1 - (240 : Int32)) * (262144 : Int32))) (y := ((c2 - (128 : Int32)) * (4096 : Int32))) (by omega)
                  have := sub_c (x := c3) (128 : Int32) 128 rfl (by omega)
                  have := mul_c (x := (c3 - (128 : Int32))) (64 : Int32) 64 rfl (by omega)
                  have := add_c (x := (((c1 - (240 : Int32)) * (262144 : Int32)) + ((c2 - (128 : Int32)) * (4096 : Int32)))) (y := ((c3 - (128 : Int32)) * (64 : Int32))) (by omega)
                  have := sub_c (x := c4) (128 : Int32) 128 rfl (by omega)
                  have := add_c (x := ((((c1 - (240 : Int32)) * (262144 : Int32)) + ((c2 - (128 : Int32)) * (4096 : Int32))) + ((c3 - (128 : Int32)) * (64 : Int32)))) (y := (c4 - (128 : Int32))) (by omega)
                  omega
                have s24 : Sit p l e _ s m _ below meth c _ st n0 0 0 _ 192 #[.val (.int c1), .val (.int c2), .val (.int c3), .val (.int c4), .val (.int (-1 : Int32)), .val (.int dv)] [(.int (65536 : Int32)), (.int dv)] := s23
                  |>.istore #[.val (.int c1), .val (.int c2), .val (.int c3), .val (.int c4), .val (.int (-1 : Int32)), .val (.int dv)] d2_186 rfl rfl
                  |>.iload d2_188 rfl rfl
                  |>.ldc hZ hown (wi hw 15 rfl) d2_190 rfl
                by_cases cnd25 : dv.toInt < (65536 : Int)
                · have s26 : Sit p l e _ s m _ below meth c _ st n0 0 0 _ 204 #[.val (.int c1), .val (.int c2), .val (.int c3), .val (.int c4), .val (.int (-1 : Int32)), .val (.int dv)] [(.int (-1 : Int32))] := s24
                    |>.icmpY d2_192 (cmpT (cd := .lt) cnd25) (by decide) (by decide)
                    |>.iload d2_202 rfl rfl
                  exact s26.retI d2_204 hret hlk (fun hh q => ⟨res_of (by rw [m1]; unfold uF; rw [if_neg (by omega), if_neg (by omega), if_neg (by omega), if_neg (by omega), if_neg (by omega), if_neg (by omega), if_pos (by omega)]), q⟩)
                · have s27 : Sit p l e _ s m _ below meth c _ st n0 0 0 _ 199 #[.val (.int c1), .val (.int c2), .val (.int c3), .val (.int c4), .val (.int (-1 : Int32)), .val (.int dv)] [(.int (1114111 : Int32)), (.int dv)] := s24
                    |>.icmpN d2_192 (cmpF (cd := .lt) cnd25) rfl
                    |>.iload d2_195 rfl rfl
                    |>.ldc hZ hown (wi hw 16 rfl) d2_197 rfl
                  by_cases cnd28 : dv.toInt ≤ (1114111 : Int)
                  · have s29 : Sit p l e _ s m _ below meth c _ st n0 0 0 _ 207 #[.val (.int c1), .val (.int c2), .val (.int c3), .val (.int c4), .val (.int (-1 : Int32)), .val (.int dv)] [(.int dv)] := s27
                      |>.icmpY d2_199 (cmpT (cd := .le) cnd28) (by decide) (by decide)
                      |>.iload d2_205 rfl rfl
                    exact s29.retI d2_207 hret hlk (fun hh q => ⟨res_of (by rw [ev]; unfold uF; rw [if_neg (by omega), if_neg (by omega), if_neg (by omega), if_neg (by omega), if_neg (by omega), if_neg (by omega), if_neg (by omega)]), q⟩)
                  · have s30 : Sit p l e _ s m _ below meth c _ st n0 0 0 _ 204 #[.val (.int c1), .val (.int c2), .val (.int c3), .val (.int c4), .val (.int (-1 : Int32)), .val (.int dv)] [(.int (-1 : Int32))] := s27
                      |>.icmpN d2_199 (cmpF (cd := .le) cnd28) rfl
                      |>.iload d2_202 rfl rfl
                    exact s30.retI d2_204 hret hlk (fun hh q => ⟨res_of (by rw [m1]; unfold uF; rw [if_neg (by omega), if_neg (by omega), if_neg (by omega), if_neg (by omega), if_neg (by omega), if_neg (by omega), if_pos (by omega)]), q⟩)
              · have zc4 : ctF c4 = 0 := if_neg kc4
                have s31 : Sit p l e _ s m _ below meth c _ st n0 0 0 _ 152 #[.val (.int c1), .val (.int c2), .val (.int c3), .val (.int c4), .val (.int (-1 : Int32)), .unset] [(.int (-1 : Int32))] := s21
                  |>.ifN d2_147 ((neF (Classical.not_not.mp (show ¬ (¬ (ctF c4) = 0) from fun h => h zc4)))) rfl
                  |>.iload d2_150 rfl rfl
                exact s31.retI d2_152 hret hlk (fun hh q => ⟨res_of (by rw [m1]; unfold uF; rw [if_neg (by omega), if_neg (by omega), if_neg (by omega), if_neg (by omega), if_neg (by omega), if_pos (by omega)]), q⟩)
            · have s32 : Sit p l e _ s m _ below meth c _ st n0 0 0 _ 110 #[.val (.int c1), .val (.int c2), .val (.int c3), .val (.int c4), .val (.int (-1 : Int32)), .unset] [(.int ((((c1 - (224 : Int32)) * (4096 : Int32)) + ((c2 - (128 : Int32)) * (64 : Int32))) + (c3 - (128 : Int32))))] := s16
                |>.icmpN d2_83 (cmpF (cd := .ge) cnd17) rfl
                |>.iloadN d2_86 rfl rfl
                |>.sipush (224 : Int32) d2_87 rfl rfl
                |>.isub d2_90 rfl
                |>.sipush (4096 : Int32) d2_91 rfl rfl
                |>.imul d2_94 rfl
                |>.iloadN d2_95 rfl rfl
                |>.sipush (128 : Int32) d2_96 rfl rfl
                |>.isub d2_99 rfl
                |>.bipush (64 : Int32) d2_100 rfl rfl
                |>.imul d2_102 rfl
                |>.iadd d2_103 rfl
                |>.iloadN d2_104 rfl rfl
                |>.sipush (128 : Int32) d2_105 rfl rfl
                |>.isub d2_108 rfl
                |>.iadd d2_109 rfl
              obtain ⟨dv, e_dv, s33⟩ : ∃ dv : Int32, dv = ((((c1 - (224 : Int32)) * (4096 : Int32)) + ((c2 - (128 : Int32)) * (64 : Int32))) + (c3 - (128 : Int32))) ∧ Sit p l e _ s m _ below meth c _ st n0 0 0 _ 110 #[.val (.int c1), .val (.int c2), .val (.int c3), .val (.int c4), .val (.int (-1 : Int32)), .unset] [(.int dv)] := ⟨_, rfl, s32⟩
              have ev : dv.toInt = (c1.toInt - 224) * 4096 + (c2.toInt - 128) * 64 + (c3.toInt - 128) := by
                rw [e_dv]
                have := sub_c (x := c1) (224 : Int32) 224 rfl (by omega)
                have := mul_c (x := (c1 - (224 : Int32))) (4096 : Int32) 4096 rfl (by omega)
                have := sub_c (x := c2) (128 : Int32) 128 rfl (by omega)
                have := mul_c (x := (c2 - (128 : Int32))) (64 : Int32) 64 rfl (by omega)
                have := add_c (x := ((c1 - (224 : Int32)) * (4096 : Int32))) (y := ((c2 - (128 : Int32)) * (64 : Int32))) (by omega)
                have := sub_c (x := c3) (128 : Int32) 128 rfl (by omega)
                have := add_c (x := (((c1 - (224 : Int32)) * (4096 : Int32)) + ((c2 - (128 : Int32)) * (64 : Int32)))) (y := (c3 - (128 : Int32))) (by omega)
                omega
              have s34 : Sit p l e _ s m _ below meth c _ st n0 0 0 _ 117 #[.val (.int c1), .val (.int c2), .val (.int c3), .val (.int c4), .val (.int (-1 : Int32)), .val (.int dv)] [(.int (2048 : Int32)), (.int dv)] := s33
                |>.istore #[.val (.int c1), .val (.int c2), .val (.int c3), .val (.int c4), .val (.int (-1 : Int32)), .val (.int dv)] d2_110 rfl rfl
                |>.iload d2_112 rfl rfl
                |>.sipush (2048 : Int32) d2_114 rfl rfl
              by_cases cnd35 : dv.toInt ≥ (2048 : Int)
              · have s36 : Sit p l e _ s m _ below meth c _ st n0 0 0 _ 127 #[.val (.int c1), .val (.int c2), .val (.int c3), .val (.int c4), .val (.int (-1 : Int32)), .val (.int dv)] [(.int (55296 : Int32)), (.int dv)] := s34
                  |>.icmpY d2_117 (cmpT (cd := .ge) cnd35) (by decide) (by decide)
                  |>.iload d2_123 rfl rfl
                  |>.ldc hZ hown (wi hw 12 rfl) d2_125 rfl
                by_cases cnd37 : dv.toInt < (55296 : Int)
                · have s38 : Sit p l e _ s m _ below meth c _ st n0 0 0 _ 142 #[.val (.int c1), .val (.int c2), .val (.int c3), .val (.int c4), .val (.int (-1 : Int32)), .val (.int dv)] [(.int dv)] := s36
                    |>.icmpY d2_127 (cmpT (cd := .lt) cnd37) (by decide) (by decide)
                    |>.iload d2_140 rfl rfl
                  exact s38.retI d2_142 hret hlk (fun hh q => ⟨res_of (by rw [ev]; unfold uF; rw [if_neg (by omega), if_neg (by omega), if_neg (by omega), if_neg (by omega), if_pos (by omega), if_neg (by omega), if_neg (by omega)]), q⟩)
                · have s39 : Sit p l e _ s m _ below meth c _ st n0 0 0 _ 134 #[.val (.int c1), .val (.int c2), .val (.int c3), .val (.int c4), .val (.int (-1 : Int32)), .val (.int dv)] [(.int (57343 : Int32)), (.int dv)] := s36
                    |>.icmpN d2_127 (cmpF (cd := .lt) cnd37) rfl
                    |>.iload d2_130 rfl rfl
                    |>.ldc hZ hown (wi hw 13 rfl) d2_132 rfl
                  by_cases cnd40 : dv.toInt > (57343 : Int)
                  · have s41 : Sit p l e _ s m _ below meth c _ st n0 0 0 _ 142 #[.val (.int c1), .val (.int c2), .val (.int c3), .val (.int c4), .val (.int (-1 : Int32)), .val (.int dv)] [(.int dv)] := s39
                      |>.icmpY d2_134 (cmpT (cd := .gt) cnd40) (by decide) (by decide)
                      |>.iload d2_140 rfl rfl
                    exact s41.retI d2_142 hret hlk (fun hh q => ⟨res_of (by rw [ev]; unfold uF; rw [if_neg (by omega), if_neg (by omega), if_neg (by omega), if_neg (by omega), if_pos (by omega), if_neg (by omega), if_neg (by omega)]), q⟩)
                  · have s42 : Sit p l e _ s m _ below meth c _ st n0 0 0 _ 139 #[.val (.int c1), .val (.int c2), .val (.int c3), .val (.int c4), .val (.int (-1 : Int32)), .val (.int dv)] [(.int (-1 : Int32))] := s39
                      |>.icmpN d2_134 (cmpF (cd := .gt) cnd40) rfl
                      |>.iload d2_137 rfl rfl
                    exact s42.retI d2_139 hret hlk (fun hh q => ⟨res_of (by rw [m1]; unfold uF; first | (rw [if_neg (by omega), if_neg (by omega), if_neg (by omega), if_neg (by omega), if_pos (by omega), if_pos (by omega)]) | (rw [if_neg (by omega), if_neg (by omega), if_neg (by omega), if_neg (by omega), if_pos (by omega), if_neg (by omega), if_pos (by omega)])), q⟩)
              · have s43 : Sit p l e _ s m _ below meth c _ st n0 0 0 _ 122 #[.val (.int c1), .val (.int c2), .val (.int c3), .val (.int c4), .val (.int (-1 : Int32)), .val (.int dv)] [(.int (-1 : Int32))] := s34
                  |>.icmpN d2_117 (cmpF (cd := .ge) cnd35) rfl
                  |>.iload d2_120 rfl rfl
                exact s43.retI d2_122 hret hlk (fun hh q => ⟨res_of (by rw [m1]; unfold uF; first | (rw [if_neg (by omega), if_neg (by omega), if_neg (by omega), if_neg (by omega), if_pos (by omega), if_pos (by omega)]) | (rw [if_neg (by omega), if_neg (by omega), if_neg (by omega), if_neg (by omega), if_pos (by omega), if_neg (by omega), if_pos (by omega)])), q⟩)
          · have zc3 : ctF c3 = 0 := if_neg kc3
            have s44 : Sit p l e _ s m _ below meth c _ st n0 0 0 _ 78 #[.val (.int c1), .val (.int c2), .val (.int c3), .val (.int c4), .val (.int (-1 : Int32)), .unset] [(.int (-1 : Int32))] := s15
              |>.ifN d2_73 ((neF (Classical.not_not.mp (show ¬ (¬ (ctF c3) = 0) from fun h => h zc3)))) rfl
              |>.iload d2_76 rfl rfl
            exact s44.retI d2_78 hret hlk (fun hh q => ⟨res_of (by rw [m1]; unfold uF; rw [if_neg (by omega), if_neg (by omega), if_neg (by omega), if_pos (by omega)]), q⟩)
        · have s45 : Sit p l e _ s m _ below meth c _ st n0 0 0 _ 51 #[.val (.int c1), .val (.int c2), .val (.int c3), .val (.int c4), .val (.int (-1 : Int32)), .unset] [(.int (((c1 - (192 : Int32)) * (64 : Int32)) + (c2 - (128 : Int32))))] := s10
            |>.icmpN d2_34 (cmpF (cd := .ge) cnd11) rfl
            |>.iloadN d2_37 rfl rfl
            |>.sipush (192 : Int32) d2_38 rfl rfl
            |>.isub d2_41 rfl
            |>.bipush (64 : Int32) d2_42 rfl rfl
            |>.imul d2_44 rfl
            |>.iloadN d2_45 rfl rfl
            |>.sipush (128 : Int32) d2_46 rfl rfl
            |>.isub d2_49 rfl
            |>.iadd d2_50 rfl
          obtain ⟨dv, e_dv, s46⟩ : ∃ dv : Int32, dv = (((c1 - (192 : Int32)) * (64 : Int32)) + (c2 - (128 : Int32))) ∧ Sit p l e _ s m _ below meth c _ st n0 0 0 _ 51 #[.val (.int c1), .val (.int c2), .val (.int c3), .val (.int c4), .val (.int (-1 : Int32)), .unset] [(.int dv)] := ⟨_, rfl, s45⟩
          have ev : dv.toInt = (c1.toInt - 192) * 64 + (c2.toInt - 128) := by
            rw [e_dv]
            have := sub_c (x := c1) (192 : Int32) 192 rfl (by omega)
            have := mul_c (x := (c1 - (192 : Int32))) (64 : Int32) 64 rfl (by omega)
            have := sub_c (x := c2) (128 : Int32) 128 rfl (by omega)
            have := add_c (x := ((c1 - (192 : Int32)) * (64 : Int32))) (y := (c2 - (128 : Int32))) (by omega)
            omega
          have s47 : Sit p l e _ s m _ below meth c _ st n0 0 0 _ 58 #[.val (.int c1), .val (.int c2), .val (.int c3), .val (.int c4), .val (.int (-1 : Int32)), .val (.int dv)] [(.int (128 : Int32)), (.int dv)] := s46
            |>.istore #[.val (.int c1), .val (.int c2), .val (.int c3), .val (.int c4), .val (.int (-1 : Int32)), .val (.int dv)] d2_51 rfl rfl
            |>.iload d2_53 rfl rfl
            |>.sipush (128 : Int32) d2_55 rfl rfl
          by_cases cnd48 : dv.toInt ≥ (128 : Int)
          · have s49 : Sit p l e _ s m _ below meth c _ st n0 0 0 _ 68 #[.val (.int c1), .val (.int c2), .val (.int c3), .val (.int c4), .val (.int (-1 : Int32)), .val (.int dv)] [(.int dv)] := s47
              |>.icmpY d2_58 (cmpT (cd := .ge) cnd48) (by decide) (by decide)
              |>.iload d2_66 rfl rfl
            exact s49.retI d2_68 hret hlk (fun hh q => ⟨res_of (by rw [ev]; unfold uF; rw [if_neg (by omega), if_neg (by omega), if_pos (by omega), if_neg (by omega)]), q⟩)
          · have s50 : Sit p l e _ s m _ below meth c _ st n0 0 0 _ 68 #[.val (.int c1), .val (.int c2), .val (.int c3), .val (.int c4), .val (.int (-1 : Int32)), .val (.int dv)] [(.int (-1 : Int32))] := s47
              |>.icmpN d2_58 (cmpF (cd := .ge) cnd48) rfl
              |>.iload d2_61 rfl rfl
              |>.goto d2_63 (by decide) (by decide)
            exact s50.retI d2_68 hret hlk (fun hh q => ⟨res_of (by rw [m1]; unfold uF; rw [if_neg (by omega), if_neg (by omega), if_pos (by omega), if_pos (by omega)]), q⟩)
      · have zc2 : ctF c2 = 0 := if_neg kc2
        have s51 : Sit p l e _ s m _ below meth c _ st n0 0 0 _ 29 #[.val (.int c1), .val (.int c2), .val (.int c3), .val (.int c4), .val (.int (-1 : Int32)), .unset] [(.int (-1 : Int32))] := s9
          |>.ifN d2_24 ((neF (Classical.not_not.mp (show ¬ (¬ (ctF c2) = 0) from fun h => h zc2)))) rfl
          |>.iload d2_27 rfl rfl
        exact s51.retI d2_29 hret hlk (fun hh q => ⟨res_of (by rw [m1]; unfold uF; rw [if_neg (by omega), if_pos (by omega)]), q⟩)
    · have s52 : Sit p l e _ s m _ below meth c _ st n0 0 0 _ 19 #[.val (.int c1), .val (.int c2), .val (.int c3), .val (.int c4), .val (.int (-1 : Int32)), .unset] [(.int (-1 : Int32))] := s4
        |>.icmpN d2_14 (cmpF (cd := .lt) cnd5) rfl
        |>.iload d2_17 rfl rfl
      exact s52.retI d2_19 hret hlk (fun hh q => ⟨res_of (by rw [m1]; unfold uF; rw [if_pos (by omega)]), q⟩)
theorem pn_rmU : plainName "com/example/schema_on_the_wire/schemaonthewire/io/TextStream" = true := by first | (simp [plainName, overriddenIn]; done) | decide +kernel
theorem d1_0 : decode prog_125_method_20_code 0 = .ok (.aload_n 0, 1) := by decide +kernel
theorem d1_1 : decode prog_125_method_20_code 1 = .ok (.iload_n 1, 1) := by decide +kernel
theorem d1_2 : decode prog_125_method_20_code 2 = .ok (.baload, 1) := by decide +kernel
theorem d1_3 : decode prog_125_method_20_code 3 = .ok (.sipush 255, 3) := by decide +kernel
theorem d1_6 : decode prog_125_method_20_code 6 = .ok (.iand, 1) := by decide +kernel
theorem d1_7 : decode prog_125_method_20_code 7 = .ok (.istore_n 2, 1) := by decide +kernel
theorem d1_8 : decode prog_125_method_20_code 8 = .ok (.aload_n 0, 1) := by decide +kernel
theorem d1_9 : decode prog_125_method_20_code 9 = .ok (.iload_n 1, 1) := by decide +kernel
theorem d1_10 : decode prog_125_method_20_code 10 = .ok (.iconst 1, 1) := by decide +kernel
theorem d1_11 : decode prog_125_method_20_code 11 = .ok (.iadd, 1) := by decide +kernel
theorem d1_12 : decode prog_125_method_20_code 12 = .ok (.baload, 1) := by decide +kernel
theorem d1_13 : decode prog_125_method_20_code 13 = .ok (.sipush 255, 3) := by decide +kernel
theorem d1_16 : decode prog_125_method_20_code 16 = .ok (.iand, 1) := by decide +kernel
theorem d1_17 : decode prog_125_method_20_code 17 = .ok (.istore_n 3, 1) := by decide +kernel
theorem d1_18 : decode prog_125_method_20_code 18 = .ok (.iload_n 2, 1) := by decide +kernel
theorem d1_19 : decode prog_125_method_20_code 19 = .ok (.sipush 194, 3) := by decide +kernel
theorem d1_22 : decode prog_125_method_20_code 22 = .ok (.if_icmp .lt 21, 3) := by decide +kernel
theorem d1_25 : decode prog_125_method_20_code 25 = .ok (.iload_n 2, 1) := by decide +kernel
theorem d1_26 : decode prog_125_method_20_code 26 = .ok (.sipush 244, 3) := by decide +kernel
theorem d1_29 : decode prog_125_method_20_code 29 = .ok (.if_icmp .gt 14, 3) := by decide +kernel
theorem d1_32 : decode prog_125_method_20_code 32 = .ok (.iload_n 3, 1) := by decide +kernel
theorem d1_33 : decode prog_125_method_20_code 33 = .ok (.sipush 192, 3) := by decide +kernel
theorem d1_36 : decode prog_125_method_20_code 36 = .ok (.iand, 1) := by decide +kernel
theorem d1_37 : decode prog_125_method_20_code 37 = .ok (.sipush 128, 3) := by decide +kernel
theorem d1_40 : decode prog_125_method_20_code 40 = .ok (.if_icmp .eq 5, 3) := by decide +kernel
theorem d1_43 : decode prog_125_method_20_code 43 = .ok (.iconst (-1), 1) := by decide +kernel
theorem d1_44 : decode prog_125_method_20_code 44 = .ok (.ireturn, 1) := by decide +kernel
theorem d1_45 : decode prog_125_method_20_code 45 = .ok (.iload_n 2, 1) := by decide +kernel
theorem d1_46 : decode prog_125_method_20_code 46 = .ok (.sipush 224, 3) := by decide +kernel
theorem d1_49 : decode prog_125_method_20_code 49 = .ok (.if_icmp .ge 16, 3) := by decide +kernel
theorem d1_52 : decode prog_125_method_20_code 52 = .ok (.iload_n 2, 1) := by decide +kernel
theorem d1_53 : decode prog_125_method_20_code 53 = .ok (.bipush 31, 2) := by decide +kernel
theorem d1_55 : decode prog_125_method_20_code 55 = .ok (.iand, 1) := by decide +kernel
theorem d1_56 : decode prog_125_method_20_code 56 = .ok (.bipush 6, 2) := by decide +kernel
theorem d1_58 : decode prog_125_method_20_code 58 = .ok (.ishl, 1) := by decide +kernel
theorem d1_59 : decode prog_125_method_20_code 59 = .ok (.iload_n 3, 1) := by decide +kernel
theorem d1_60 : decode prog_125_method_20_code 60 = .ok (.bipush 63, 2) := by decide +kernel
theorem d1_62 : decode prog_125_method_20_code 62 = .ok (.iand, 1) := by decide +kernel
theorem d1_63 : decode prog_125_method_20_code 63 = .ok (.ior, 1) := by decide +kernel
theorem d1_64 : decode prog_125_method_20_code 64 = .ok (.ireturn, 1) := by decide +kernel
theorem d1_65 : decode prog_125_method_20_code 65 = .ok (.aload_n 0, 1) := by decide +kernel
theorem d1_66 : decode prog_125_method_20_code 66 = .ok (.iload_n 1, 1) := by decide +kernel
theorem d1_67 : decode prog_125_method_20_code 67 = .ok (.iconst 2, 1) := by decide +kernel
theorem d1_68 : decode prog_125_method_20_code 68 = .ok (.iadd, 1) := by decide +kernel
theorem d1_69 : decode prog_125_method_20_code 69 = .ok (.baload, 1) := by decide +kernel
theorem d1_70 : decode prog_125_method_20_code 70 = .ok (.sipush 255, 3) := by decide +kernel
theorem d1_73 : decode prog_125_method_20_code 73 = .ok (.iand, 1) := by decide +kernel
theorem d1_74 : decode prog_125_method_20_code 74 = .ok (.istore 4, 2) := by decide +kernel
theorem d1_76 : decode prog_125_method_20_code 76 = .ok (.iload_n 2, 1) := by decide +kernel
theorem d1_77 : decode prog_125_method_20_code 77 = .ok (.sipush 224, 3) := by decide +kernel
theorem d1_80 : decode prog_125_method_20_code 80 = .ok (.if_icmp .ne 10, 3) := by decide +kernel
theorem d1_83 : decode prog_125_method_20_code 83 = .ok (.iload_n 3, 1) := by decide +kernel
theorem d1_84 : decode prog_125_method_20_code 84 = .ok (.sipush 160, 3) := by decide +kernel
theorem d1_87 : decode prog_125_method_20_code 87 = .ok (.if_icmp .lt 17, 3) := by decide +kernel
theorem d1_90 : decode prog_125_method_20_code 90 = .ok (.iload_n 2, 1) := by decide +kernel
theorem d1_91 : decode prog_125_method_20_code 91 = .ok (.sipush 240, 3) := by decide +kernel
theorem d1_94 : decode prog_125_method_20_code 94 = .ok (.if_icmp .ne 14, 3) := by decide +kernel
theorem d1_97 : decode prog_125_method_20_code 97 = .ok (.iload_n 3, 1) := by decide +kernel
theorem d1_98 : decode prog_125_method_20_code 98 = .ok (.sipush 144, 3) := by decide +kernel
theorem d1_101 : decode prog_125_method_20_code 101 = .ok (.if_icmp .ge 7, 3) := by decide +kernel
theorem d1_104 : decode prog_125_method_20_code 104 = .ok (.iconst 1, 1) := by decide +kernel
theorem d1_105 : decode prog_125_method_20_code 105 = .ok (.goto 4, 3) := by decide +kernel
theorem d1_108 : decode prog_125_method_20_code 108 = .ok (.iconst 0, 1) := by decide +kernel
theorem d1_109 : decode prog_125_method_20_code 109 = .ok (.istore 5, 2) := by decide +kernel
theorem d1_111 : decode prog_125_method_20_code 111 = .ok (.iload_n 2, 1) := by decide +kernel
theorem d1_112 : decode prog_125_method_20_code 112 = .ok (.sipush 237, 3) := by decide +kernel
theorem d1_115 : decode prog_125_method_20_code 115 = .ok (.if_icmp .ne 10, 3) := by decide +kernel
theorem d1_118 : decode prog_125_method_20_code 118 = .ok (.iload_n 3, 1) := by decide +kernel
theorem d1_119 : decode prog_125_method_20_code 119 = .ok (.sipush 159, 3) := by decide +kernel
theorem d1_122 : decode prog_125_method_20_code 122 = .ok (.if_icmp .gt 17, 3) := by decide +kernel
theorem d1_125 : decode prog_125_method_20_code 125 = .ok (.iload_n 2, 1) := by decide +kernel
theorem d1_126 : decode prog_125_method_20_code 126 = .ok (.sipush 244, 3) := by decide +kernel
theorem d1_129 : decode prog_125_method_20_code 129 = .ok (.if_icmp .ne 14, 3) := by decide +kernel
theorem d1_132 : decode prog_125_method_20_code 132 = .ok (.iload_n 3, 1) := by decide +kernel
theorem d1_133 : decode prog_125_method_20_code 133 = .ok (.sipush 143, 3) := by decide +kernel
theorem d1_136 : decode prog_125_method_20_code 136 = .ok (.if_icmp .le 7, 3) := by decide +kernel
theorem d1_139 : decode prog_125_method_20_code 139 = .ok (.iconst 1, 1) := by decide +kernel
theorem d1_140 : decode prog_125_method_20_code 140 = .ok (.goto 4, 3) := by decide +kernel
theorem d1_143 : decode prog_125_method_20_code 143 = .ok (.iconst 0, 1) := by decide +kernel
theorem d1_144 : decode prog_125_method_20_code 144 = .ok (.istore 6, 2) := by decide +kernel
theorem d1_146 : decode prog_125_method_20_code 146 = .ok (.iload_n 2, 1) := by decide +kernel
theorem d1_147 : decode prog_125_method_20_code 147 = .ok (.sipush 240, 3) := by decide +kernel
theorem d1_150 : decode prog_125_method_20_code 150 = .ok (.if_icmp .lt 15, 3) := by decide +kernel
theorem d1_153 : decode prog_125_method_20_code 153 = .ok (.aload_n 0, 1) := by decide +kernel
theorem d1_154 : decode prog_125_method_20_code 154 = .ok (.iload_n 1, 1) := by decide +kernel
theorem d1_155 : decode prog_125_method_20_code 155 = .ok (.iconst 3, 1) := by decide +kernel
theorem d1_156 : decode prog_125_method_20_code 156 = .ok (.iadd, 1) := by decide +kernel
theorem d1_157 : decode prog_125_method_20_code 157 = .ok (.baload, 1) := by decide +kernel
theorem d1_158 : decode prog_125_method_20_code 158 = .ok (.sipush 255, 3) := by decide +kernel
theorem d1_161 : decode prog_125_method_20_code 161 = .ok (.iand, 1) := by decide +kernel
theorem d1_162 : decode prog_125_method_20_code 162 = .ok (.goto 6, 3) := by decide +kernel
theorem d1_165 : decode prog_125_method_20_code 165 = .ok (.sipush 128, 3) := by decide +kernel
theorem d1_168 : decode prog_125_method_20_code 168 = .ok (.istore 7, 2) := by decide +kernel
theorem d1_170 : decode prog_125_method_20_code 170 = .ok (.iload 5, 2) := by decide +kernel
theorem d1_172 : decode prog_125_method_20_code 172 = .ok (.ifCond .ne 32, 3) := by decide +kernel
theorem d1_175 : decode prog_125_method_20_code 175 = .ok (.iload 6, 2) := by decide +kernel
theorem d1_177 : decode prog_125_method_20_code 177 = .ok (.ifCond .ne 27, 3) := by decide +kernel
theorem d1_180 : decode prog_125_method_20_code 180 = .ok (.iload 4, 2) := by decide +kernel
theorem d1_182 : decode prog_125_method_20_code 182 = .ok (.sipush 192, 3) := by decide +kernel
theorem d1_185 : decode prog_125_method_20_code 185 = .ok (.iand, 1) := by decide +kernel
theorem d1_186 : decode prog_125_method_20_code 186 = .ok (.sipush 128, 3) := by decide +kernel
theorem d1_189 : decode prog_125_method_20_code 189 = .ok (.if_icmp .ne 15, 3) := by decide +kernel
theorem d1_192 : decode prog_125_method_20_code 192 = .ok (.iload 7, 2) := by decide +kernel
theorem d1_194 : decode prog_125_method_20_code 194 = .ok (.sipush 192, 3) := by decide +kernel
theorem d1_197 : decode prog_125_method_20_code 197 = .ok (.iand, 1) := by decide +kernel
theorem d1_198 : decode prog_125_method_20_code 198 = .ok (.sipush 128, 3) := by decide +kernel
theorem d1_201 : decode prog_125_method_20_code 201 = .ok (.if_icmp .eq 5, 3) := by decide +kernel
theorem d1_204 : decode prog_125_method_20_code 204 = .ok (.iconst (-1), 1) := by decide +kernel
theorem d1_205 : decode prog_125_method_20_code 205 = .ok (.ireturn, 1) := by decide +kernel
theorem d1_206 : decode prog_125_method_20_code 206 = .ok (.iload_n 2, 1) := by decide +kernel
theorem d1_207 : decode prog_125_method_20_code 207 = .ok (.sipush 240, 3) := by decide +kernel
theorem d1_210 : decode prog_125_method_20_code 210 = .ok (.if_icmp .ge 27, 3) := by decide +kernel
theorem d1_213 : decode prog_125_method_20_code 213 = .ok (.iload_n 2, 1) := by decide +kernel
theorem d1_214 : decode prog_125_method_20_code 214 = .ok (.bipush 15, 2) := by decide +kernel
theorem d1_216 : decode prog_125_method_20_code 216 = .ok (.iand, 1) := by decide +kernel
theorem d1_217 : decode prog_125_method_20_code 217 = .ok (.bipush 12, 2) := by decide +kernel
theorem d1_219 : decode prog_125_method_20_code 219 = .ok (.ishl, 1) := by decide +kernel
theorem d1_220 : decode prog_125_method_20_code 220 = .ok (.iload_n 3, 1) := by decide +kernel
theorem d1_221 : decode prog_125_method_20_code 221 = .ok (.bipush 63, 2) := by decide +kernel
theorem d1_223 : decode prog_125_method_20_code 223 = .ok (.iand, 1) := by decide +kernel
theorem d1_224 : decode prog_125_method_20_code 224 = .ok (.bipush 6, 2) := by decide +kernel
theorem d1_226 : decode prog_125_method_20_code 226 = .ok (.ishl, 1) := by decide +kernel
theorem d1_227 : decode prog_125_method_20_code 227 = .ok (.ior, 1) := by decide +kernel
theorem d1_228 : decode prog_125_method_20_code 228 = .ok (.iload 4, 2) := by decide +kernel
theorem d1_230 : decode prog_125_method_20_code 230 = .ok (.bipush 63, 2) := by decide +kernel
theorem d1_232 : decode prog_125_method_20_code 232 = .ok (.iand, 1) := by decide +kernel
theorem d1_233 : decode prog_125_method_20_code 233 = .ok (.ior, 1) := by decide +kernel
theorem d1_234 : decode prog_125_method_20_code 234 = .ok (.goto 33, 3) := by decide +kernel
theorem d1_237 : decode prog_125_method_20_code 237 = .ok (.iload_n 2, 1) := by decide +kernel
theorem d1_238 : decode prog_125_method_20_code 238 = .ok (.bipush 7, 2) := by decide +kernel
theorem d1_240 : decode prog_125_method_20_code 240 = .ok (.iand, 1) := by decide +kernel
theorem d1_241 : decode prog_125_method_20_code 241 = .ok (.bipush 18, 2) := by decide +kernel
theorem d1_243 : decode prog_125_method_20_code 243 = .ok (.ishl, 1) := by decide +kernel
theorem d1_244 : decode prog_125_method_20_code 244 = .ok (.iload_n 3, 1) := by decide +kernel
theorem d1_245 : decode prog_125_method_20_code 245 = .ok (.bipush 63, 2) := by decide +kernel
theorem d1_247 : decode prog_125_method_20_code 247 = .ok (.iand, 1) := by decide +kernel
theorem d1_248 : decode prog_125_method_20_code 248 = .ok (.bipush 12, 2) := by decide +kernel
theorem d1_250 : decode prog_125_method_20_code 250 = .ok (.ishl, 1) := by decide +kernel
theorem d1_251 : decode prog_125_method_20_code 251 = .ok (.ior, 1) := by decide +kernel
theorem d1_252 : decode prog_125_method_20_code 252 = .ok (.iload 4, 2) := by decide +kernel
theorem d1_254 : decode prog_125_method_20_code 254 = .ok (.bipush 63, 2) := by decide +kernel
theorem d1_256 : decode prog_125_method_20_code 256 = .ok (.iand, 1) := by decide +kernel
theorem d1_257 : decode prog_125_method_20_code 257 = .ok (.bipush 6, 2) := by decide +kernel
theorem d1_259 : decode prog_125_method_20_code 259 = .ok (.ishl, 1) := by decide +kernel
theorem d1_260 : decode prog_125_method_20_code 260 = .ok (.ior, 1) := by decide +kernel
theorem d1_261 : decode prog_125_method_20_code 261 = .ok (.iload 7, 2) := by decide +kernel
theorem d1_263 : decode prog_125_method_20_code 263 = .ok (.bipush 63, 2) := by decide +kernel
theorem d1_265 : decode prog_125_method_20_code 265 = .ok (.iand, 1) := by decide +kernel
theorem d1_266 : decode prog_125_method_20_code 266 = .ok (.ior, 1) := by decide +kernel
theorem d1_267 : decode prog_125_method_20_code 267 = .ok (.ireturn, 1) := by decide +kernel
theorem ef_rmU (m : MethodId) (a : Addr) (q : Int32) : entryFrame m #[(.ref a), (.int q)] 8 = mkF m 0 #[.val (.ref a), .val (.int q), .unset, .unset, .unset, .unset, .unset, .unset] [] := by first | (simp [entryFrame, mkF, argsToLocals, Value.category]; done) | rfl
set_option maxRecDepth 65536 in
set_option maxHeartbeats 40000000 in
theorem rmU (l : Launch) (Z : State) (a0 : Array Value) (hw : ∀ d ∈ tables_1, d.before a0 Z = true) (wcs : List Jvm.Cond) (a : Addr) (q : Int32) (vs : List Value) (pn : Nat) (y1 y2 y3 y4 : Int32) (h0 : Heap) (n0 : Nat) (Z0 : n0 ≤ h0.size) (ha : AV Z h0 a .byte vs) (hp : q.toInt = (pn : Int)) (hq : pn ≤ 6) (g1 : vs[pn]? = some (.int y1)) (g2 : vs[pn + 1]? = some (.int y2)) (g3 : 224 ≤ (y1 &&& (255 : Int32)).toInt → vs[pn + 2]? = some (.int y3)) (g4 : 240 ≤ (y1 &&& (255 : Int32)).toInt → vs[pn + 3]? = some (.int y4)) : Met1 l (⟨"com/example/schema_on_the_wire/schemaonthewire/io/TextStream", "utf8Point", "([BI)I"⟩ : MethodName) prog_125_method_20_code 8 (some .int) wcs ({ frames := 0, cells := 0, slots := 0, locals := 0 } : Room) Z #[(.ref a), (.int q)] h0 n0 (fun v hh => v = some (.int (Int32.ofInt (uF (y1 &&& (255 : Int32)).toInt (y2 &&& (255 : Int32)).toInt (y3 &&& (255 : Int32)).toInt (y4 &&& (255 : Int32)).toInt))) ∧ hh = h0) := by
  refine Met1.of (L0 := #[.val (.ref a), .val (.int q), .unset, .unset, .unset, .unset, .unset, .unset]) (plainFor_of_name pn_rmU) (fun m => ef_rmU m a q) Z0 ?_
  intro p e s m below meth c st s0 hZ hown hret hlk hnm hml
  have s1 : Sit p l e _ s m _ below meth c _ st n0 0 0 _ 2 #[.val (.ref a), .val (.int q), .unset, .unset, .unset, .unset, .unset, .unset] [(.int q), (.ref a)] := s0
    |>.aloadN d1_0 rfl rfl
    |>.iloadN d1_1 rfl rfl
  have i0 : q.toNatClampNeg = pn := clamp_of hp
  have s2 : Sit p l e _ s m _ below meth c _ st n0 0 0 _ 7 #[.val (.ref a), .val (.int q), .unset, .unset, .unset, .unset, .unset, .unset] [(.int (y1 &&& (255 : Int32)))] := s1
    |>.baload (v := y1) hZ (by omega) (fun hh z => ⟨_, z ▸ ha, by rw [i0]; exact g1⟩) d1_2 rfl
    |>.sipush (255 : Int32) d1_3 rfl rfl
    |>.iand d1_6 rfl
  obtain ⟨b1, e_b1, s3⟩ : ∃ b1 : Int32, b1 = (y1 &&& (255 : Int32)) ∧ Sit p l e _ s m _ below meth c _ st n0 0 0 _ 7 #[.val (.ref a), .val (.int q), .unset, .unset, .unset, .unset, .unset, .unset] [(.int b1)] := ⟨_, rfl, s2⟩
  have r1 : b1.toInt = (y1 &&& (255 : Int32)).toInt := by rw [e_b1]
  have r1' := and255 y1
  have s4 : Sit p l e _ s m _ below meth c _ st n0 0 0 _ 12 #[.val (.ref a), .val (.int q), .val (.int b1), .unset, .unset, .unset, .unset, .unset] [(.int (q + (1 : Int32))), (.ref a)] := s3
    |>.istoreN #[.val (.ref a), .val (.int q), .val (.int b1), .unset, .unset, .unset, .unset, .unset] d1_7 rfl rfl
    |>.aloadN d1_8 rfl rfl
    |>.iloadN d1_9 rfl rfl
    |>.iconst (1 : Int32) d1_10 rfl rfl
    |>.iadd d1_11 rfl
  have i1 := add_small (1 : Int32) 1 rfl hp (by omega)
  have s5 : Sit p l e _ s m _ below meth c _ st n0 0 0 _ 17 #[.val (.ref a), .val (.int q), .val (.int b1), .unset, .unset, .unset, .unset, .unset] [(.int (y2 &&& (255 : Int32)))] := s4
    |>.baload (v := y2) hZ (by omega) (fun hh z => ⟨_, z ▸ ha, by rw [clamp_of i1]; exact g2⟩) d1_12 rfl
    |>.sipush (255 : Int32) d1_13 rfl rfl
    |>.iand d1_16 rfl
  obtain ⟨b2, e_b2, s6⟩ : ∃ b2 : Int32, b2 = (y2 &&& (255 : Int32)) ∧ Sit p l e _ s m _ below meth c _ st n0 0 0 _ 17 #[.val (.ref a), .val (.int q), .val (.int b1), .unset, .unset, .unset, .unset, .unset] [(.int b2)] := ⟨_, rfl, s5⟩
  have r2 : b2.toInt = (y2 &&& (255 : Int32)).toInt := by rw [e_b2]
  have r2' := and255 y2
  have t2 := ci_of (x := b2) (by omega) (by omega)
  have s7 : Sit p l e _ s m _ below meth c _ st n0 0 0 _ 22 #[.val (.ref a), .val (.int q), .val (.int b1), .val (.int b2), .unset, .unset, .unset, .unset] [(.int (194 : Int32)), (.int b1)] := s6
    |>.istoreN #[.val (.ref a), .val (.int q), .val (.int b1), .val (.int b2), .unset, .unset, .unset, .unset] d1_17 rfl rfl
    |>.iloadN d1_18 rfl rfl
    |>.sipush (194 : Int32) d1_19 rfl rfl
  by_cases cnd8 : b1.toInt < (194 : Int)
  · have s9 : Sit p l e _ s m _ below meth c _ st n0 0 0 _ 44 #[.val (.ref a), .val (.int q), .val (.int b1), .val (.int b2), .unset, .unset, .unset, .unset] [(.int (-1 : Int32))] := s7
      |>.icmpY d1_22 (cmpT (cd := .lt) cnd8) (by decide) (by decide)
      |>.iconst (-1 : Int32) d1_43 rfl rfl
    exact s9.retI d1_44 hret hlk (fun hh q => ⟨res_of (by rw [m1, ← e_b1, ← e_b2]; exact (n22 cnd8).symm), q⟩)
  · have s10 : Sit p l e _ s m _ below meth c _ st n0 0 0 _ 29 #[.val (.ref a), .val (.int q), .val (.int b1), .val (.int b2), .unset, .unset, .unset, .unset] [(.int (244 : Int32)), (.int b1)] := s7
      |>.icmpN d1_22 (cmpF (cd := .lt) cnd8) rfl
      |>.iloadN d1_25 rfl rfl
      |>.sipush (244 : Int32) d1_26 rfl rfl
    by_cases cnd11 : b1.toInt > (244 : Int)
    · have s12 : Sit p l e _ s m _ below meth c _ st n0 0 0 _ 44 #[.val (.ref a), .val (.int q), .val (.int b1), .val (.int b2), .unset, .unset, .unset, .unset] [(.int (-1 : Int32))] := s10
        |>.icmpY d1_29 (cmpT (cd := .gt) cnd11) (by decide) (by decide)
        |>.iconst (-1 : Int32) d1_43 rfl rfl
      exact s12.retI d1_44 hret hlk (fun hh q => ⟨res_of (by rw [m1, ← e_b1, ← e_b2]; exact (n29 cnd11).symm), q⟩)
    · have s13 : Sit p l e _ s m _ below meth c _ st n0 0 0 _ 40 #[.val (.ref a), .val (.int q), .val (.int b1), .val (.int b2), .unset, .unset, .unset, .unset] [(.int (128 : Int32)), (.int (b2 &&& (192 : Int32)))] := s10
        |>.icmpN d1_29 (cmpF (cd := .gt) cnd11) rfl
        |>.iloadN d1_32 rfl rfl
        |>.sipush (192 : Int32) d1_33 rfl rfl
        |>.iand d1_36 rfl
        |>.sipush (128 : Int32) d1_37 rfl rfl
      by_cases cnd14 : (b2 &&& (192 : Int32)).toInt = (128 : Int)
      · have s15 : Sit p l e _ s m _ below meth c _ st n0 0 0 _ 49 #[.val (.ref a), .val (.int q), .val (.int b1), .val (.int b2), .unset, .unset, .unset, .unset] [(.int (224 : Int32)), (.int b1)] := s13
          |>.icmpY d1_40 (cmpT (cd := .eq) cnd14) (by decide) (by decide)
          |>.iloadN d1_45 rfl rfl
          |>.sipush (224 : Int32) d1_46 rfl rfl
        by_cases cnd16 : b1.toInt ≥ (224 : Int)
        · have s17 : Sit p l e _ s m _ below meth c _ st n0 0 0 _ 65 #[.val (.ref a), .val (.int q), .val (.int b1), .val (.int b2), .unset, .unset, .unset, .unset] [] := s15
            |>.icmpY d1_49 (cmpT (cd := .ge) cnd16) (by decide) (by decide)
          have s18 : Sit p l e _ s m _ below meth c _ st n0 0 0 _ 69 #[.val (.ref a), .val (.int q), .val (.int b1), .val (.int b2), .unset, .unset, .unset, .unset] [(.int (q + (2 : Int32))), (.ref a)] := s17
            |>.aloadN d1_65 rfl rfl
            |>.iloadN d1_66 rfl rfl
            |>.iconst (2 : Int32) d1_67 rfl rfl
            |>.iadd d1_68 rfl
          have i2 := add_small (2 : Int32) 2 rfl hp (by omega)
          have s19 : Sit p l e _ s m _ below meth c _ st n0 0 0 _ 74 #[.val (.ref a), .val (.int q), .val (.int b1), .val (.int b2), .unset, .unset, .unset, .unset] [(.int (y3 &&& (255 : Int32)))] := s18
            |>.baload (v := y3) hZ (by omega) (fun hh z => ⟨_, z ▸ ha, by rw [clamp_of i2]; exact g3 (by omega)⟩) d1_69 rfl
            |>.sipush (255 : Int32) d1_70 rfl rfl
            |>.iand d1_73 rfl
          obtain ⟨b3, e_b3, s20⟩ : ∃ b3 : Int32, b3 = (y3 &&& (255 : Int32)) ∧ Sit p l e _ s m _ below meth c _ st n0 0 0 _ 74 #[.val (.ref a), .val (.int q), .val (.int b1), .val (.int b2), .unset, .unset, .unset, .unset] [(.int b3)] := ⟨_, rfl, s19⟩
          have r3 : b3.toInt = (y3 &&& (255 : Int32)).toInt := by rw [e_b3]
          have r3' := and255 y3
          have t3 := ci_of (x := b3) (by omega) (by omega)
          have s21 : Sit p l e _ s m _ below meth c _ st n0 0 0 _ 76 #[.val (.ref a), .val (.int q), .val (.int b1), .val (.int b2), .val (.int b3), .unset, .unset, .unset] [] := s20
            |>.istore #[.val (.ref a), .val (.int q), .val (.int b1), .val (.int b2), .val (.int b3), .unset, .unset, .unset] d1_74 rfl rfl
          obtain ⟨ov, e_ov, s41⟩ : ∃ ov : Int32, (ov = ovF b1.toInt b2.toInt) ∧ Sit p l e ({ frames := 0, cells := 0, slots := 0, locals := 0 } : Room) s m #[(.ref a), (.int q)] below meth c prog_125_method_20_code st n0 0 0 (fun hh => hh = h0) 109 #[.val (.ref a), .val (.int q), .val (.int b1), .val (.int b2), .val (.int b3), .unset, .unset, .unset] [(.int ov)] := by
            have s22 : Sit p l e _ s m _ below meth c _ st n0 0 0 _ 80 #[.val (.ref a), .val (.int q), .val (.int b1), .val (.int b2), .val (.int b3), .unset, .unset, .unset] [(.int (224 : Int32)), (.int b1)] := s21
              |>.iloadN d1_76 rfl rfl
              |>.sipush (224 : Int32) d1_77 rfl rfl
            by_cases cnd23 : b1.toInt ≠ (224 : Int)
            · have s24 : Sit p l e _ s m _ below meth c _ st n0 0 0 _ 94 #[.val (.ref a), .val (.int q), .val (.int b1), .val (.int b2), .val (.int b3), .unset, .unset, .unset] [(.int (240 : Int32)), (.int b1)] := s22
                |>.icmpY d1_80 (cmpT (cd := .ne) cnd23) (by decide) (by decide)
                |>.iloadN d1_90 rfl rfl
                |>.sipush (240 : Int32) d1_91 rfl rfl
              by_cases cnd25 : b1.toInt ≠ (240 : Int)
              · have s26 : Sit p l e _ s m _ below meth c _ st n0 0 0 _ 109 #[.val (.ref a), .val (.int q), .val (.int b1), .val (.int b2), .val (.int b3), .unset, .unset, .unset] [(.int (0 : Int32))] := s24
                  |>.icmpY d1_94 (cmpT (cd := .ne) cnd25) (by decide) (by decide)
                  |>.iconst (0 : Int32) d1_108 rfl rfl
                exact ⟨(0 : Int32), by rw [ovF]; exact (if_neg (by omega)).symm, s26⟩
              · have s27 : Sit p l e _ s m _ below meth c _ st n0 0 0 _ 101 #[.val (.ref a), .val (.int q), .val (.int b1), .val (.int b2), .val (.int b3), .unset, .unset, .unset] [(.int (144 : Int32)), (.int b2)] := s24
                  |>.icmpN d1_94 (cmpF (cd := .ne) cnd25) rfl
                  |>.iloadN d1_97 rfl rfl
                  |>.sipush (144 : Int32) d1_98 rfl rfl
                by_cases cnd28 : b2.toInt ≥ (144 : Int)
                · have s29 : Sit p l e _ s m _ below meth c _ st n0 0 0 _ 109 #[.val (.ref a), .val (.int q), .val (.int b1), .val (.int b2), .val (.int b3), .unset, .unset, .unset] [(.int (0 : Int32))] := s27
                    |>.icmpY d1_101 (cmpT (cd := .ge) cnd28) (by decide) (by decide)
                    |>.iconst (0 : Int32) d1_108 rfl rfl
                  exact ⟨(0 : Int32), by rw [ovF]; exact (if_neg (by omega)).symm, s29⟩
                · have s30 : Sit p l e _ s m _ below meth c _ st n0 0 0 _ 109 #[.val (.ref a), .val (.int q), .val (.int b1), .val (.int b2), .val (.int b3), .unset, .unset, .unset] [(.int (1 : Int32))] := s27
                    |>.icmpN d1_101 (cmpF (cd := .ge) cnd28) rfl
                    |>.iconst (1 : Int32) d1_104 rfl rfl
                    |>.goto d1_105 (by decide) (by decide)
                  exact ⟨(1 : Int32), by rw [ovF]; exact (if_pos (by omega)).symm, s30⟩
            · have s31 : Sit p l e _ s m _ below meth c _ st n0 0 0 _ 87 #[.val (.ref a), .val (.int q), .val (.int b1), .val (.int b2), .val (.int b3), .unset, .unset, .unset] [(.int (160 : Int32)), (.int b2)] := s22
                |>.icmpN d1_80 (cmpF (cd := .ne) cnd23) rfl
                |>.iloadN d1_83 rfl rfl
                |>.sipush (160 : Int32) d1_84 rfl rfl
              by_cases cnd32 : b2.toInt < (160 : Int)
              · have s33 : Sit p l e _ s m _ below meth c _ st n0 0 0 _ 109 #[.val (.ref a), .val (.int q), .val (.int b1), .val (.int b2), .val (.int b3), .unset, .unset, .unset] [(.int (1 : Int32))] := s31
                  |>.icmpY d1_87 (cmpT (cd := .lt) cnd32) (by decide) (by decide)
                  |>.iconst (1 : Int32) d1_104 rfl rfl
                  |>.goto d1_105 (by decide) (by decide)
                exact ⟨(1 : Int32), by rw [ovF]; exact (if_pos (by omega)).symm, s33⟩
              · have s34 : Sit p l e _ s m _ below meth c _ st n0 0 0 _ 94 #[.val (.ref a), .val (.int q), .val (.int b1), .val (.int b2), .val (.int b3), .unset, .unset, .unset] [(.int (240 : Int32)), (.int b1)] := s31
                  |>.icmpN d1_87 (cmpF (cd := .lt) cnd32) rfl
                  |>.iloadN d1_90 rfl rfl
                  |>.sipush (240 : Int32) d1_91 rfl rfl
                by_cases cnd35 : b1.toInt ≠ (240 : Int)
                · have s36 : Sit p l e _ s m _ below meth c _ st n0 0 0 _ 109 #[.val (.ref a), .val (.int q), .val (.int b1), .val (.int b2), .val (.int b3), .unset, .unset, .unset] [(.int (0 : Int32))] := s34
                    |>.icmpY d1_94 (cmpT (cd := .ne) cnd35) (by decide) (by decide)
                    |>.iconst (0 : Int32) d1_108 rfl rfl
                  exact ⟨(0 : Int32), by rw [ovF]; exact (if_neg (by omega)).symm, s36⟩
                · have s37 : Sit p l e _ s m _ below meth c _ st n0 0 0 _ 101 #[.val (.ref a), .val (.int q), .val (.int b1), .val (.int b2), .val (.int b3), .unset, .unset, .unset] [(.int (144 : Int32)), (.int b2)] := s34
                    |>.icmpN d1_94 (cmpF (cd := .ne) cnd35) rfl
                    |>.iloadN d1_97 rfl rfl
                    |>.sipush (144 : Int32) d1_98 rfl rfl
                  by_cases cnd38 : b2.toInt ≥ (144 : Int)
                  · have s39 : Sit p l e _ s m _ below meth c _ st n0 0 0 _ 109 #[.val (.ref a), .val (.int q), .val (.int b1), .val (.int b2), .val (.int b3), .unset, .unset, .unset] [(.int (0 : Int32))] := s37
                      |>.icmpY d1_101 (cmpT (cd := .ge) cnd38) (by decide) (by decide)
                      |>.iconst (0 : Int32) d1_108 rfl rfl
                    exact ⟨(0 : Int32), by rw [ovF]; exact (if_neg (by omega)).symm, s39⟩
                  · have s40 : Sit p l e _ s m _ below meth c _ st n0 0 0 _ 109 #[.val (.ref a), .val (.int q), .val (.int b1), .val (.int b2), .val (.int b3), .unset, .unset, .unset] [(.int (1 : Int32))] := s37
                      |>.icmpN d1_101 (cmpF (cd := .ge) cnd38) rfl
                      |>.iconst (1 : Int32) d1_104 rfl rfl
                      |>.goto d1_105 (by decide) (by decide)
                    exact ⟨(1 : Int32), by rw [ovF]; exact (if_pos (by omega)).symm, s40⟩
          have s42 : Sit p l e _ s m _ below meth c _ st n0 0 0 _ 111 #[.val (.ref a), .val (.int q), .val (.int b1), .val (.int b2), .val (.int b3), .val (.int ov), .unset, .unset] [] := s41
            |>.istore #[.val (.ref a), .val (.int q), .val (.int b1), .val (.int b2), .val (.int b3), .val (.int ov), .unset, .unset] d1_109 rfl rfl
          obtain ⟨by_, e_by_, s62⟩ : ∃ by_ : Int32, (by_ = byF b1.toInt b2.toInt) ∧ Sit p l e ({ frames := 0, cells := 0, slots := 0, locals := 0 } : Room) s m #[(.ref a), (.int q)] below meth c prog_125_method_20_code st n0 0 0 (fun hh => hh = h0) 144 #[.val (.ref a), .val (.int q), .val (.int b1), .val (.int b2), .val (.int b3), .val (.int ov), .unset, .unset] [(.int by_)] := by
            have s43 : Sit p l e _ s m _ below meth c _ st n0 0 0 _ 115 #[.val (.ref a), .val (.int q), .val (.int b1), .val (.int b2), .val (.int b3), .val (.int ov), .unset, .unset] [(.int (237 : Int32)), (.int b1)] := s42
              |>.iloadN d1_111 rfl rfl
              |>.sipush (237 : Int32) d1_112 rfl rfl
            by_cases cnd44 : b1.toInt ≠ (237 : Int)
            · have s45 : Sit p l e _ s m _ below meth c _ st n0 0 0 _ 129 #[.val (.ref a), .val (.int q), .val (.int b1), .val (.int b2), .val (.int b3), .val (.int ov), .unset, .unset] [(.int (244 : Int32)), (.int b1)] := s43
                |>.icmpY d1_115 (cmpT (cd := .ne) cnd44) (by decide) (by decide)
                |>.iloadN d1_125 rfl rfl
                |>.sipush (244 : Int32) d1_126 rfl rfl
              by_cases cnd46 : b1.toInt ≠ (244 : Int)
              · have s47 : Sit p l e _ s m _ below meth c _ st n0 0 0 _ 144 #[.val (.ref a), .val (.int q), .val (.int b1), .val (.int b2), .val (.int b3), .val (.int ov), .unset, .unset] [(.int (0 : Int32))] := s45
                  |>.icmpY d1_129 (cmpT (cd := .ne) cnd46) (by decide) (by decide)
                  |>.iconst (0 : Int32) d1_143 rfl rfl
                exact ⟨(0 : Int32), by rw [byF]; exact (if_neg (by omega)).symm, s47⟩
              · have s48 : Sit p l e _ s m _ below meth c _ st n0 0 0 _ 136 #[.val (.ref a), .val (.int q), .val (.int b1), .val (.int b2), .val (.int b3), .val (.int ov), .unset, .unset] [(.int (143 : Int32)), (.int b2)] := s45
                  |>.icmpN d1_129 (cmpF (cd := .ne) cnd46) rfl
                  |>.iloadN d1_132 rfl rfl
                  |>.sipush (143 : Int32) d1_133 rfl rfl
                by_cases cnd49 : b2.toInt ≤ (143 : Int)
                · have s50 : Sit p l e _ s m _ below meth c _ st n0 0 0 _ 144 #[.val (.ref a), .val (.int q), .val (.int b1), .val (.int b2), .val (.int b3), .val (.int ov), .unset, .unset] [(.int (0 : Int32))] := s48
                    |>.icmpY d1_136 (cmpT (cd := .le) cnd49) (by decide) (by decide)
                    |>.iconst (0 : Int32) d1_143 rfl rfl
                  exact ⟨(0 : Int32), by rw [byF]; exact (if_neg (by omega)).symm, s50⟩
                · have s51 : Sit p l e _ s m _ below meth c _ st n0 0 0 _ 144 #[.val (.ref a), .val (.int q), .val (.int b1), .val (.int b2), .val (.int b3), .val (.int ov), .unset, .unset] [(.int (1 : Int32))] := s48
                    |>.icmpN d1_136 (cmpF (cd := .le) cnd49) rfl
                    |>.iconst (1 : Int32) d1_139 rfl rfl
                    |>.goto d1_140 (by decide) (by decide)
                  exact ⟨(1 : Int32), by rw [byF]; exact (if_pos (by omega)).symm, s51⟩
            · have s52 : Sit p l e _ s m _ below meth c _ st n0 0 0 _ 122 #[.val (.ref a), .val (.int q), .val (.int b1), .val (.int b2), .val (.int b3), .val (.int ov), .unset, .unset] [(.int (159 : Int32)), (.int b2)] := s43
                |>.icmpN d1_115 (cmpF (cd := .ne) cnd44) rfl
                |>.iloadN d1_118 rfl rfl
                |>.sipush (159 : Int32) d1_119 rfl rfl
              by_cases cnd53 : b2.toInt > (159 : Int)
              · have s54 : Sit p l e _ s m _ below meth c _ st n0 0 0 _ 144 #[.val (.ref a), .val (.int q), .val (.int b1), .val (.int b2), .val (.int b3), .val (.int ov), .unset, .unset] [(.int (1 : Int32))] := s52
                  |>.icmpY d1_122 (cmpT (cd := .gt) cnd53) (by decide) (by decide)
                  |>.iconst (1 : Int32) d1_139 rfl rfl
                  |>.goto d1_140 (by decide) (by decide)
                exact ⟨(1 : Int32), by rw [byF]; exact (if_pos (by omega)).symm, s54⟩
              · have s55 : Sit p l e _ s m _ below meth c _ st n0 0 0 _ 129 #[.val (.ref a), .val (.int q), .val (.int b1), .val (.int b2), .val (.int b3), .val (.int ov), .unset, .unset] [(.int (244 : Int32)), (.int b1)] := s52
                  |>.icmpN d1_122 (cmpF (cd := .gt) cnd53) rfl
                  |>.iloadN d1_125 rfl rfl
                  |>.sipush (244 : Int32) d1_126 rfl rfl
                by_cases cnd56 : b1.toInt ≠ (244 : Int)
                · have s57 : Sit p l e _ s m _ below meth c _ st n0 0 0 _ 144 #[.val (.ref a), .val (.int q), .val (.int b1), .val (.int b2), .val (.int b3), .val (.int ov), .unset, .unset] [(.int (0 : Int32))] := s55
                    |>.icmpY d1_129 (cmpT (cd := .ne) cnd56) (by decide) (by decide)
                    |>.iconst (0 : Int32) d1_143 rfl rfl
                  exact ⟨(0 : Int32), by rw [byF]; exact (if_neg (by omega)).symm, s57⟩
                · have s58 : Sit p l e _ s m _ below meth c _ st n0 0 0 _ 136 #[.val (.ref a), .val (.int q), .val (.int b1), .val (.int b2), .val (.int b3), .val (.int ov), .unset, .unset] [(.int (143 : Int32)), (.int b2)] := s55
                    |>.icmpN d1_129 (cmpF (cd := .ne) cnd56) rfl
                    |>.iloadN d1_132 rfl rfl
                    |>.sipush (143 : Int32) d1_133 rfl rfl
                  by_cases cnd59 : b2.toInt ≤ (143 : Int)
                  · have s60 : Sit p l e _ s m _ below meth c _ st n0 0 0 _ 144 #[.val (.ref a), .val (.int q), .val (.int b1), .val (.int b2), .val (.int b3), .val (.int ov), .unset, .unset] [(.int (0 : Int32))] := s58
                      |>.icmpY d1_136 (cmpT (cd := .le) cnd59) (by decide) (by decide)
                      |>.iconst (0 : Int32) d1_143 rfl rfl
                    exact ⟨(0 : Int32), by rw [byF]; exact (if_neg (by omega)).symm, s60⟩
                  · have s61 : Sit p l e _ s m _ below meth c _ st n0 0 0 _ 144 #[.val (.ref a), .val (.int q), .val (.int b1), .val (.int b2), .val (.int b3), .val (.int ov), .unset, .unset] [(.int (1 : Int32))] := s58
                      |>.icmpN d1_136 (cmpF (cd := .le) cnd59) rfl
                      |>.iconst (1 : Int32) d1_139 rfl rfl
                      |>.goto d1_140 (by decide) (by decide)
                    exact ⟨(1 : Int32), by rw [byF]; exact (if_pos (by omega)).symm, s61⟩
          have s63 : Sit p l e _ s m _ below meth c _ st n0 0 0 _ 150 #[.val (.ref a), .val (.int q), .val (.int b1), .val (.int b2), .val (.int b3), .val (.int ov), .val (.int by_), .unset] [(.int (240 : Int32)), (.int b1)] := s62
            |>.istore #[.val (.ref a), .val (.int q), .val (.int b1), .val (.int b2), .val (.int b3), .val (.int ov), .val (.int by_), .unset] d1_144 rfl rfl
            |>.iloadN d1_146 rfl rfl
            |>.sipush (240 : Int32) d1_147 rfl rfl
          by_cases cnd64 : b1.toInt < (240 : Int)
          · have s65 : Sit p l e _ s m _ below meth c _ st n0 0 0 _ 168 #[.val (.ref a), .val (.int q), .val (.int b1), .val (.int b2), .val (.int b3), .val (.int ov), .val (.int by_), .unset] [(.int (128 : Int32))] := s63
              |>.icmpY d1_150 (cmpT (cd := .lt) cnd64) (by decide) (by decide)
              |>.sipush (128 : Int32) d1_165 rfl rfl
            obtain ⟨b4, e_b4, s66⟩ : ∃ b4 : Int32, b4 = (128 : Int32) ∧ Sit p l e _ s m _ below meth c _ st n0 0 0 _ 168 #[.val (.ref a), .val (.int q), .val (.int b1), .val (.int b2), .val (.int b3), .val (.int ov), .val (.int by_), .unset] [(.int b4)] := ⟨_, rfl, s65⟩
            have r4 : b4.toInt = 128 := by rw [e_b4]; rfl
            have t4 := ci_of (x := b4) (by rw [r4]; decide) (by rw [r4]; decide)
            have s67 : Sit p l e _ s m _ below meth c _ st n0 0 0 _ 172 #[.val (.ref a), .val (.int q), .val (.int b1), .val (.int b2), .val (.int b3), .val (.int ov), .val (.int by_), .val (.int b4)] [(.int ov)] := s66
              |>.istore #[.val (.ref a), .val (.int q), .val (.int b1), .val (.int b2), .val (.int b3), .val (.int ov), .val (.int by_), .val (.int b4)] d1_168 rfl rfl
              |>.iload d1_170 rfl rfl
            by_cases cnd68 : ov.toInt ≠ 0
            · have s69 : Sit p l e _ s m _ below meth c _ st n0 0 0 _ 205 #[.val (.ref a), .val (.int q), .val (.int b1), .val (.int b2), .val (.int b3), .val (.int ov), .val (.int by_), .val (.int b4)] [(.int (-1 : Int32))] := s67
                |>.ifY d1_172 (cmpT0 (cd := .ne) cnd68) (by decide) (by decide)
                |>.iconst (-1 : Int32) d1_204 rfl rfl
              exact s69.retI d1_205 hret hlk (fun hh q => ⟨res_of (by rw [m1, ← e_b1, ← e_b2, ← e_b3]; exact (nov (ov1 e_ov cnd68)).symm), q⟩)
            · have s70 : Sit p l e _ s m _ below meth c _ st n0 0 0 _ 177 #[.val (.ref a), .val (.int q), .val (.int b1), .val (.int b2), .val (.int b3), .val (.int ov), .val (.int by_), .val (.int b4)] [(.int by_)] := s67
                |>.ifN d1_172 (cmpF0 (cd := .ne) cnd68) rfl
                |>.iload d1_175 rfl rfl
              by_cases cnd71 : by_.toInt ≠ 0
              · have s72 : Sit p l e _ s m _ below meth c _ st n0 0 0 _ 205 #[.val (.ref a), .val (.int q), .val (.int b1), .val (.int b2), .val (.int b3), .val (.int ov), .val (.int by_), .val (.int b4)] [(.int (-1 : Int32))] := s70
                  |>.ifY d1_177 (cmpT0 (cd := .ne) cnd71) (by decide) (by decide)
                  |>.iconst (-1 : Int32) d1_204 rfl rfl
                exact s72.retI d1_205 hret hlk (fun hh q => ⟨res_of (by rw [m1, ← e_b1, ← e_b2, ← e_b3]; exact (nby (by1 e_by_ cnd71)).symm), q⟩)
              · have s73 : Sit p l e _ s m _ below meth c _ st n0 0 0 _ 189 #[.val (.ref a), .val (.int q), .val (.int b1), .val (.int b2), .val (.int b3), .val (.int ov), .val (.int by_), .val (.int b4)] [(.int (128 : Int32)), (.int (b3 &&& (192 : Int32)))] := s70
                  |>.ifN d1_177 (cmpF0 (cd := .ne) cnd71) rfl
                  |>.iload d1_180 rfl rfl
                  |>.sipush (192 : Int32) d1_182 rfl rfl
                  |>.iand d1_185 rfl
                  |>.sipush (128 : Int32) d1_186 rfl rfl
                by_cases cnd74 : (b3 &&& (192 : Int32)).toInt ≠ (128 : Int)
                · have s75 : Sit p l e _ s m _ below meth c _ st n0 0 0 _ 205 #[.val (.ref a), .val (.int q), .val (.int b1), .val (.int b2), .val (.int b3), .val (.int ov), .val (.int by_), .val (.int b4)] [(.int (-1 : Int32))] := s73
                    |>.icmpY d1_189 (cmpT (cd := .ne) cnd74) (by decide) (by decide)
                    |>.iconst (-1 : Int32) d1_204 rfl rfl
                  exact s75.retI d1_205 hret hlk (fun hh q => ⟨res_of (by rw [m1, ← e_b1, ← e_b2, ← e_b3]; exact (n3 cnd16 (fun k => cnd74 (t3.mpr k))).symm), q⟩)
                · have s76 : Sit p l e _ s m _ below meth c _ st n0 0 0 _ 201 #[.val (.ref a), .val (.int q), .val (.int b1), .val (.int b2), .val (.int b3), .val (.int ov), .val (.int by_), .val (.int b4)] [(.int (128 : Int32)), (.int (b4 &&& (192 : Int32)))] := s73
                    |>.icmpN d1_189 (cmpF (cd := .ne) cnd74) rfl
                    |>.iload d1_192 rfl rfl
                    |>.sipush (192 : Int32) d1_194 rfl rfl
                    |>.iand d1_197 rfl
                    |>.sipush (128 : Int32) d1_198 rfl rfl
                  by_cases cnd77 : (b4 &&& (192 : Int32)).toInt = (128 : Int)
                  · have s79 : Sit p l e _ s m _ below meth c _ st n0 0 0 _ 210 #[.val (.ref a), .val (.int q), .val (.int b1), .val (.int b2), .val (.int b3), .val (.int ov), .val (.int by_), .val (.int b4)] [(.int (240 : Int32)), (.int b1)] := s76
                      |>.icmpY d1_201 (cmpT (cd := .eq) cnd77) (by decide) (by decide)
                      |>.iloadN d1_206 rfl rfl
                      |>.sipush (240 : Int32) d1_207 rfl rfl
                    have s80 : Sit p l e _ s m _ below meth c _ st n0 0 0 _ 267 #[.val (.ref a), .val (.int q), .val (.int b1), .val (.int b2), .val (.int b3), .val (.int ov), .val (.int by_), .val (.int b4)] [(.int ((((b1 &&& (15 : Int32)) <<< ((12 : Int32) &&& 31)) ||| ((b2 &&& (63 : Int32)) <<< ((6 : Int32) &&& 31))) ||| (b3 &&& (63 : Int32))))] := s79
                      |>.icmpN d1_210 (cmpF (cd := .ge) (show ¬ (b1.toInt ≥ (240 : Int)) from Int.not_le.mpr cnd64)) rfl
                      |>.iloadN d1_213 rfl rfl
                      |>.bipush (15 : Int32) d1_214 rfl rfl
                      |>.iand d1_216 rfl
                      |>.bipush (12 : Int32) d1_217 rfl rfl
                      |>.ishl d1_219 rfl
                      |>.iloadN d1_220 rfl rfl
                      |>.bipush (63 : Int32) d1_221 rfl rfl
                      |>.iand d1_223 rfl
                      |>.bipush (6 : Int32) d1_224 rfl rfl
                      |>.ishl d1_226 rfl
                      |>.ior d1_227 rfl
                      |>.iload d1_228 rfl rfl
                      |>.bipush (63 : Int32) d1_230 rfl rfl
                      |>.iand d1_232 rfl
                      |>.ior d1_233 rfl
                      |>.goto d1_234 (by decide) (by decide)
                    have ev := three_val (x := b1) (y := b2) (w := b3) cnd16 cnd64 (t2.mp cnd14).1 (t2.mp cnd14).2 (t3.mp (Decidable.not_not.mp cnd74)).1 (t3.mp (Decidable.not_not.mp cnd74)).2
                    exact s80.retI d1_267 hret hlk (fun hh q => ⟨res_of (by rw [ev, ← e_b1, ← e_b2, ← e_b3]; exact (u3 cnd16 (Int.not_le.mpr cnd64) (t2.mp cnd14) (t3.mp (Decidable.not_not.mp cnd74)) (ov0 e_ov cnd68) (by0 e_by_ cnd71)).symm), q⟩)
                  · have s78 : Sit p l e _ s m _ below meth c _ st n0 0 0 _ 205 #[.val (.ref a), .val (.int q), .val (.int b1), .val (.int b2), .val (.int b3), .val (.int ov), .val (.int by_), .val (.int b4)] [(.int (-1 : Int32))] := s76
                      |>.icmpN d1_201 (cmpF (cd := .eq) cnd77) rfl
                      |>.iconst (-1 : Int32) d1_204 rfl rfl
                    exact absurd (t4.mpr ⟨by rw [r4]; decide, by rw [r4]; decide⟩) cnd77
          · have s81 : Sit p l e _ s m _ below meth c _ st n0 0 0 _ 157 #[.val (.ref a), .val (.int q), .val (.int b1), .val (.int b2), .val (.int b3), .val (.int ov), .val (.int by_), .unset] [(.int (q + (3 : Int32))), (.ref a)] := s63
              |>.icmpN d1_150 (cmpF (cd := .lt) cnd64) rfl
              |>.aloadN d1_153 rfl rfl
              |>.iloadN d1_154 rfl rfl
              |>.iconst (3 : Int32) d1_155 rfl rfl
              |>.iadd d1_156 rfl
            have i3 := add_small (3 : Int32) 3 rfl hp (by omega)
            have s82 : Sit p l e _ s m _ below meth c _ st n0 0 0 _ 168 #[.val (.ref a), .val (.int q), .val (.int b1), .val (.int b2), .val (.int b3), .val (.int ov), .val (.int by_), .unset] [(.int (y4 &&& (255 : Int32)))] := s81
              |>.baload (v := y4) hZ (by omega) (fun hh z => ⟨_, z ▸ ha, by rw [clamp_of i3]; exact g4 (by omega)⟩) d1_157 rfl
              |>.sipush (255 : Int32) d1_158 rfl rfl
              |>.iand d1_161 rfl
              |>.goto d1_162 (by decide) (by decide)
            obtain ⟨b4, e_b4, s83⟩ : ∃ b4 : Int32, b4 = (y4 &&& (255 : Int32)) ∧ Sit p l e _ s m _ below meth c _ st n0 0 0 _ 168 #[.val (.ref a), .val (.int q), .val (.int b1), .val (.int b2), .val (.int b3), .val (.int ov), .val (.int by_), .unset] [(.int b4)] := ⟨_, rfl, s82⟩
            have r4 : b4.toInt = (y4 &&& (255 : Int32)).toInt := by rw [e_b4]
            have r4' := and255 y4
            have t4 := ci_of (x := b4) (by omega) (by omega)
            have s84 : Sit p l e _ s m _ below meth c _ st n0 0 0 _ 172 #[.val (.ref a), .val (.int q), .val (.int b1), .val (.int b2), .val (.int b3), .val (.int ov), .val (.int by_), .val (.int b4)] [(.int ov)] := s83
              |>.istore #[.val (.ref a), .val (.int q), .val (.int b1), .val (.int b2), .val (.int b3), .val (.int ov), .val (.int by_), .val (.int b4)] d1_168 rfl rfl
              |>.iload d1_170 rfl rfl
            by_cases cnd85 : ov.toInt ≠ 0
            · have s86 : Sit p l e _ s m _ below meth c _ st n0 0 0 _ 205 #[.val (.ref a), .val (.int q), .val (.int b1), .val (.int b2), .val (.int b3), .val (.int ov), .val (.int by_), .val (.int b4)] [(.int (-1 : Int32))] := s84
                |>.ifY d1_172 (cmpT0 (cd := .ne) cnd85) (by decide) (by decide)
                |>.iconst (-1 : Int32) d1_204 rfl rfl
              exact s86.retI d1_205 hret hlk (fun hh q => ⟨res_of (by rw [m1, ← e_b1, ← e_b2, ← e_b3, ← e_b4]; exact (nov (ov1 e_ov cnd85)).symm), q⟩)
            · have s87 : Sit p l e _ s m _ below meth c _ st n0 0 0 _ 177 #[.val (.ref a), .val (.int q), .val (.int b1), .val (.int b2), .val (.int b3), .val (.int ov), .val (.int by_), .val (.int b4)] [(.int by_)] := s84
                |>.ifN d1_172 (cmpF0 (cd := .ne) cnd85) rfl
                |>.iload d1_175 rfl rfl
              by_cases cnd88 : by_.toInt ≠ 0
              · have s89 : Sit p l e _ s m _ below meth c _ st n0 0 0 _ 205 #[.val (.ref a), .val (.int q), .val (.int b1), .val (.int b2), .val (.int b3), .val (.int ov), .val (.int by_), .val (.int b4)] [(.int (-1 : Int32))] := s87
                  |>.ifY d1_177 (cmpT0 (cd := .ne) cnd88) (by decide) (by decide)
                  |>.iconst (-1 : Int32) d1_204 rfl rfl
                exact s89.retI d1_205 hret hlk (fun hh q => ⟨res_of (by rw [m1, ← e_b1, ← e_b2, ← e_b3, ← e_b4]; exact (nby (by1 e_by_ cnd88)).symm), q⟩)
              · have s90 : Sit p l e _ s m _ below meth c _ st n0 0 0 _ 189 #[.val (.ref a), .val (.int q), .val (.int b1), .val (.int b2), .val (.int b3), .val (.int ov), .val (.int by_), .val (.int b4)] [(.int (128 : Int32)), (.int (b3 &&& (192 : Int32)))] := s87
                  |>.ifN d1_177 (cmpF0 (cd := .ne) cnd88) rfl
                  |>.iload d1_180 rfl rfl
                  |>.sipush (192 : Int32) d1_182 rfl rfl
                  |>.iand d1_185 rfl
                  |>.sipush (128 : Int32) d1_186 rfl rfl
                by_cases cnd91 : (b3 &&& (192 : Int32)).toInt ≠ (128 : Int)
                · have s92 : Sit p l e _ s m _ below meth c _ st n0 0 0 _ 205 #[.val (.ref a), .val (.int q), .val (.int b1), .val (.int b2), .val (.int b3), .val (.int ov), .val (.int by_), .val (.int b4)] [(.int (-1 : Int32))] := s90
                    |>.icmpY d1_189 (cmpT (cd := .ne) cnd91) (by decide) (by decide)
                    |>.iconst (-1 : Int32) d1_204 rfl rfl
                  exact s92.retI d1_205 hret hlk (fun hh q => ⟨res_of (by rw [m1, ← e_b1, ← e_b2, ← e_b3, ← e_b4]; exact (n3 cnd16 (fun k => cnd91 (t3.mpr k))).symm), q⟩)
                · have s93 : Sit p l e _ s m _ below meth c _ st n0 0 0 _ 201 #[.val (.ref a), .val (.int q), .val (.int b1), .val (.int b2), .val (.int b3), .val (.int ov), .val (.int by_), .val (.int b4)] [(.int (128 : Int32)), (.int (b4 &&& (192 : Int32)))] := s90
                    |>.icmpN d1_189 (cmpF (cd := .ne) cnd91) rfl
                    |>.iload d1_192 rfl rfl
                    |>.sipush (192 : Int32) d1_194 rfl rfl
                    |>.iand d1_197 rfl
                    |>.sipush (128 : Int32) d1_198 rfl rfl
                  by_cases cnd94 : (b4 &&& (192 : Int32)).toInt = (128 : Int)
                  · have s96 : Sit p l e _ s m _ below meth c _ st n0 0 0 _ 210 #[.val (.ref a), .val (.int q), .val (.int b1), .val (.int b2), .val (.int b3), .val (.int ov), .val (.int by_), .val (.int b4)] [(.int (240 : Int32)), (.int b1)] := s93
                      |>.icmpY d1_201 (cmpT (cd := .eq) cnd94) (by decide) (by decide)
                      |>.iloadN d1_206 rfl rfl
                      |>.sipush (240 : Int32) d1_207 rfl rfl
                    have s97 : Sit p l e _ s m _ below meth c _ st n0 0 0 _ 267 #[.val (.ref a), .val (.int q), .val (.int b1), .val (.int b2), .val (.int b3), .val (.int ov), .val (.int by_), .val (.int b4)] [(.int (((((b1 &&& (7 : Int32)) <<< ((18 : Int32) &&& 31)) ||| ((b2 &&& (63 : Int32)) <<< ((12 : Int32) &&& 31))) ||| ((b3 &&& (63 : Int32)) <<< ((6 : Int32) &&& 31))) ||| (b4 &&& (63 : Int32))))] := s96
                      |>.icmpY d1_210 (cmpT (cd := .ge) (show b1.toInt ≥ (240 : Int) from (Int.not_lt.mp cnd64))) (by decide) (by decide)
                      |>.iloadN d1_237 rfl rfl
                      |>.bipush (7 : Int32) d1_238 rfl rfl
                      |>.iand d1_240 rfl
                      |>.bipush (18 : Int32) d1_241 rfl rfl
                      |>.ishl d1_243 rfl
                      |>.iloadN d1_244 rfl rfl
                      |>.bipush (63 : Int32) d1_245 rfl rfl
                      |>.iand d1_247 rfl
                      |>.bipush (12 : Int32) d1_248 rfl rfl
                      |>.ishl d1_250 rfl
                      |>.ior d1_251 rfl
                      |>.iload d1_252 rfl rfl
                      |>.bipush (63 : Int32) d1_254 rfl rfl
                      |>.iand d1_256 rfl
                      |>.bipush (6 : Int32) d1_257 rfl rfl
                      |>.ishl d1_259 rfl
                      |>.ior d1_260 rfl
                      |>.iload d1_261 rfl rfl
                      |>.bipush (63 : Int32) d1_263 rfl rfl
                      |>.iand d1_265 rfl
                      |>.ior d1_266 rfl
                    have ev := four_val (x := b1) (y := b2) (w := b3) (z := b4) (Int.not_lt.mp cnd64) (Int.lt_of_le_of_lt (Int.not_lt.mp cnd11) (by decide)) (t2.mp cnd14).1 (t2.mp cnd14).2 (t3.mp (Decidable.not_not.mp cnd91)).1 (t3.mp (Decidable.not_not.mp cnd91)).2 (t4.mp cnd94).1 (t4.mp cnd94).2
                    exact s97.retI d1_267 hret hlk (fun hh q => ⟨res_of (by rw [ev, ← e_b1, ← e_b2, ← e_b3, ← e_b4]; exact (u4 (Int.not_lt.mp cnd64) cnd11 (t2.mp cnd14) (t3.mp (Decidable.not_not.mp cnd91)) (t4.mp cnd94) (ov0 e_ov cnd85) (by0 e_by_ cnd88)).symm), q⟩)
                  · have s95 : Sit p l e _ s m _ below meth c _ st n0 0 0 _ 205 #[.val (.ref a), .val (.int q), .val (.int b1), .val (.int b2), .val (.int b3), .val (.int ov), .val (.int by_), .val (.int b4)] [(.int (-1 : Int32))] := s93
                      |>.icmpN d1_201 (cmpF (cd := .eq) cnd94) rfl
                      |>.iconst (-1 : Int32) d1_204 rfl rfl
                    exact s95.retI d1_205 hret hlk (fun hh q => ⟨res_of (by rw [m1, ← e_b1, ← e_b2, ← e_b3, ← e_b4]; exact (n4 (Int.not_lt.mp cnd64) (fun k => cnd94 (t4.mpr k))).symm), q⟩)
        · have s98 : Sit p l e _ s m _ below meth c _ st n0 0 0 _ 64 #[.val (.ref a), .val (.int q), .val (.int b1), .val (.int b2), .unset, .unset, .unset, .unset] [(.int (((b1 &&& (31 : Int32)) <<< ((6 : Int32) &&& 31)) ||| (b2 &&& (63 : Int32))))] := s15
            |>.icmpN d1_49 (cmpF (cd := .ge) cnd16) rfl
            |>.iloadN d1_52 rfl rfl
            |>.bipush (31 : Int32) d1_53 rfl rfl
            |>.iand d1_55 rfl
            |>.bipush (6 : Int32) d1_56 rfl rfl
            |>.ishl d1_58 rfl
            |>.iloadN d1_59 rfl rfl
            |>.bipush (63 : Int32) d1_60 rfl rfl
            |>.iand d1_62 rfl
            |>.ior d1_63 rfl
          have ev := two_val (x := b1) (y := b2) (Int.le_trans (by decide) (Int.not_lt.mp cnd8)) (Int.not_le.mp cnd16) (t2.mp cnd14).1 (t2.mp cnd14).2
          exact s98.retI d1_64 hret hlk (fun hh q => ⟨res_of (by rw [ev, ← e_b1, ← e_b2]; exact (u2 cnd8 cnd16 (t2.mp cnd14)).symm), q⟩)
      · have s99 : Sit p l e _ s m _ below meth c _ st n0 0 0 _ 44 #[.val (.ref a), .val (.int q), .val (.int b1), .val (.int b2), .unset, .unset, .unset, .unset] [(.int (-1 : Int32))] := s13
          |>.icmpN d1_40 (cmpF (cd := .eq) cnd14) rfl
          |>.iconst (-1 : Int32) d1_43 rfl rfl
        exact s99.retI d1_44 hret hlk (fun hh q => ⟨res_of (by rw [m1, ← e_b1, ← e_b2]; exact (n40 (fun k => cnd14 (t2.mpr k))).symm), q⟩)
theorem pn_rm0 : plainName "com/example/schema_on_the_wire/schemaonthewire/io/TextStreamUtf8PointPinLaw" = true := by first | (simp [plainName, overriddenIn]; done) | decide +kernel
theorem ef_rm0 (m : MethodId) (u0 : Int32) (u1 : Int32) (u2 : Int32) (u3 : Int32) (u4 : Int32) (u5 : Int32) : entryFrame m #[(.int u0), (.int u1), (.int u2), (.int u3), (.int u4), (.int u5)] maxLocals = mkF m 0 #[.val (.int u0), .val (.int u1), .val (.int u2), .val (.int u3), .val (.int u4), .val (.int u5), .unset, .unset, .unset, .unset, .unset, .unset, .unset, .unset] [] := by first | (simp [entryFrame, mkF, argsToLocals, Value.category, maxLocals]; done) | rfl
set_option maxRecDepth 65536 in
set_option maxHeartbeats 40000000 in
theorem rm0 (l : Launch) (Z : State) (a0 : Array Value) (hw : ∀ d ∈ tables_1, d.before a0 Z = true) (wcs : List Jvm.Cond) (u0 : Int32) (u1 : Int32) (u2 : Int32) (u3 : Int32) (u4 : Int32) (u5 : Int32)  (h0 : Heap) (n0 : Nat) (Z0 : n0 ≤ h0.size)  : Met1 l x code maxLocals ret wcs room_1 Z #[(.int u0), (.int u1), (.int u2), (.int u3), (.int u4), (.int u5)] h0 n0 (fun v hh => v = some (.int 1)) := by
  refine Met1.of (L0 := #[.val (.int u0), .val (.int u1), .val (.int u2), .val (.int u3), .val (.int u4), .val (.int u5), .unset, .unset, .unset, .unset, .unset, .unset, .unset, .unset]) (plainFor_of_name pn_rm0) (fun m => ef_rm0 m u0 u1 u2 u3 u4 u5) Z0 ?_
  intro p e s m below meth c st s0 hZ hown hret hlk hnm hml
  have hown : s.vm.findClass "com/example/schema_on_the_wire/schemaonthewire/io/TextStreamUtf8PointPinLaw" = some m.cls := hown
  have hret : meth.sig.returnType = some .boolean := hret
  have hml : c.maxLocals = 14 := hml
  have s1 : Sit p l e _ s m _ below meth c _ st n0 0 0 _ 8 #[.val (.int u0), .val (.int u1), .val (.int u2), .val (.int u3), .val (.int u4), .val (.int u5), .unset, .unset, .unset, .unset, .unset, .unset, .unset, .unset] [(.int ((128 : Int32) ||| (u0 &&& (127 : Int32))))] := s0
    |>.sipush (128 : Int32) at_0 rfl rfl
    |>.iloadN at_3 rfl rfl
    |>.bipush (127 : Int32) at_4 rfl rfl
    |>.iand at_6 rfl
    |>.ior at_7 rfl
  obtain ⟨c1, e_c1, s2⟩ : ∃ c1 : Int32, c1 = ((128 : Int32) ||| (u0 &&& (127 : Int32))) ∧ Sit p l e _ s m _ below meth c _ st n0 0 0 _ 8 #[.val (.int u0), .val (.int u1), .val (.int u2), .val (.int u3), .val (.int u4), .val (.int u5), .unset, .unset, .unset, .unset, .unset, .unset, .unset, .unset] [(.int c1)] := ⟨_, rfl, s1⟩
  have s3 : Sit p l e _ s m _ below meth c _ st n0 0 0 _ 15 #[.val (.int u0), .val (.int u1), .val (.int u2), .val (.int u3), .val (.int u4), .val (.int u5), .val (.int c1), .unset, .unset, .unset, .unset, .unset, .unset, .unset] [(.int (u1 &&& (255 : Int32)))] := s2
    |>.istore #[.val (.int u0), .val (.int u1), .val (.int u2), .val (.int u3), .val (.int u4), .val (.int u5), .val (.int c1), .unset, .unset, .unset, .unset, .unset, .unset, .unset] at_8 rfl rfl
    |>.iloadN at_10 rfl rfl
    |>.sipush (255 : Int32) at_11 rfl rfl
    |>.iand at_14 rfl
  obtain ⟨c2, e_c2, s4⟩ : ∃ c2 : Int32, c2 = (u1 &&& (255 : Int32)) ∧ Sit p l e _ s m _ below meth c _ st n0 0 0 _ 15 #[.val (.int u0), .val (.int u1), .val (.int u2), .val (.int u3), .val (.int u4), .val (.int u5), .val (.int c1), .unset, .unset, .unset, .unset, .unset, .unset, .unset] [(.int c2)] := ⟨_, rfl, s3⟩
  have s5 : Sit p l e _ s m _ below meth c _ st n0 0 0 _ 22 #[.val (.int u0), .val (.int u1), .val (.int u2), .val (.int u3), .val (.int u4), .val (.int u5), .val (.int c1), .val (.int c2), .unset, .unset, .unset, .unset, .unset, .unset] [(.int (u2 &&& (255 : Int32)))] := s4
    |>.istore #[.val (.int u0), .val (.int u1), .val (.int u2), .val (.int u3), .val (.int u4), .val (.int u5), .val (.int c1), .val (.int c2), .unset, .unset, .unset, .unset, .unset, .unset] at_15 rfl rfl
    |>.iloadN at_17 rfl rfl
    |>.sipush (255 : Int32) at_18 rfl rfl
    |>.iand at_21 rfl
  obtain ⟨c3, e_c3, s6⟩ : ∃ c3 : Int32, c3 = (u2 &&& (255 : Int32)) ∧ Sit p l e _ s m _ below meth c _ st n0 0 0 _ 22 #[.val (.int u0), .val (.int u1), .val (.int u2), .val (.int u3), .val (.int u4), .val (.int u5), .val (.int c1), .val (.int c2), .unset, .unset, .unset, .unset, .unset, .unset] [(.int c3)] := ⟨_, rfl, s5⟩
  have s7 : Sit p l e _ s m _ below meth c _ st n0 0 0 _ 29 #[.val (.int u0), .val (.int u1), .val (.int u2), .val (.int u3), .val (.int u4), .val (.int u5), .val (.int c1), .val (.int c2), .val (.int c3), .unset, .unset, .unset, .unset, .unset] [(.int (u3 &&& (255 : Int32)))] := s6
    |>.istore #[.val (.int u0), .val (.int u1), .val (.int u2), .val (.int u3), .val (.int u4), .val (.int u5), .val (.int c1), .val (.int c2), .val (.int c3), .unset, .unset, .unset, .unset, .unset] at_22 rfl rfl
    |>.iloadN at_24 rfl rfl
    |>.sipush (255 : Int32) at_25 rfl rfl
    |>.iand at_28 rfl
  obtain ⟨c4, e_c4, s8⟩ : ∃ c4 : Int32, c4 = (u3 &&& (255 : Int32)) ∧ Sit p l e _ s m _ below meth c _ st n0 0 0 _ 29 #[.val (.int u0), .val (.int u1), .val (.int u2), .val (.int u3), .val (.int u4), .val (.int u5), .val (.int c1), .val (.int c2), .val (.int c3), .unset, .unset, .unset, .unset, .unset] [(.int c4)] := ⟨_, rfl, s7⟩
  have r1 : 128 ≤ c1.toInt ∧ c1.toInt < 256 := by rw [e_c1]; exact c1_rng u0
  have r2 : 0 ≤ c2.toInt ∧ c2.toInt < 256 := by rw [e_c2, and255]; omega
  have r3 : 0 ≤ c3.toInt ∧ c3.toInt < 256 := by rw [e_c3, and255]; omega
  have r4 : 0 ≤ c4.toInt ∧ c4.toInt < 256 := by rw [e_c4, and255]; omega
  have s9 : Sit p l e _ s m _ below meth c _ st n0 0 0 _ 36 #[.val (.int u0), .val (.int u1), .val (.int u2), .val (.int u3), .val (.int u4), .val (.int u5), .val (.int c1), .val (.int c2), .val (.int c3), .val (.int c4), .unset, .unset, .unset, .unset] [(.int (224 : Int32)), (.int c1)] := s8
    |>.istore #[.val (.int u0), .val (.int u1), .val (.int u2), .val (.int u3), .val (.int u4), .val (.int u5), .val (.int c1), .val (.int c2), .val (.int c3), .val (.int c4), .unset, .unset, .unset, .unset] at_29 rfl rfl
    |>.iload at_31 rfl rfl
    |>.sipush (224 : Int32) at_33 rfl rfl
  by_cases cnd10 : c1.toInt ≥ (224 : Int)
  · have s11 : Sit p l e _ s m _ below meth c _ st n0 0 0 _ 48 #[.val (.int u0), .val (.int u1), .val (.int u2), .val (.int u3), .val (.int u4), .val (.int u5), .val (.int c1), .val (.int c2), .val (.int c3), .val (.int c4), .unset, .unset, .unset, .unset] [(.int (240 : Int32)), (.int c1)] := s9
      |>.icmpY at_36 (cmpT (cd := .ge) cnd10) (by decide) (by decide)
      |>.iload at_43 rfl rfl
      |>.sipush (240 : Int32) at_45 rfl rfl
    by_cases cnd12 : c1.toInt ≥ (240 : Int)
    · have s13 : Sit p l e _ s m _ below meth c _ st n0 0 0 _ 56 #[.val (.int u0), .val (.int u1), .val (.int u2), .val (.int u3), .val (.int u4), .val (.int u5), .val (.int c1), .val (.int c2), .val (.int c3), .val (.int c4), .unset, .unset, .unset, .unset] [(.int (4 : Int32))] := s11
        |>.icmpY at_48 (cmpT (cd := .ge) cnd12) (by decide) (by decide)
        |>.iconst (4 : Int32) at_55 rfl rfl
      have s14 : Sit p l e _ s m _ below meth c _ st n0 0 0 _ 62 #[.val (.int u0), .val (.int u1), .val (.int u2), .val (.int u3), .val (.int u4), .val (.int u5), .val (.int c1), .val (.int c2), .val (.int c3), .val (.int c4), .val (.int (4 : Int32)), .unset, .unset, .unset] [(.int (u4 &&& (3 : Int32)))] := s13
        |>.istore #[.val (.int u0), .val (.int u1), .val (.int u2), .val (.int u3), .val (.int u4), .val (.int u5), .val (.int c1), .val (.int c2), .val (.int c3), .val (.int c4), .val (.int (4 : Int32)), .unset, .unset, .unset] at_56 rfl rfl
        |>.iload at_58 rfl rfl
        |>.iconst (3 : Int32) at_60 rfl rfl
        |>.iand at_61 rfl
      obtain ⟨f, e_f, s15⟩ : ∃ f : Int32, f = (u4 &&& (3 : Int32)) ∧ Sit p l e _ s m _ below meth c _ st n0 0 0 _ 62 #[.val (.int u0), .val (.int u1), .val (.int u2), .val (.int u3), .val (.int u4), .val (.int u5), .val (.int c1), .val (.int c2), .val (.int c3), .val (.int c4), .val (.int (4 : Int32)), .unset, .unset, .unset] [(.int f)] := ⟨_, rfl, s14⟩
      have hf : 0 ≤ f.toInt ∧ f.toInt < 4 := by
        rw [e_f, c_mask u4 3 2 (by decide) (by decide)]
        simp only [Nat.reducePow]; omega
      have s16 : Sit p l e _ s m _ below meth c _ st n0 0 0 _ 72 #[.val (.int u0), .val (.int u1), .val (.int u2), .val (.int u3), .val (.int u4), .val (.int u5), .val (.int c1), .val (.int c2), .val (.int c3), .val (.int c4), .val (.int (4 : Int32)), .val (.int f), .unset, .unset] [(.int (((7 : Int32) - (4 : Int32)) - f))] := s15
        |>.istore #[.val (.int u0), .val (.int u1), .val (.int u2), .val (.int u3), .val (.int u4), .val (.int u5), .val (.int c1), .val (.int c2), .val (.int c3), .val (.int c4), .val (.int (4 : Int32)), .val (.int f), .unset, .unset] at_62 rfl rfl
        |>.bipush (7 : Int32) at_64 rfl rfl
        |>.iload at_66 rfl rfl
        |>.isub at_68 rfl
        |>.iload at_69 rfl rfl
        |>.isub at_71 rfl
      obtain ⟨p0, e_p0, s17⟩ : ∃ p0 : Int32, p0 = (((7 : Int32) - (4 : Int32)) - f) ∧ Sit p l e _ s m _ below meth c _ st n0 0 0 _ 72 #[.val (.int u0), .val (.int u1), .val (.int u2), .val (.int u3), .val (.int u4), .val (.int u5), .val (.int c1), .val (.int c2), .val (.int c3), .val (.int c4), .val (.int (4 : Int32)), .val (.int f), .unset, .unset] [(.int p0)] := ⟨_, rfl, s16⟩
      have hp0 : p0.toInt = 7 - 4 - f.toInt := by
        rw [e_p0]
        have := c_isub ((7 : Int32) - (4 : Int32)) f
        have := rng32 (((7 : Int32) - (4 : Int32)) - f)
        have : ((7 : Int32) - (4 : Int32)).toInt = 3 := rfl
        omega
      obtain ⟨pn, hpn⟩ : ∃ pn : Nat, p0.toInt = (pn : Int) := ⟨p0.toInt.toNat, by omega⟩
      have hp7 : pn + 4 ≤ 7 := by omega
      have s18 : Sit p l e _ s m _ below meth c _ st n0 0 0 _ 76 #[.val (.int u0), .val (.int u1), .val (.int u2), .val (.int u3), .val (.int u4), .val (.int u5), .val (.int c1), .val (.int c2), .val (.int c3), .val (.int c4), .val (.int (4 : Int32)), .val (.int f), .val (.int p0), .unset] [(.int (7 : Int32))] := s17
        |>.istore #[.val (.int u0), .val (.int u1), .val (.int u2), .val (.int u3), .val (.int u4), .val (.int u5), .val (.int c1), .val (.int c2), .val (.int c3), .val (.int c4), .val (.int (4 : Int32)), .val (.int f), .val (.int p0), .unset] at_72 rfl rfl
        |>.bipush (7 : Int32) at_74 rfl rfl
      obtain ⟨b, g_b, s19⟩ := Sit.newarr (aty := .byte) (P' := fun b => fun hh => ∃ vs : List Value, vs.length = 7 ∧ AV Z hh b .byte vs) 7 s18 hZ (wi hw 0 rfl) (by decide) (by decide) (by decide) (by decide) (by decide) (fun hh hh' a _ _ _ A => ⟨_, by decide, A⟩) at_76 (pc' := 78) rfl
      have s20 : Sit p l e _ s m _ below meth c _ st n0 1 7 _ 78 #[.val (.int u0), .val (.int u1), .val (.int u2), .val (.int u3), .val (.int u4), .val (.int u5), .val (.int c1), .val (.int c2), .val (.int c3), .val (.int c4), .val (.int (4 : Int32)), .val (.int f), .val (.int p0), .unset] [(.ref b)] := s19
      have s21 : Sit p l e _ s m _ below meth c _ st n0 1 7 _ 86 #[.val (.int u0), .val (.int u1), .val (.int u2), .val (.int u3), .val (.int u4), .val (.int u5), .val (.int c1), .val (.int c2), .val (.int c3), .val (.int c4), .val (.int (4 : Int32)), .val (.int f), .val (.int p0), .val (.ref b)] [(.int u5.toInt8.toInt32), (.int (0 : Int32)), (.ref b)] := s20
        |>.astore #[.val (.int u0), .val (.int u1), .val (.int u2), .val (.int u3), .val (.int u4), .val (.int u5), .val (.int c1), .val (.int c2), .val (.int c3), .val (.int c4), .val (.int (4 : Int32)), .val (.int f), .val (.int p0), .val (.ref b)] at_78 rfl rfl
        |>.aload at_80 rfl rfl
        |>.iconst (0 : Int32) at_82 rfl rfl
        |>.iload at_83 rfl rfl
        |>.i2b at_85 rfl
      have s22 : Sit p l e _ s m _ below meth c _ st n0 1 7 _ 87 #[.val (.int u0), .val (.int u1), .val (.int u2), .val (.int u3), .val (.int u4), .val (.int u5), .val (.int c1), .val (.int c2), .val (.int c3), .val (.int c4), .val (.int (4 : Int32)), .val (.int f), .val (.int p0), .val (.ref b)] [] := s21
        |>.bastore (P' := fun hh => ∃ vs : List Value, vs.length = 7 ∧ AV Z hh b .byte vs) hZ (g_b) (by decide) (fun hh ⟨vs, n, A⟩ => ⟨vs, A, by rw [n]; decide⟩) (fun hh hh' ⟨vs, n, A⟩ X => ⟨_, by rw [List.length_set]; exact n, A.set X⟩) at_86 rfl
      have s23 : Sit p l e _ s m _ below meth c _ st n0 1 7 _ 96 #[.val (.int u0), .val (.int u1), .val (.int u2), .val (.int u3), .val (.int u4), .val (.int u5), .val (.int c1), .val (.int c2), .val (.int c3), .val (.int c4), .val (.int (4 : Int32)), .val (.int f), .val (.int p0), .val (.ref b)] [(.int (ushr32 u5 (8 : Int32)).toInt8.toInt32), (.int (1 : Int32)), (.ref b)] := s22
        |>.aload at_87 rfl rfl
        |>.iconst (1 : Int32) at_89 rfl rfl
        |>.iload at_90 rfl rfl
        |>.bipush (8 : Int32) at_92 rfl rfl
        |>.iushr at_94 rfl
        |>.i2b at_95 rfl
      have s24 : Sit p l e _ s m _ below meth c _ st n0 1 7 _ 97 #[.val (.int u0), .val (.int u1), .val (.int u2), .val (.int u3), .val (.int u4), .val (.int u5), .val (.int c1), .val (.int c2), .val (.int c3), .val (.int c4), .val (.int (4 : Int32)), .val (.int f), .val (.int p0), .val (.ref b)] [] := s23
        |>.bastore (P' := fun hh => ∃ vs : List Value, vs.length = 7 ∧ AV Z hh b .byte vs) hZ (g_b) (by decide) (fun hh ⟨vs, n, A⟩ => ⟨vs, A, by rw [n]; decide⟩) (fun hh hh' ⟨vs, n, A⟩ X => ⟨_, by rw [List.length_set]; exact n, A.set X⟩) at_96 rfl
      have s25 : Sit p l e _ s m _ below meth c _ st n0 1 7 _ 106 #[.val (.int u0), .val (.int u1), .val (.int u2), .val (.int u3), .val (.int u4), .val (.int u5), .val (.int c1), .val (.int c2), .val (.int c3), .val (.int c4), .val (.int (4 : Int32)), .val (.int f), .val (.int p0), .val (.ref b)] [(.int (ushr32 u5 (16 : Int32)).toInt8.toInt32), (.int (2 : Int32)), (.ref b)] := s24
        |>.aload at_97 rfl rfl
        |>.iconst (2 : Int32) at_99 rfl rfl
        |>.iload at_100 rfl rfl
        |>.bipush (16 : Int32) at_102 rfl rfl
        |>.iushr at_104 rfl
        |>.i2b at_105 rfl
      have s26 : Sit p l e _ s m _ below meth c _ st n0 1 7 _ 107 #[.val (.int u0), .val (.int u1), .val (.int u2), .val (.int u3), .val (.int u4), .val (.int u5), .val (.int c1), .val (.int c2), .val (.int c3), .val (.int c4), .val (.int (4 : Int32)), .val (.int f), .val (.int p0), .val (.ref b)] [] := s25
        |>.bastore (P' := fun hh => ∃ vs : List Value, vs.length = 7 ∧ AV Z hh b .byte vs) hZ (g_b) (by decide) (fun hh ⟨vs, n, A⟩ => ⟨vs, A, by rw [n]; decide⟩) (fun hh hh' ⟨vs, n, A⟩ X => ⟨_, by rw [List.length_set]; exact n, A.set X⟩) at_106 rfl
      have s27 : Sit p l e _ s m _ below meth c _ st n0 1 7 _ 116 #[.val (.int u0), .val (.int u1), .val (.int u2), .val (.int u3), .val (.int u4), .val (.int u5), .val (.int c1), .val (.int c2), .val (.int c3), .val (.int c4), .val (.int (4 : Int32)), .val (.int f), .val (.int p0), .val (.ref b)] [(.int (ushr32 u5 (24 : Int32)).toInt8.toInt32), (.int (3 : Int32)), (.ref b)] := s26
        |>.aload at_107 rfl rfl
        |>.iconst (3 : Int32) at_109 rfl rfl
        |>.iload at_110 rfl rfl
        |>.bipush (24 : Int32) at_112 rfl rfl
        |>.iushr at_114 rfl
        |>.i2b at_115 rfl
      have s28 : Sit p l e _ s m _ below meth c _ st n0 1 7 _ 117 #[.val (.int u0), .val (.int u1), .val (.int u2), .val (.int u3), .val (.int u4), .val (.int u5), .val (.int c1), .val (.int c2), .val (.int c3), .val (.int c4), .val (.int (4 : Int32)), .val (.int f), .val (.int p0), .val (.ref b)] [] := s27
        |>.bastore (P' := fun hh => ∃ vs : List Value, vs.length = 7 ∧ AV Z hh b .byte vs) hZ (g_b) (by decide) (fun hh ⟨vs, n, A⟩ => ⟨vs, A, by rw [n]; decide⟩) (fun hh hh' ⟨vs, n, A⟩ X => ⟨_, by rw [List.length_set]; exact n, A.set X⟩) at_116 rfl
      have s29 : Sit p l e _ s m _ below meth c _ st n0 1 7 _ 125 #[.val (.int u0), .val (.int u1), .val (.int u2), .val (.int u3), .val (.int u4), .val (.int u5), .val (.int c1), .val (.int c2), .val (.int c3), .val (.int c4), .val (.int (4 : Int32)), .val (.int f), .val (.int p0), .val (.ref b)] [(.int (ushr32 u5 (4 : Int32)).toInt8.toInt32), (.int (4 : Int32)), (.ref b)] := s28
        |>.aload at_117 rfl rfl
        |>.iconst (4 : Int32) at_119 rfl rfl
        |>.iload at_120 rfl rfl
        |>.iconst (4 : Int32) at_122 rfl rfl
        |>.iushr at_123 rfl
        |>.i2b at_124 rfl
      have s30 : Sit p l e _ s m _ below meth c _ st n0 1 7 _ 126 #[.val (.int u0), .val (.int u1), .val (.int u2), .val (.int u3), .val (.int u4), .val (.int u5), .val (.int c1), .val (.int c2), .val (.int c3), .val (.int c4), .val (.int (4 : Int32)), .val (.int f), .val (.int p0), .val (.ref b)] [] := s29
        |>.bastore (P' := fun hh => ∃ vs : List Value, vs.length = 7 ∧ AV Z hh b .byte vs) hZ (g_b) (by decide) (fun hh ⟨vs, n, A⟩ => ⟨vs, A, by rw [n]; decide⟩) (fun hh hh' ⟨vs, n, A⟩ X => ⟨_, by rw [List.length_set]; exact n, A.set X⟩) at_125 rfl
      have s31 : Sit p l e _ s m _ below meth c _ st n0 1 7 _ 135 #[.val (.int u0), .val (.int u1), .val (.int u2), .val (.int u3), .val (.int u4), .val (.int u5), .val (.int c1), .val (.int c2), .val (.int c3), .val (.int c4), .val (.int (4 : Int32)), .val (.int f), .val (.int p0), .val (.ref b)] [(.int (ushr32 u5 (12 : Int32)).toInt8.toInt32), (.int (5 : Int32)), (.ref b)] := s30
        |>.aload at_126 rfl rfl
        |>.iconst (5 : Int32) at_128 rfl rfl
        |>.iload at_129 rfl rfl
        |>.bipush (12 : Int32) at_131 rfl rfl
        |>.iushr at_133 rfl
        |>.i2b at_134 rfl
      have s32 : Sit p l e _ s m _ below meth c _ st n0 1 7 _ 136 #[.val (.int u0), .val (.int u1), .val (.int u2), .val (.int u3), .val (.int u4), .val (.int u5), .val (.int c1), .val (.int c2), .val (.int c3), .val (.int c4), .val (.int (4 : Int32)), .val (.int f), .val (.int p0), .val (.ref b)] [] := s31
        |>.bastore (P' := fun hh => ∃ vs : List Value, vs.length = 7 ∧ AV Z hh b .byte vs) hZ (g_b) (by decide) (fun hh ⟨vs, n, A⟩ => ⟨vs, A, by rw [n]; decide⟩) (fun hh hh' ⟨vs, n, A⟩ X => ⟨_, by rw [List.length_set]; exact n, A.set X⟩) at_135 rfl
      have s33 : Sit p l e _ s m _ below meth c _ st n0 1 7 _ 146 #[.val (.int u0), .val (.int u1), .val (.int u2), .val (.int u3), .val (.int u4), .val (.int u5), .val (.int c1), .val (.int c2), .val (.int c3), .val (.int c4), .val (.int (4 : Int32)), .val (.int f), .val (.int p0), .val (.ref b)] [(.int (ushr32 u5 (20 : Int32)).toInt8.toInt32), (.int (6 : Int32)), (.ref b)] := s32
        |>.aload at_136 rfl rfl
        |>.bipush (6 : Int32) at_138 rfl rfl
        |>.iload at_140 rfl rfl
        |>.bipush (20 : Int32) at_142 rfl rfl
        |>.iushr at_144 rfl
        |>.i2b at_145 rfl
      have s34 : Sit p l e _ s m _ below meth c _ st n0 1 7 _ 147 #[.val (.int u0), .val (.int u1), .val (.int u2), .val (.int u3), .val (.int u4), .val (.int u5), .val (.int c1), .val (.int c2), .val (.int c3), .val (.int c4), .val (.int (4 : Int32)), .val (.int f), .val (.int p0), .val (.ref b)] [] := s33
        |>.bastore (P' := fun hh => ∃ vs : List Value, vs.length = 7 ∧ AV Z hh b .byte vs) hZ (g_b) (by decide) (fun hh ⟨vs, n, A⟩ => ⟨vs, A, by rw [n]; decide⟩) (fun hh hh' ⟨vs, n, A⟩ X => ⟨_, by rw [List.length_set]; exact n, A.set X⟩) at_146 rfl
      have s35 : Sit p l e _ s m _ below meth c _ st n0 1 7 _ 154 #[.val (.int u0), .val (.int u1), .val (.int u2), .val (.int u3), .val (.int u4), .val (.int u5), .val (.int c1), .val (.int c2), .val (.int c3), .val (.int c4), .val (.int (4 : Int32)), .val (.int f), .val (.int p0), .val (.ref b)] [(.int c1.toInt8.toInt32), (.int p0), (.ref b)] := s34
        |>.aload at_147 rfl rfl
        |>.iload at_149 rfl rfl
        |>.iload at_151 rfl rfl
        |>.i2b at_153 rfl
      have i1 : p0.toInt = ((pn + 0 : Nat) : Int) := hpn
      have s36 : Sit p l e _ s m _ below meth c _ st n0 1 7 _ 155 #[.val (.int u0), .val (.int u1), .val (.int u2), .val (.int u3), .val (.int u4), .val (.int u5), .val (.int c1), .val (.int c2), .val (.int c3), .val (.int c4), .val (.int (4 : Int32)), .val (.int f), .val (.int p0), .val (.ref b)] [] := s35
        |>.bastore (P' := fun hh => ∃ vs : List Value, vs.length = 7 ∧ AV Z hh b .byte (vs.set (pn + 0) (.int c1.toInt8.toInt32.toInt8.toInt32))) hZ (g_b) (by omega) (fun hh ⟨vs, n, A⟩ => ⟨_, A, by rw [clamp_of i1]; simp only [List.length_set, n]; omega⟩) (fun hh hh' ⟨vs, n, A⟩ X => ⟨vs, n, by rw [clamp_of i1] at X; exact A.set X⟩) at_154 rfl
      have s37 : Sit p l e _ s m _ below meth c _ st n0 1 7 _ 164 #[.val (.int u0), .val (.int u1), .val (.int u2), .val (.int u3), .val (.int u4), .val (.int u5), .val (.int c1), .val (.int c2), .val (.int c3), .val (.int c4), .val (.int (4 : Int32)), .val (.int f), .val (.int p0), .val (.ref b)] [(.int c2.toInt8.toInt32), (.int (p0 + (1 : Int32))), (.ref b)] := s36
        |>.aload at_155 rfl rfl
        |>.iload at_157 rfl rfl
        |>.iconst (1 : Int32) at_159 rfl rfl
        |>.iadd at_160 rfl
        |>.iload at_161 rfl rfl
        |>.i2b at_163 rfl
      have i2 := add_small (1 : Int32) 1 rfl hpn (by omega)
      have s38 : Sit p l e _ s m _ below meth c _ st n0 1 7 _ 165 #[.val (.int u0), .val (.int u1), .val (.int u2), .val (.int u3), .val (.int u4), .val (.int u5), .val (.int c1), .val (.int c2), .val (.int c3), .val (.int c4), .val (.int (4 : Int32)), .val (.int f), .val (.int p0), .val (.ref b)] [] := s37
        |>.bastore (P' := fun hh => ∃ vs : List Value, vs.length = 7 ∧ AV Z hh b .byte ((vs.set (pn + 0) (.int c1.toInt8.toInt32.toInt8.toInt32)).set (pn + 1) (.int c2.toInt8.toInt32.toInt8.toInt32))) hZ (g_b) (by omega) (fun hh ⟨vs, n, A⟩ => ⟨_, A, by rw [clamp_of i2]; simp only [List.length_set, n]; omega⟩) (fun hh hh' ⟨vs, n, A⟩ X => ⟨vs, n, by rw [clamp_of i2] at X; exact A.set X⟩) at_164 rfl
      have s39 : Sit p l e _ s m _ below meth c _ st n0 1 7 _ 168 #[.val (.int u0), .val (.int u1), .val (.int u2), .val (.int u3), .val (.int u4), .val (.int u5), .val (.int c1), .val (.int c2), .val (.int c3), .val (.int c4), .val (.int (4 : Int32)), .val (.int f), .val (.int p0), .val (.ref b)] [(.int (3 : Int32)), (.int (4 : Int32))] := s38
        |>.iload at_165 rfl rfl
        |>.iconst (3 : Int32) at_167 rfl rfl
      have s40 : Sit p l e _ s m _ below meth c _ st n0 1 7 _ 180 #[.val (.int u0), .val (.int u1), .val (.int u2), .val (.int u3), .val (.int u4), .val (.int u5), .val (.int c1), .val (.int c2), .val (.int c3), .val (.int c4), .val (.int (4 : Int32)), .val (.int f), .val (.int p0), .val (.ref b)] [(.int c3.toInt8.toInt32), (.int (p0 + (2 : Int32))), (.ref b)] := s39
        |>.icmpN at_168 (cmpF (cd := .lt) (show ¬ ((4 : Int) < (3 : Int)) from by decide)) rfl
        |>.aload at_171 rfl rfl
        |>.iload at_173 rfl rfl
        |>.iconst (2 : Int32) at_175 rfl rfl
        |>.iadd at_176 rfl
        |>.iload at_177 rfl rfl
        |>.i2b at_179 rfl
      have i3 := add_small (2 : Int32) 2 rfl hpn (by omega)
      have s41 : Sit p l e _ s m _ below meth c _ st n0 1 7 _ 181 #[.val (.int u0), .val (.int u1), .val (.int u2), .val (.int u3), .val (.int u4), .val (.int u5), .val (.int c1), .val (.int c2), .val (.int c3), .val (.int c4), .val (.int (4 : Int32)), .val (.int f), .val (.int p0), .val (.ref b)] [] := s40
        |>.bastore (P' := fun hh => ∃ vs : List Value, vs.length = 7 ∧ AV Z hh b .byte (((vs.set (pn + 0) (.int c1.toInt8.toInt32.toInt8.toInt32)).set (pn + 1) (.int c2.toInt8.toInt32.toInt8.toInt32)).set (pn + 2) (.int c3.toInt8.toInt32.toInt8.toInt32))) hZ (g_b) (by omega) (fun hh ⟨vs, n, A⟩ => ⟨_, A, by rw [clamp_of i3]; simp only [List.length_set, n]; omega⟩) (fun hh hh' ⟨vs, n, A⟩ X => ⟨vs, n, by rw [clamp_of i3] at X; exact A.set X⟩) at_180 rfl
      have s42 : Sit p l e _ s m _ below meth c _ st n0 1 7 _ 184 #[.val (.int u0), .val (.int u1), .val (.int u2), .val (.int u3), .val (.int u4), .val (.int u5), .val (.int c1), .val (.int c2), .val (.int c3), .val (.int c4), .val (.int (4 : Int32)), .val (.int f), .val (.int p0), .val (.ref b)] [(.int (4 : Int32)), (.int (4 : Int32))] := s41
        |>.iload at_181 rfl rfl
        |>.iconst (4 : Int32) at_183 rfl rfl
      have s43 : Sit p l e _ s m _ below meth c _ st n0 1 7 _ 196 #[.val (.int u0), .val (.int u1), .val (.int u2), .val (.int u3), .val (.int u4), .val (.int u5), .val (.int c1), .val (.int c2), .val (.int c3), .val (.int c4), .val (.int (4 : Int32)), .val (.int f), .val (.int p0), .val (.ref b)] [(.int c4.toInt8.toInt32), (.int (p0 + (3 : Int32))), (.ref b)] := s42
        |>.icmpN at_184 (cmpF (cd := .ne) (show ¬ ((4 : Int) ≠ (4 : Int)) from by decide)) rfl
        |>.aload at_187 rfl rfl
        |>.iload at_189 rfl rfl
        |>.iconst (3 : Int32) at_191 rfl rfl
        |>.iadd at_192 rfl
        |>.iload at_193 rfl rfl
        |>.i2b at_195 rfl
      have i4 := add_small (3 : Int32) 3 rfl hpn (by omega)
      have s44 : Sit p l e _ s m _ below meth c _ st n0 1 7 _ 197 #[.val (.int u0), .val (.int u1), .val (.int u2), .val (.int u3), .val (.int u4), .val (.int u5), .val (.int c1), .val (.int c2), .val (.int c3), .val (.int c4), .val (.int (4 : Int32)), .val (.int f), .val (.int p0), .val (.ref b)] [] := s43
        |>.bastore (P' := fun hh => ∃ vs : List Value, vs.length = 7 ∧ AV Z hh b .byte ((((vs.set (pn + 0) (.int c1.toInt8.toInt32.toInt8.toInt32)).set (pn + 1) (.int c2.toInt8.toInt32.toInt8.toInt32)).set (pn + 2) (.int c3.toInt8.toInt32.toInt8.toInt32)).set (pn + 3) (.int c4.toInt8.toInt32.toInt8.toInt32))) hZ (g_b) (by omega) (fun hh ⟨vs, n, A⟩ => ⟨_, A, by rw [clamp_of i4]; simp only [List.length_set, n]; omega⟩) (fun hh hh' ⟨vs, n, A⟩ X => ⟨vs, n, by rw [clamp_of i4] at X; exact A.set X⟩) at_196 rfl
      have s45 : Sit p l e _ s m _ below meth c _ st n0 1 7 _ 201 #[.val (.int u0), .val (.int u1), .val (.int u2), .val (.int u3), .val (.int u4), .val (.int u5), .val (.int c1), .val (.int c2), .val (.int c3), .val (.int c4), .val (.int (4 : Int32)), .val (.int f), .val (.int p0), .val (.ref b)] [(.int p0), (.ref b)] := s44
        |>.aload at_197 rfl rfl
        |>.iload at_199 rfl rfl
      obtain ⟨vs, sx⟩ := s45.ex
      obtain ⟨_, ln, -⟩ := sx.facts
      have v1 := byte_back (x := c1) (by omega) (by omega)
      have v2 := byte_back (x := c2) (by omega) (by omega)
      have v3 := byte_back (x := c3) (by omega) (by omega)
      have v4 := byte_back (x := c4) (by omega) (by omega)
      have l1 : ((((vs.set (pn + 0) (.int c1.toInt8.toInt32.toInt8.toInt32)).set (pn + 1) (.int c2.toInt8.toInt32.toInt8.toInt32)).set (pn + 2) (.int c3.toInt8.toInt32.toInt8.toInt32)).set (pn + 3) (.int c4.toInt8.toInt32.toInt8.toInt32))[pn + 0]? = some (.int c1.toInt8.toInt32.toInt8.toInt32) := by
        rw [List.getElem?_set_ne (by omega), List.getElem?_set_ne (by omega), List.getElem?_set_ne (by omega), List.getElem?_set_self (by first | omega | (simp only [List.length_set]; omega))]
      have l2 : ((((vs.set (pn + 0) (.int c1.toInt8.toInt32.toInt8.toInt32)).set (pn + 1) (.int c2.toInt8.toInt32.toInt8.toInt32)).set (pn + 2) (.int c3.toInt8.toInt32.toInt8.toInt32)).set (pn + 3) (.int c4.toInt8.toInt32.toInt8.toInt32))[pn + 1]? = some (.int c2.toInt8.toInt32.toInt8.toInt32) := by
        rw [List.getElem?_set_ne (by omega), List.getElem?_set_ne (by omega), List.getElem?_set_self (by first | omega | (simp only [List.length_set]; omega))]
      have l3 : ((((vs.set (pn + 0) (.int c1.toInt8.toInt32.toInt8.toInt32)).set (pn + 1) (.int c2.toInt8.toInt32.toInt8.toInt32)).set (pn + 2) (.int c3.toInt8.toInt32.toInt8.toInt32)).set (pn + 3) (.int c4.toInt8.toInt32.toInt8.toInt32))[pn + 2]? = some (.int c3.toInt8.toInt32.toInt8.toInt32) := by
        rw [List.getElem?_set_ne (by omega), List.getElem?_set_self (by first | omega | (simp only [List.length_set]; omega))]
      have l4 : ((((vs.set (pn + 0) (.int c1.toInt8.toInt32.toInt8.toInt32)).set (pn + 1) (.int c2.toInt8.toInt32.toInt8.toInt32)).set (pn + 2) (.int c3.toInt8.toInt32.toInt8.toInt32)).set (pn + 3) (.int c4.toInt8.toInt32.toInt8.toInt32))[pn + 3]? = some (.int c4.toInt8.toInt32.toInt8.toInt32) := by
        rw [List.getElem?_set_self (by first | omega | (simp only [List.length_set]; omega))]
      obtain ⟨r47, s46⟩ := Sit.callS (y := (⟨"com/example/schema_on_the_wire/schemaonthewire/io/TextStream", "utf8Point", "([BI)I"⟩ : MethodName)) (W := 0) (Q := fun rv_ hh => (rv_ = some (.int (Int32.ofInt (uF c1.toInt c2.toInt c3.toInt c4.toInt)))) ∧ (fun hh => vs.length = 7 ∧ AV Z hh b .byte ((((vs.set (pn + 0) (.int c1.toInt8.toInt32.toInt8.toInt32)).set (pn + 1) (.int c2.toInt8.toInt32.toInt8.toInt32)).set (pn + 2) (.int c3.toInt8.toInt32.toInt8.toInt32)).set (pn + 3) (.int c4.toInt8.toInt32.toInt8.toInt32))) hh) [(.ref b), (.int p0)] [] sx hZ hown (wi hw 1 rfl) (wi hw 2 rfl) (wi hw 3 rfl) (wi hw 4 rfl) (by decide) (fun h1 hP hn => (rmU l Z a0 hw [] b p0 _ pn c1.toInt8.toInt32.toInt8.toInt32 c2.toInt8.toInt32.toInt8.toInt32 c3.toInt8.toInt32.toInt8.toInt32 c4.toInt8.toInt32.toInt8.toInt32 h1 n0 hn hP.2 hpn (by omega) l1 l2 (fun _ => l3) (fun _ => l4)).mono fun rv_ hh q => ⟨by rw [q.1, v1, v2, v3, v4], q.2 ▸ hP⟩) hml rfl (lenOf pd_1 rfl) at_201 (Nat.le_of_eq rfl) (by decide) (by decide) (by decide) (by decide) (pc' := 204) rfl
      obtain ⟨_, er47, _⟩ := s46.facts
      subst er47
      have s48 : Sit p l e _ s m _ below meth c _ st n0 1 7 (fun hh => vs.length = 7 ∧ AV Z hh b .byte ((((vs.set (pn + 0) (.int c1.toInt8.toInt32.toInt8.toInt32)).set (pn + 1) (.int c2.toInt8.toInt32.toInt8.toInt32)).set (pn + 2) (.int c3.toInt8.toInt32.toInt8.toInt32)).set (pn + 3) (.int c4.toInt8.toInt32.toInt8.toInt32))) 204 #[.val (.int u0), .val (.int u1), .val (.int u2), .val (.int u3), .val (.int u4), .val (.int u5), .val (.int c1), .val (.int c2), .val (.int c3), .val (.int c4), .val (.int (4 : Int32)), .val (.int f), .val (.int p0), .val (.ref b)] [(.int (Int32.ofInt (uF c1.toInt c2.toInt c3.toInt c4.toInt)))] := s46.mono fun _ q => q.2
      have s49 : Sit p l e _ s m _ below meth c _ st n0 1 7 _ 212 #[.val (.int u0), .val (.int u1), .val (.int u2), .val (.int u3), .val (.int u4), .val (.int u5), .val (.int c1), .val (.int c2), .val (.int c3), .val (.int c4), .val (.int (4 : Int32)), .val (.int f), .val (.int p0), .val (.ref b)] [(.int c4), (.int c3), (.int c2), (.int c1), (.int (Int32.ofInt (uF c1.toInt c2.toInt c3.toInt c4.toInt)))] := s48
        |>.iload at_204 rfl rfl
        |>.iload at_206 rfl rfl
        |>.iload at_208 rfl rfl
        |>.iload at_210 rfl rfl
      obtain ⟨r51, s50⟩ := Sit.callS (y := (⟨"com/example/schema_on_the_wire/schemaonthewire/io/TextStreamUtf8PointPinLaw", "expected", "(IIII)I"⟩ : MethodName)) (W := 1) (Q := fun rv_ hh => (rv_ = some (.int (Int32.ofInt (uF c1.toInt c2.toInt c3.toInt c4.toInt)))) ∧ (fun hh => vs.length = 7 ∧ AV Z hh b .byte ((((vs.set (pn + 0) (.int c1.toInt8.toInt32.toInt8.toInt32)).set (pn + 1) (.int c2.toInt8.toInt32.toInt8.toInt32)).set (pn + 2) (.int c3.toInt8.toInt32.toInt8.toInt32)).set (pn + 3) (.int c4.toInt8.toInt32.toInt8.toInt32))) hh) [(.int c1), (.int c2), (.int c3), (.int c4)] [(.int (Int32.ofInt (uF c1.toInt c2.toInt c3.toInt c4.toInt)))] s49 hZ hown (wi hw 5 rfl) (wi hw 6 rfl) (wi hw 7 rfl) (wi hw 8 rfl) (by decide) (fun h1 hP hn => (rmE l Z a0 hw [] c1 c2 c3 c4 h1 n0 hn (by omega) r2 r3 r4).mono fun rv_ hh q => ⟨q.1, q.2 ▸ hP⟩) hml rfl (lenOf pd_2 rfl) at_212 (Nat.le_of_eq rfl) (by decide) (by decide) (by decide) (by decide) (pc' := 215) rfl
      obtain ⟨_, er51, _⟩ := s50.facts
      subst er51
      have s52 : Sit p l e _ s m _ below meth c _ st n0 1 7 (fun hh => vs.length = 7 ∧ AV Z hh b .byte ((((vs.set (pn + 0) (.int c1.toInt8.toInt32.toInt8.toInt32)).set (pn + 1) (.int c2.toInt8.toInt32.toInt8.toInt32)).set (pn + 2) (.int c3.toInt8.toInt32.toInt8.toInt32)).set (pn + 3) (.int c4.toInt8.toInt32.toInt8.toInt32))) 215 #[.val (.int u0), .val (.int u1), .val (.int u2), .val (.int u3), .val (.int u4), .val (.int u5), .val (.int c1), .val (.int c2), .val (.int c3), .val (.int c4), .val (.int (4 : Int32)), .val (.int f), .val (.int p0), .val (.ref b)] [(.int (Int32.ofInt (uF c1.toInt c2.toInt c3.toInt c4.toInt))), (.int (Int32.ofInt (uF c1.toInt c2.toInt c3.toInt c4.toInt)))] := s50.mono fun _ q => q.2
      have s53 : Sit p l e _ s m _ below meth c _ st n0 1 7 _ 223 #[.val (.int u0), .val (.int u1), .val (.int u2), .val (.int u3), .val (.int u4), .val (.int u5), .val (.int c1), .val (.int c2), .val (.int c3), .val (.int c4), .val (.int (4 : Int32)), .val (.int f), .val (.int p0), .val (.ref b)] [(.int (1 : Int32))] := s52
        |>.icmpN at_215 ((neF (Classical.not_not.mp (show ¬ (¬ (Int32.ofInt (uF c1.toInt c2.toInt c3.toInt c4.toInt)) = (Int32.ofInt (uF c1.toInt c2.toInt c3.toInt c4.toInt))) from fun h => h rfl)))) rfl
        |>.iconst (1 : Int32) at_218 rfl rfl
        |>.goto at_219 (by decide) (by decide)
      exact (s53.bound (by decide) (by decide)).retZ at_223 hret hlk (fun hh q => rfl)
    · have s54 : Sit p l e _ s m _ below meth c _ st n0 0 0 _ 56 #[.val (.int u0), .val (.int u1), .val (.int u2), .val (.int u3), .val (.int u4), .val (.int u5), .val (.int c1), .val (.int c2), .val (.int c3), .val (.int c4), .unset, .unset, .unset, .unset] [(.int (3 : Int32))] := s11
        |>.icmpN at_48 (cmpF (cd := .ge) cnd12) rfl
        |>.iconst (3 : Int32) at_51 rfl rfl
        |>.goto at_52 (by decide) (by decide)
      have s55 : Sit p l e _ s m _ below meth c _ st n0 0 0 _ 62 #[.val (.int u0), .val (.int u1), .val (.int u2), .val (.int u3), .val (.int u4), .val (.int u5), .val (.int c1), .val (.int c2), .val (.int c3), .val (.int c4), .val (.int (3 : Int32)), .unset, .unset, .unset] [(.int (u4 &&& (3 : Int32)))] := s54
        |>.istore #[.val (.int u0), .val (.int u1), .val (.int u2), .val (.int u3), .val (.int u4), .val (.int u5), .val (.int c1), .val (.int c2), .val (.int c3), .val (.int c4), .val (.int (3 : Int32)), .unset, .unset, .unset] at_56 rfl rfl
        |>.iload at_58 rfl rfl
        |>.iconst (3 : Int32) at_60 rfl rfl
        |>.iand at_61 rfl
      obtain ⟨f, e_f, s56⟩ : ∃ f : Int32, f = (u4 &&& (3 : Int32)) ∧ Sit p l e _ s m _ below meth c _ st n0 0 0 _ 62 #[.val (.int u0), .val (.int u1), .val (.int u2), .val (.int u3), .val (.int u4), .val (.int u5), .val (.int c1), .val (.int c2), .val (.int c3), .val (.int c4), .val (.int (3 : Int32)), .unset, .unset, .unset] [(.int f)] := ⟨_, rfl, s55⟩
      have hf : 0 ≤ f.toInt ∧ f.toInt < 4 := by
        rw [e_f, c_mask u4 3 2 (by decide) (by decide)]
        simp only [Nat.reducePow]; omega
      have s57 : Sit p l e _ s m _ below meth c _ st n0 0 0 _ 72 #[.val (.int u0), .val (.int u1), .val (.int u2), .val (.int u3), .val (.int u4), .val (.int u5), .val (.int c1), .val (.int c2), .val (.int c3), .val (.int c4), .val (.int (3 : Int32)), .val (.int f), .unset, .unset] [(.int (((7 : Int32) - (3 : Int32)) - f))] := s56
        |>.istore #[.val (.int u0), .val (.int u1), .val (.int u2), .val (.int u3), .val (.int u4), .val (.int u5), .val (.int c1), .val (.int c2), .val (.int c3), .val (.int c4), .val (.int (3 : Int32)), .val (.int f), .unset, .unset] at_62 rfl rfl
        |>.bipush (7 : Int32) at_64 rfl rfl
        |>.iload at_66 rfl rfl
        |>.isub at_68 rfl
        |>.iload at_69 rfl rfl
        |>.isub at_71 rfl
      obtain ⟨p0, e_p0, s58⟩ : ∃ p0 : Int32, p0 = (((7 : Int32) - (3 : Int32)) - f) ∧ Sit p l e _ s m _ below meth c _ st n0 0 0 _ 72 #[.val (.int u0), .val (.int u1), .val (.int u2), .val (.int u3), .val (.int u4), .val (.int u5), .val (.int c1), .val (.int c2), .val (.int c3), .val (.int c4), .val (.int (3 : Int32)), .val (.int f), .unset, .unset] [(.int p0)] := ⟨_, rfl, s57⟩
      have hp0 : p0.toInt = 7 - 3 - f.toInt := by
        rw [e_p0]
        have := c_isub ((7 : Int32) - (3 : Int32)) f
        have := rng32 (((7 : Int32) - (3 : Int32)) - f)
        have : ((7 : Int32) - (3 : Int32)).toInt = 4 := rfl
        omega
      obtain ⟨pn, hpn⟩ : ∃ pn : Nat, p0.toInt = (pn : Int) := ⟨p0.toInt.toNat, by omega⟩
      have hp7 : pn + 3 ≤ 7 := by omega
      have s59 : Sit p l e _ s m _ below meth c _ st n0 0 0 _ 76 #[.val (.int u0), .val (.int u1), .val (.int u2), .val (.int u3), .val (.int u4), .val (.int u5), .val (.int c1), .val (.int c2), .val (.int c3), .val (.int c4), .val (.int (3 : Int32)), .val (.int f), .val (.int p0), .unset] [(.int (7 : Int32))] := s58
        |>.istore #[.val (.int u0), .val (.int u1), .val (.int u2), .val (.int u3), .val (.int u4), .val (.int u5), .val (.int c1), .val (.int c2), .val (.int c3), .val (.int c4), .val (.int (3 : Int32)), .val (.int f), .val (.int p0), .unset] at_72 rfl rfl
        |>.bipush (7 : Int32) at_74 rfl rfl
      obtain ⟨b, g_b, s60⟩ := Sit.newarr (aty := .byte) (P' := fun b => fun hh => ∃ vs : List Value, vs.length = 7 ∧ AV Z hh b .byte vs) 7 s59 hZ (wi hw 0 rfl) (by decide) (by decide) (by decide) (by decide) (by decide) (fun hh hh' a _ _ _ A => ⟨_, by decide, A⟩) at_76 (pc' := 78) rfl
      have s61 : Sit p l e _ s m _ below meth c _ st n0 1 7 _ 78 #[.val (.int u0), .val (.int u1), .val (.int u2), .val (.int u3), .val (.int u4), .val (.int u5), .val (.int c1), .val (.int c2), .val (.int c3), .val (.int c4), .val (.int (3 : Int32)), .val (.int f), .val (.int p0), .unset] [(.ref b)] := s60
      have s62 : Sit p l e _ s m _ below meth c _ st n0 1 7 _ 86 #[.val (.int u0), .val (.int u1), .val (.int u2), .val (.int u3), .val (.int u4), .val (.int u5), .val (.int c1), .val (.int c2), .val (.int c3), .val (.int c4), .val (.int (3 : Int32)), .val (.int f), .val (.int p0), .val (.ref b)] [(.int u5.toInt8.toInt32), (.int (0 : Int32)), (.ref b)] := s61
        |>.astore #[.val (.int u0), .val (.int u1), .val (.int u2), .val (.int u3), .val (.int u4), .val (.int u5), .val (.int c1), .val (.int c2), .val (.int c3), .val (.int c4), .val (.int (3 : Int32)), .val (.int f), .val (.int p0), .val (.ref b)] at_78 rfl rfl
        |>.aload at_80 rfl rfl
        |>.iconst (0 : Int32) at_82 rfl rfl
        |>.iload at_83 rfl rfl
        |>.i2b at_85 rfl
      have s63 : Sit p l e _ s m _ below meth c _ st n0 1 7 _ 87 #[.val (.int u0), .val (.int u1), .val (.int u2), .val (.int u3), .val (.int u4), .val (.int u5), .val (.int c1), .val (.int c2), .val (.int c3), .val (.int c4), .val (.int (3 : Int32)), .val (.int f), .val (.int p0), .val (.ref b)] [] := s62
        |>.bastore (P' := fun hh => ∃ vs : List Value, vs.length = 7 ∧ AV Z hh b .byte vs) hZ (g_b) (by decide) (fun hh ⟨vs, n, A⟩ => ⟨vs, A, by rw [n]; decide⟩) (fun hh hh' ⟨vs, n, A⟩ X => ⟨_, by rw [List.length_set]; exact n, A.set X⟩) at_86 rfl
      have s64 : Sit p l e _ s m _ below meth c _ st n0 1 7 _ 96 #[.val (.int u0), .val (.int u1), .val (.int u2), .val (.int u3), .val (.int u4), .val (.int u5), .val (.int c1), .val (.int c2), .val (.int c3), .val (.int c4), .val (.int (3 : Int32)), .val (.int f), .val (.int p0), .val (.ref b)] [(.int (ushr32 u5 (8 : Int32)).toInt8.toInt32), (.int (1 : Int32)), (.ref b)] := s63
        |>.aload at_87 rfl rfl
        |>.iconst (1 : Int32) at_89 rfl rfl
        |>.iload at_90 rfl rfl
        |>.bipush (8 : Int32) at_92 rfl rfl
        |>.iushr at_94 rfl
        |>.i2b at_95 rfl
      have s65 : Sit p l e _ s m _ below meth c _ st n0 1 7 _ 97 #[.val (.int u0), .val (.int u1), .val (.int u2), .val (.int u3), .val (.int u4), .val (.int u5), .val (.int c1), .val (.int c2), .val (.int c3), .val (.int c4), .val (.int (3 : Int32)), .val (.int f), .val (.int p0), .val (.ref b)] [] := s64
        |>.bastore (P' := fun hh => ∃ vs : List Value, vs.length = 7 ∧ AV Z hh b .byte vs) hZ (g_b) (by decide) (fun hh ⟨vs, n, A⟩ => ⟨vs, A, by rw [n]; decide⟩) (fun hh hh' ⟨vs, n, A⟩ X => ⟨_, by rw [List.length_set]; exact n, A.set X⟩) at_96 rfl
      have s66 : Sit p l e _ s m _ below meth c _ st n0 1 7 _ 106 #[.val (.int u0), .val (.int u1), .val (.int u2), .val (.int u3), .val (.int u4), .val (.int u5), .val (.int c1), .val (.int c2), .val (.int c3), .val (.int c4), .val (.int (3 : Int32)), .val (.int f), .val (.int p0), .val (.ref b)] [(.int (ushr32 u5 (16 : Int32)).toInt8.toInt32), (.int (2 : Int32)), (.ref b)] := s65
        |>.aload at_97 rfl rfl
        |>.iconst (2 : Int32) at_99 rfl rfl
        |>.iload at_100 rfl rfl
        |>.bipush (16 : Int32) at_102 rfl rfl
        |>.iushr at_104 rfl
        |>.i2b at_105 rfl
      have s67 : Sit p l e _ s m _ below meth c _ st n0 1 7 _ 107 #[.val (.int u0), .val (.int u1), .val (.int u2), .val (.int u3), .val (.int u4), .val (.int u5), .val (.int c1), .val (.int c2), .val (.int c3), .val (.int c4), .val (.int (3 : Int32)), .val (.int f), .val (.int p0), .val (.ref b)] [] := s66
        |>.bastore (P' := fun hh => ∃ vs : List Value, vs.length = 7 ∧ AV Z hh b .byte vs) hZ (g_b) (by decide) (fun hh ⟨vs, n, A⟩ => ⟨vs, A, by rw [n]; decide⟩) (fun hh hh' ⟨vs, n, A⟩ X => ⟨_, by rw [List.length_set]; exact n, A.set X⟩) at_106 rfl
      have s68 : Sit p l e _ s m _ below meth c _ st n0 1 7 _ 116 #[.val (.int u0), .val (.int u1), .val (.int u2), .val (.int u3), .val (.int u4), .val (.int u5), .val (.int c1), .val (.int c2), .val (.int c3), .val (.int c4), .val (.int (3 : Int32)), .val (.int f), .val (.int p0), .val (.ref b)] [(.int (ushr32 u5 (24 : Int32)).toInt8.toInt32), (.int (3 : Int32)), (.ref b)] := s67
        |>.aload at_107 rfl rfl
        |>.iconst (3 : Int32) at_109 rfl rfl
        |>.iload at_110 rfl rfl
        |>.bipush (24 : Int32) at_112 rfl rfl
        |>.iushr at_114 rfl
        |>.i2b at_115 rfl
      have s69 : Sit p l e _ s m _ below meth c _ st n0 1 7 _ 117 #[.val (.int u0), .val (.int u1), .val (.int u2), .val (.int u3), .val (.int u4), .val (.int u5), .val (.int c1), .val (.int c2), .val (.int c3), .val (.int c4), .val (.int (3 : Int32)), .val (.int f), .val (.int p0), .val (.ref b)] [] := s68
        |>.bastore (P' := fun hh => ∃ vs : List Value, vs.length = 7 ∧ AV Z hh b .byte vs) hZ (g_b) (by decide) (fun hh ⟨vs, n, A⟩ => ⟨vs, A, by rw [n]; decide⟩) (fun hh hh' ⟨vs, n, A⟩ X => ⟨_, by rw [List.length_set]; exact n, A.set X⟩) at_116 rfl
      have s70 : Sit p l e _ s m _ below meth c _ st n0 1 7 _ 125 #[.val (.int u0), .val (.int u1), .val (.int u2), .val (.int u3), .val (.int u4), .val (.int u5), .val (.int c1), .val (.int c2), .val (.int c3), .val (.int c4), .val (.int (3 : Int32)), .val (.int f), .val (.int p0), .val (.ref b)] [(.int (ushr32 u5 (4 : Int32)).toInt8.toInt32), (.int (4 : Int32)), (.ref b)] := s69
        |>.aload at_117 rfl rfl
        |>.iconst (4 : Int32) at_119 rfl rfl
        |>.iload at_120 rfl rfl
        |>.iconst (4 : Int32) at_122 rfl rfl
        |>.iushr at_123 rfl
        |>.i2b at_124 rfl
      have s71 : Sit p l e _ s m _ below meth c _ st n0 1 7 _ 126 #[.val (.int u0), .val (.int u1), .val (.int u2), .val (.int u3), .val (.int u4), .val (.int u5), .val (.int c1), .val (.int c2), .val (.int c3), .val (.int c4), .val (.int (3 : Int32)), .val (.int f), .val (.int p0), .val (.ref b)] [] := s70
        |>.bastore (P' := fun hh => ∃ vs : List Value, vs.length = 7 ∧ AV Z hh b .byte vs) hZ (g_b) (by decide) (fun hh ⟨vs, n, A⟩ => ⟨vs, A, by rw [n]; decide⟩) (fun hh hh' ⟨vs, n, A⟩ X => ⟨_, by rw [List.length_set]; exact n, A.set X⟩) at_125 rfl
      have s72 : Sit p l e _ s m _ below meth c _ st n0 1 7 _ 135 #[.val (.int u0), .val (.int u1), .val (.int u2), .val (.int u3), .val (.int u4), .val (.int u5), .val (.int c1), .val (.int c2), .val (.int c3), .val (.int c4), .val (.int (3 : Int32)), .val (.int f), .val (.int p0), .val (.ref b)] [(.int (ushr32 u5 (12 : Int32)).toInt8.toInt32), (.int (5 : Int32)), (.ref b)] := s71
        |>.aload at_126 rfl rfl
        |>.iconst (5 : Int32) at_128 rfl rfl
        |>.iload at_129 rfl rfl
        |>.bipush (12 : Int32) at_131 rfl rfl
        |>.iushr at_133 rfl
        |>.i2b at_134 rfl
      have s73 : Sit p l e _ s m _ below meth c _ st n0 1 7 _ 136 #[.val (.int u0), .val (.int u1), .val (.int u2), .val (.int u3), .val (.int u4), .val (.int u5), .val (.int c1), .val (.int c2), .val (.int c3), .val (.int c4), .val (.int (3 : Int32)), .val (.int f), .val (.int p0), .val (.ref b)] [] := s72
        |>.bastore (P' := fun hh => ∃ vs : List Value, vs.length = 7 ∧ AV Z hh b .byte vs) hZ (g_b) (by decide) (fun hh ⟨vs, n, A⟩ => ⟨vs, A, by rw [n]; decide⟩) (fun hh hh' ⟨vs, n, A⟩ X => ⟨_, by rw [List.length_set]; exact n, A.set X⟩) at_135 rfl
      have s74 : Sit p l e _ s m _ below meth c _ st n0 1 7 _ 146 #[.val (.int u0), .val (.int u1), .val (.int u2), .val (.int u3), .val (.int u4), .val (.int u5), .val (.int c1), .val (.int c2), .val (.int c3), .val (.int c4), .val (.int (3 : Int32)), .val (.int f), .val (.int p0), .val (.ref b)] [(.int (ushr32 u5 (20 : Int32)).toInt8.toInt32), (.int (6 : Int32)), (.ref b)] := s73
        |>.aload at_136 rfl rfl
        |>.bipush (6 : Int32) at_138 rfl rfl
        |>.iload at_140 rfl rfl
        |>.bipush (20 : Int32) at_142 rfl rfl
        |>.iushr at_144 rfl
        |>.i2b at_145 rfl
      have s75 : Sit p l e _ s m _ below meth c _ st n0 1 7 _ 147 #[.val (.int u0), .val (.int u1), .val (.int u2), .val (.int u3), .val (.int u4), .val (.int u5), .val (.int c1), .val (.int c2), .val (.int c3), .val (.int c4), .val (.int (3 : Int32)), .val (.int f), .val (.int p0), .val (.ref b)] [] := s74
        |>.bastore (P' := fun hh => ∃ vs : List Value, vs.length = 7 ∧ AV Z hh b .byte vs) hZ (g_b) (by decide) (fun hh ⟨vs, n, A⟩ => ⟨vs, A, by rw [n]; decide⟩) (fun hh hh' ⟨vs, n, A⟩ X => ⟨_, by rw [List.length_set]; exact n, A.set X⟩) at_146 rfl
      have s76 : Sit p l e _ s m _ below meth c _ st n0 1 7 _ 154 #[.val (.int u0), .val (.int u1), .val (.int u2), .val (.int u3), .val (.int u4), .val (.int u5), .val (.int c1), .val (.int c2), .val (.int c3), .val (.int c4), .val (.int (3 : Int32)), .val (.int f), .val (.int p0), .val (.ref b)] [(.int c1.toInt8.toInt32), (.int p0), (.ref b)] := s75
        |>.aload at_147 rfl rfl
        |>.iload at_149 rfl rfl
        |>.iload at_151 rfl rfl
        |>.i2b at_153 rfl
      have i1 : p0.toInt = ((pn + 0 : Nat) : Int) := hpn
      have s77 : Sit p l e _ s m _ below meth c _ st n0 1 7 _ 155 #[.val (.int u0), .val (.int u1), .val (.int u2), .val (.int u3), .val (.int u4), .val (.int u5), .val (.int c1), .val (.int c2), .val (.int c3), .val (.int c4), .val (.int (3 : Int32)), .val (.int f), .val (.int p0), .val (.ref b)] [] := s76
        |>.bastore (P' := fun hh => ∃ vs : List Value, vs.length = 7 ∧ AV Z hh b .byte (vs.set (pn + 0) (.int c1.toInt8.toInt32.toInt8.toInt32))) hZ (g_b) (by omega) (fun hh ⟨vs, n, A⟩ => ⟨_, A, by rw [clamp_of i1]; simp only [List.length_set, n]; omega⟩) (fun hh hh' ⟨vs, n, A⟩ X => ⟨vs, n, by rw [clamp_of i1] at X; exact A.set X⟩) at_154 rfl
      have s78 : Sit p l e _ s m _ below meth c _ st n0 1 7 _ 164 #[.val (.int u0), .val (.int u1), .val (.int u2), .val (.int u3), .val (.int u4), .val (.int u5), .val (.int c1), .val (.int c2), .val (.int c3), .val (.int c4), .val (.int (3 : Int32)), .val (.int f), .val (.int p0), .val (.ref b)] [(.int c2.toInt8.toInt32), (.int (p0 + (1 : Int32))), (.ref b)] := s77
        |>.aload at_155 rfl rfl
        |>.iload at_157 rfl rfl
        |>.iconst (1 : Int32) at_159 rfl rfl
        |>.iadd at_160 rfl
        |>.iload at_161 rfl rfl
        |>.i2b at_163 rfl
      have i2 := add_small (1 : Int32) 1 rfl hpn (by omega)
      have s79 : Sit p l e _ s m _ below meth c _ st n0 1 7 _ 165 #[.val (.int u0), .val (.int u1), .val (.int u2), .val (.int u3), .val (.int u4), .val (.int u5), .val (.int c1), .val (.int c2), .val (.int c3), .val (.int c4), .val (.int (3 : Int32)), .val (.int f), .val (.int p0), .val (.ref b)] [] := s78
        |>.bastore (P' := fun hh => ∃ vs : List Value, vs.length = 7 ∧ AV Z hh b .byte ((vs.set (pn + 0) (.int c1.toInt8.toInt32.toInt8.toInt32)).set (pn + 1) (.int c2.toInt8.toInt32.toInt8.toInt32))) hZ (g_b) (by omega) (fun hh ⟨vs, n, A⟩ => ⟨_, A, by rw [clamp_of i2]; simp only [List.length_set, n]; omega⟩) (fun hh hh' ⟨vs, n, A⟩ X => ⟨vs, n, by rw [clamp_of i2] at X; exact A.set X⟩) at_164 rfl
      have s80 : Sit p l e _ s m _ below meth c _ st n0 1 7 _ 168 #[.val (.int u0), .val (.int u1), .val (.int u2), .val (.int u3), .val (.int u4), .val (.int u5), .val (.int c1), .val (.int c2), .val (.int c3), .val (.int c4), .val (.int (3 : Int32)), .val (.int f), .val (.int p0), .val (.ref b)] [(.int (3 : Int32)), (.int (3 : Int32))] := s79
        |>.iload at_165 rfl rfl
        |>.iconst (3 : Int32) at_167 rfl rfl
      have s81 : Sit p l e _ s m _ below meth c _ st n0 1 7 _ 180 #[.val (.int u0), .val (.int u1), .val (.int u2), .val (.int u3), .val (.int u4), .val (.int u5), .val (.int c1), .val (.int c2), .val (.int c3), .val (.int c4), .val (.int (3 : Int32)), .val (.int f), .val (.int p0), .val (.ref b)] [(.int c3.toInt8.toInt32), (.int (p0 + (2 : Int32))), (.ref b)] := s80
        |>.icmpN at_168 (cmpF (cd := .lt) (show ¬ ((3 : Int) < (3 : Int)) from by decide)) rfl
        |>.aload at_171 rfl rfl
        |>.iload at_173 rfl rfl
        |>.iconst (2 : Int32) at_175 rfl rfl
        |>.iadd at_176 rfl
        |>.iload at_177 rfl rfl
        |>.i2b at_179 rfl
      have i3 := add_small (2 : Int32) 2 rfl hpn (by omega)
      have s82 : Sit p l e _ s m _ below meth c _ st n0 1 7 _ 181 #[.val (.int u0), .val (.int u1), .val (.int u2), .val (.int u3), .val (.int u4), .val (.int u5), .val (.int c1), .val (.int c2), .val (.int c3), .val (.int c4), .val (.int (3 : Int32)), .val (.int f), .val (.int p0), .val (.ref b)] [] := s81
        |>.bastore (P' := fun hh => ∃ vs : List Value, vs.length = 7 ∧ AV Z hh b .byte (((vs.set (pn + 0) (.int c1.toInt8.toInt32.toInt8.toInt32)).set (pn + 1) (.int c2.toInt8.toInt32.toInt8.toInt32)).set (pn + 2) (.int c3.toInt8.toInt32.toInt8.toInt32))) hZ (g_b) (by omega) (fun hh ⟨vs, n, A⟩ => ⟨_, A, by rw [clamp_of i3]; simp only [List.length_set, n]; omega⟩) (fun hh hh' ⟨vs, n, A⟩ X => ⟨vs, n, by rw [clamp_of i3] at X; exact A.set X⟩) at_180 rfl
      have s83 : Sit p l e _ s m _ below meth c _ st n0 1 7 _ 184 #[.val (.int u0), .val (.int u1), .val (.int u2), .val (.int u3), .val (.int u4), .val (.int u5), .val (.int c1), .val (.int c2), .val (.int c3), .val (.int c4), .val (.int (3 : Int32)), .val (.int f), .val (.int p0), .val (.ref b)] [(.int (4 : Int32)), (.int (3 : Int32))] := s82
        |>.iload at_181 rfl rfl
        |>.iconst (4 : Int32) at_183 rfl rfl
      have s84 : Sit p l e _ s m _ below meth c _ st n0 1 7 _ 201 #[.val (.int u0), .val (.int u1), .val (.int u2), .val (.int u3), .val (.int u4), .val (.int u5), .val (.int c1), .val (.int c2), .val (.int c3), .val (.int c4), .val (.int (3 : Int32)), .val (.int f), .val (.int p0), .val (.ref b)] [(.int p0), (.ref b)] := s83
        |>.icmpY at_184 (cmpT (cd := .ne) (show (3 : Int) ≠ (4 : Int) from by decide)) (by decide) (by decide)
        |>.aload at_197 rfl rfl
        |>.iload at_199 rfl rfl
      obtain ⟨vs, sx⟩ := s84.ex
      obtain ⟨_, ln, -⟩ := sx.facts
      have v1 := byte_back (x := c1) (by omega) (by omega)
      have v2 := byte_back (x := c2) (by omega) (by omega)
      have v3 := byte_back (x := c3) (by omega) (by omega)
      have v4 := byte_back (x := c4) (by omega) (by omega)
      have l1 : (((vs.set (pn + 0) (.int c1.toInt8.toInt32.toInt8.toInt32)).set (pn + 1) (.int c2.toInt8.toInt32.toInt8.toInt32)).set (pn + 2) (.int c3.toInt8.toInt32.toInt8.toInt32))[pn + 0]? = some (.int c1.toInt8.toInt32.toInt8.toInt32) := by
        rw [List.getElem?_set_ne (by omega), List.getElem?_set_ne (by omega), List.getElem?_set_self (by first | omega | (simp only [List.length_set]; omega))]
      have l2 : (((vs.set (pn + 0) (.int c1.toInt8.toInt32.toInt8.toInt32)).set (pn + 1) (.int c2.toInt8.toInt32.toInt8.toInt32)).set (pn + 2) (.int c3.toInt8.toInt32.toInt8.toInt32))[pn + 1]? = some (.int c2.toInt8.toInt32.toInt8.toInt32) := by
        rw [List.getElem?_set_ne (by omega), List.getElem?_set_self (by first | omega | (simp only [List.length_set]; omega))]
      have l3 : (((vs.set (pn + 0) (.int c1.toInt8.toInt32.toInt8.toInt32)).set (pn + 1) (.int c2.toInt8.toInt32.toInt8.toInt32)).set (pn + 2) (.int c3.toInt8.toInt32.toInt8.toInt32))[pn + 2]? = some (.int c3.toInt8.toInt32.toInt8.toInt32) := by
        rw [List.getElem?_set_self (by first | omega | (simp only [List.length_set]; omega))]
      obtain ⟨r86, s85⟩ := Sit.callS (y := (⟨"com/example/schema_on_the_wire/schemaonthewire/io/TextStream", "utf8Point", "([BI)I"⟩ : MethodName)) (W := 0) (Q := fun rv_ hh => (rv_ = some (.int (Int32.ofInt (uF c1.toInt c2.toInt c3.toInt c4.toInt)))) ∧ (fun hh => vs.length = 7 ∧ AV Z hh b .byte (((vs.set (pn + 0) (.int c1.toInt8.toInt32.toInt8.toInt32)).set (pn + 1) (.int c2.toInt8.toInt32.toInt8.toInt32)).set (pn + 2) (.int c3.toInt8.toInt32.toInt8.toInt32))) hh) [(.ref b), (.int p0)] [] sx hZ hown (wi hw 1 rfl) (wi hw 2 rfl) (wi hw 3 rfl) (wi hw 4 rfl) (by decide) (fun h1 hP hn => (rmU l Z a0 hw [] b p0 _ pn c1.toInt8.toInt32.toInt8.toInt32 c2.toInt8.toInt32.toInt8.toInt32 c3.toInt8.toInt32.toInt8.toInt32 c4.toInt8.toInt32.toInt8.toInt32 h1 n0 hn hP.2 hpn (by omega) l1 l2 (fun _ => l3) (fun h => absurd h (by omega))).mono fun rv_ hh q => ⟨by rw [q.1, v1, v2, v3, v4], q.2 ▸ hP⟩) hml rfl (lenOf pd_1 rfl) at_201 (Nat.le_of_eq rfl) (by decide) (by decide) (by decide) (by decide) (pc' := 204) rfl
      obtain ⟨_, er86, _⟩ := s85.facts
      subst er86
      have s87 : Sit p l e _ s m _ below meth c _ st n0 1 7 (fun hh => vs.length = 7 ∧ AV Z hh b .byte (((vs.set (pn + 0) (.int c1.toInt8.toInt32.toInt8.toInt32)).set (pn + 1) (.int c2.toInt8.toInt32.toInt8.toInt32)).set (pn + 2) (.int c3.toInt8.toInt32.toInt8.toInt32))) 204 #[.val (.int u0), .val (.int u1), .val (.int u2), .val (.int u3), .val (.int u4), .val (.int u5), .val (.int c1), .val (.int c2), .val (.int c3), .val (.int c4), .val (.int (3 : Int32)), .val (.int f), .val (.int p0), .val (.ref b)] [(.int (Int32.ofInt (uF c1.toInt c2.toInt c3.toInt c4.toInt)))] := s85.mono fun _ q => q.2
      have s88 : Sit p l e _ s m _ below meth c _ st n0 1 7 _ 212 #[.val (.int u0), .val (.int u1), .val (.int u2), .val (.int u3), .val (.int u4), .val (.int u5), .val (.int c1), .val (.int c2), .val (.int c3), .val (.int c4), .val (.int (3 : Int32)), .val (.int f), .val (.int p0), .val (.ref b)] [(.int c4), (.int c3), (.int c2), (.int c1), (.int (Int32.ofInt (uF c1.toInt c2.toInt c3.toInt c4.toInt)))] := s87
        |>.iload at_204 rfl rfl
        |>.iload at_206 rfl rfl
        |>.iload at_208 rfl rfl
        |>.iload at_210 rfl rfl
      obtain ⟨r90, s89⟩ := Sit.callS (y := (⟨"com/example/schema_on_the_wire/schemaonthewire/io/TextStreamUtf8PointPinLaw", "expected", "(IIII)I"⟩ : MethodName)) (W := 1) (Q := fun rv_ hh => (rv_ = some (.int (Int32.ofInt (uF c1.toInt c2.toInt c3.toInt c4.toInt)))) ∧ (fun hh => vs.length = 7 ∧ AV Z hh b .byte (((vs.set (pn + 0) (.int c1.toInt8.toInt32.toInt8.toInt32)).set (pn + 1) (.int c2.toInt8.toInt32.toInt8.toInt32)).set (pn + 2) (.int c3.toInt8.toInt32.toInt8.toInt32))) hh) [(.int c1), (.int c2), (.int c3), (.int c4)] [(.int (Int32.ofInt (uF c1.toInt c2.toInt c3.toInt c4.toInt)))] s88 hZ hown (wi hw 5 rfl) (wi hw 6 rfl) (wi hw 7 rfl) (wi hw 8 rfl) (by decide) (fun h1 hP hn => (rmE l Z a0 hw [] c1 c2 c3 c4 h1 n0 hn (by omega) r2 r3 r4).mono fun rv_ hh q => ⟨q.1, q.2 ▸ hP⟩) hml rfl (lenOf pd_2 rfl) at_212 (Nat.le_of_eq rfl) (by decide) (by decide) (by decide) (by decide) (pc' := 215) rfl
      obtain ⟨_, er90, _⟩ := s89.facts
      subst er90
      have s91 : Sit p l e _ s m _ below meth c _ st n0 1 7 (fun hh => vs.length = 7 ∧ AV Z hh b .byte (((vs.set (pn + 0) (.int c1.toInt8.toInt32.toInt8.toInt32)).set (pn + 1) (.int c2.toInt8.toInt32.toInt8.toInt32)).set (pn + 2) (.int c3.toInt8.toInt32.toInt8.toInt32))) 215 #[.val (.int u0), .val (.int u1), .val (.int u2), .val (.int u3), .val (.int u4), .val (.int u5), .val (.int c1), .val (.int c2), .val (.int c3), .val (.int c4), .val (.int (3 : Int32)), .val (.int f), .val (.int p0), .val (.ref b)] [(.int (Int32.ofInt (uF c1.toInt c2.toInt c3.toInt c4.toInt))), (.int (Int32.ofInt (uF c1.toInt c2.toInt c3.toInt c4.toInt)))] := s89.mono fun _ q => q.2
      have s92 : Sit p l e _ s m _ below meth c _ st n0 1 7 _ 223 #[.val (.int u0), .val (.int u1), .val (.int u2), .val (.int u3), .val (.int u4), .val (.int u5), .val (.int c1), .val (.int c2), .val (.int c3), .val (.int c4), .val (.int (3 : Int32)), .val (.int f), .val (.int p0), .val (.ref b)] [(.int (1 : Int32))] := s91
        |>.icmpN at_215 ((neF (Classical.not_not.mp (show ¬ (¬ (Int32.ofInt (uF c1.toInt c2.toInt c3.toInt c4.toInt)) = (Int32.ofInt (uF c1.toInt c2.toInt c3.toInt c4.toInt))) from fun h => h rfl)))) rfl
        |>.iconst (1 : Int32) at_218 rfl rfl
        |>.goto at_219 (by decide) (by decide)
      exact (s92.bound (by decide) (by decide)).retZ at_223 hret hlk (fun hh q => rfl)
  · have s93 : Sit p l e _ s m _ below meth c _ st n0 0 0 _ 56 #[.val (.int u0), .val (.int u1), .val (.int u2), .val (.int u3), .val (.int u4), .val (.int u5), .val (.int c1), .val (.int c2), .val (.int c3), .val (.int c4), .unset, .unset, .unset, .unset] [(.int (2 : Int32))] := s9
      |>.icmpN at_36 (cmpF (cd := .ge) cnd10) rfl
      |>.iconst (2 : Int32) at_39 rfl rfl
      |>.goto at_40 (by decide) (by decide)
    have s94 : Sit p l e _ s m _ below meth c _ st n0 0 0 _ 62 #[.val (.int u0), .val (.int u1), .val (.int u2), .val (.int u3), .val (.int u4), .val (.int u5), .val (.int c1), .val (.int c2), .val (.int c3), .val (.int c4), .val (.int (2 : Int32)), .unset, .unset, .unset] [(.int (u4 &&& (3 : Int32)))] := s93
      |>.istore #[.val (.int u0), .val (.int u1), .val (.int u2), .val (.int u3), .val (.int u4), .val (.int u5), .val (.int c1), .val (.int c2), .val (.int c3), .val (.int c4), .val (.int (2 : Int32)), .unset, .unset, .unset] at_56 rfl rfl
      |>.iload at_58 rfl rfl
      |>.iconst (3 : Int32) at_60 rfl rfl
      |>.iand at_61 rfl
    obtain ⟨f, e_f, s95⟩ : ∃ f : Int32, f = (u4 &&& (3 : Int32)) ∧ Sit p l e _ s m _ below meth c _ st n0 0 0 _ 62 #[.val (.int u0), .val (.int u1), .val (.int u2), .val (.int u3), .val (.int u4), .val (.int u5), .val (.int c1), .val (.int c2), .val (.int c3), .val (.int c4), .val (.int (2 : Int32)), .unset, .unset, .unset] [(.int f)] := ⟨_, rfl, s94⟩
    have hf : 0 ≤ f.toInt ∧ f.toInt < 4 := by
      rw [e_f, c_mask u4 3 2 (by decide) (by decide)]
      simp only [Nat.reducePow]; omega
    have s96 : Sit p l e _ s m _ below meth c _ st n0 0 0 _ 72 #[.val (.int u0), .val (.int u1), .val (.int u2), .val (.int u3), .val (.int u4), .val (.int u5), .val (.int c1), .val (.int c2), .val (.int c3), .val (.int c4), .val (.int (2 : Int32)), .val (.int f), .unset, .unset] [(.int (((7 : Int32) - (2 : Int32)) - f))] := s95
      |>.istore #[.val (.int u0), .val (.int u1), .val (.int u2), .val (.int u3), .val (.int u4), .val (.int u5), .val (.int c1), .val (.int c2), .val (.int c3), .val (.int c4), .val (.int (2 : Int32)), .val (.int f), .unset, .unset] at_62 rfl rfl
      |>.bipush (7 : Int32) at_64 rfl rfl
      |>.iload at_66 rfl rfl
      |>.isub at_68 rfl
      |>.iload at_69 rfl rfl
      |>.isub at_71 rfl
    obtain ⟨p0, e_p0, s97⟩ : ∃ p0 : Int32, p0 = (((7 : Int32) - (2 : Int32)) - f) ∧ Sit p l e _ s m _ below meth c _ st n0 0 0 _ 72 #[.val (.int u0), .val (.int u1), .val (.int u2), .val (.int u3), .val (.int u4), .val (.int u5), .val (.int c1), .val (.int c2), .val (.int c3), .val (.int c4), .val (.int (2 : Int32)), .val (.int f), .unset, .unset] [(.int p0)] := ⟨_, rfl, s96⟩
    have hp0 : p0.toInt = 7 - 2 - f.toInt := by
      rw [e_p0]
      have := c_isub ((7 : Int32) - (2 : Int32)) f
      have := rng32 (((7 : Int32) - (2 : Int32)) - f)
      have : ((7 : Int32) - (2 : Int32)).toInt = 5 := rfl
      omega
    obtain ⟨pn, hpn⟩ : ∃ pn : Nat, p0.toInt = (pn : Int) := ⟨p0.toInt.toNat, by omega⟩
    have hp7 : pn + 2 ≤ 7 := by omega
    have s98 : Sit p l e _ s m _ below meth c _ st n0 0 0 _ 76 #[.val (.int u0), .val (.int u1), .val (.int u2), .val (.int u3), .val (.int u4), .val (.int u5), .val (.int c1), .val (.int c2), .val (.int c3), .val (.int c4), .val (.int (2 : Int32)), .val (.int f), .val (.int p0), .unset] [(.int (7 : Int32))] := s97
      |>.istore #[.val (.int u0), .val (.int u1), .val (.int u2), .val (.int u3), .val (.int u4), .val (.int u5), .val (.int c1), .val (.int c2), .val (.int c3), .val (.int c4), .val (.int (2 : Int32)), .val (.int f), .val (.int p0), .unset] at_72 rfl rfl
      |>.bipush (7 : Int32) at_74 rfl rfl
    obtain ⟨b, g_b, s99⟩ := Sit.newarr (aty := .byte) (P' := fun b => fun hh => ∃ vs : List Value, vs.length = 7 ∧ AV Z hh b .byte vs) 7 s98 hZ (wi hw 0 rfl) (by decide) (by decide) (by decide) (by decide) (by decide) (fun hh hh' a _ _ _ A => ⟨_, by decide, A⟩) at_76 (pc' := 78) rfl
    have s100 : Sit p l e _ s m _ below meth c _ st n0 1 7 _ 78 #[.val (.int u0), .val (.int u1), .val (.int u2), .val (.int u3), .val (.int u4), .val (.int u5), .val (.int c1), .val (.int c2), .val (.int c3), .val (.int c4), .val (.int (2 : Int32)), .val (.int f), .val (.int p0), .unset] [(.ref b)] := s99
    have s101 : Sit p l e _ s m _ below meth c _ st n0 1 7 _ 86 #[.val (.int u0), .val (.int u1), .val (.int u2), .val (.int u3), .val (.int u4), .val (.int u5), .val (.int c1), .val (.int c2), .val (.int c3), .val (.int c4), .val (.int (2 : Int32)), .val (.int f), .val (.int p0), .val (.ref b)] [(.int u5.toInt8.toInt32), (.int (0 : Int32)), (.ref b)] := s100
      |>.astore #[.val (.int u0), .val (.int u1), .val (.int u2), .val (.int u3), .val (.int u4), .val (.int u5), .val (.int c1), .val (.int c2), .val (.int c3), .val (.int c4), .val (.int (2 : Int32)), .val (.int f), .val (.int p0), .val (.ref b)] at_78 rfl rfl
      |>.aload at_80 rfl rfl
      |>.iconst (0 : Int32) at_82 rfl rfl
      |>.iload at_83 rfl rfl
      |>.i2b at_85 rfl
    have s102 : Sit p l e _ s m _ below meth c _ st n0 1 7 _ 87 #[.val (.int u0), .val (.int u1), .val (.int u2), .val (.int u3), .val (.int u4), .val (.int u5), .val (.int c1), .val (.int c2), .val (.int c3), .val (.int c4), .val (.int (2 : Int32)), .val (.int f), .val (.int p0), .val (.ref b)] [] := s101
      |>.bastore (P' := fun hh => ∃ vs : List Value, vs.length = 7 ∧ AV Z hh b .byte vs) hZ (g_b) (by decide) (fun hh ⟨vs, n, A⟩ => ⟨vs, A, by rw [n]; decide⟩) (fun hh hh' ⟨vs, n, A⟩ X => ⟨_, by rw [List.length_set]; exact n, A.set X⟩) at_86 rfl
    have s103 : Sit p l e _ s m _ below meth c _ st n0 1 7 _ 96 #[.val (.int u0), .val (.int u1), .val (.int u2), .val (.int u3), .val (.int u4), .val (.int u5), .val (.int c1), .val (.int c2), .val (.int c3), .val (.int c4), .val (.int (2 : Int32)), .val (.int f), .val (.int p0), .val (.ref b)] [(.int (ushr32 u5 (8 : Int32)).toInt8.toInt32), (.int (1 : Int32)), (.ref b)] := s102
      |>.aload at_87 rfl rfl
      |>.iconst (1 : Int32) at_89 rfl rfl
      |>.iload at_90 rfl rfl
      |>.bipush (8 : Int32) at_92 rfl rfl
      |>.iushr at_94 rfl
      |>.i2b at_95 rfl
    have s104 : Sit p l e _ s m _ below meth c _ st n0 1 7 _ 97 #[.val (.int u0), .val (.int u1), .val (.int u2), .val (.int u3), .val (.int u4), .val (.int u5), .val (.int c1), .val (.int c2), .val (.int c3), .val (.int c4), .val (.int (2 : Int32)), .val (.int f), .val (.int p0), .val (.ref b)] [] := s103
      |>.bastore (P' := fun hh => ∃ vs : List Value, vs.length = 7 ∧ AV Z hh b .byte vs) hZ (g_b) (by decide) (fun hh ⟨vs, n, A⟩ => ⟨vs, A, by rw [n]; decide⟩) (fun hh hh' ⟨vs, n, A⟩ X => ⟨_, by rw [List.length_set]; exact n, A.set X⟩) at_96 rfl
    have s105 : Sit p l e _ s m _ below meth c _ st n0 1 7 _ 106 #[.val (.int u0), .val (.int u1), .val (.int u2), .val (.int u3), .val (.int u4), .val (.int u5), .val (.int c1), .val (.int c2), .val (.int c3), .val (.int c4), .val (.int (2 : Int32)), .val (.int f), .val (.int p0), .val (.ref b)] [(.int (ushr32 u5 (16 : Int32)).toInt8.toInt32), (.int (2 : Int32)), (.ref b)] := s104
      |>.aload at_97 rfl rfl
      |>.iconst (2 : Int32) at_99 rfl rfl
      |>.iload at_100 rfl rfl
      |>.bipush (16 : Int32) at_102 rfl rfl
      |>.iushr at_104 rfl
      |>.i2b at_105 rfl
    have s106 : Sit p l e _ s m _ below meth c _ st n0 1 7 _ 107 #[.val (.int u0), .val (.int u1), .val (.int u2), .val (.int u3), .val (.int u4), .val (.int u5), .val (.int c1), .val (.int c2), .val (.int c3), .val (.int c4), .val (.int (2 : Int32)), .val (.int f), .val (.int p0), .val (.ref b)] [] := s105
      |>.bastore (P' := fun hh => ∃ vs : List Value, vs.length = 7 ∧ AV Z hh b .byte vs) hZ (g_b) (by decide) (fun hh ⟨vs, n, A⟩ => ⟨vs, A, by rw [n]; decide⟩) (fun hh hh' ⟨vs, n, A⟩ X => ⟨_, by rw [List.length_set]; exact n, A.set X⟩) at_106 rfl
    have s107 : Sit p l e _ s m _ below meth c _ st n0 1 7 _ 116 #[.val (.int u0), .val (.int u1), .val (.int u2), .val (.int u3), .val (.int u4), .val (.int u5), .val (.int c1), .val (.int c2), .val (.int c3), .val (.int c4), .val (.int (2 : Int32)), .val (.int f), .val (.int p0), .val (.ref b)] [(.int (ushr32 u5 (24 : Int32)).toInt8.toInt32), (.int (3 : Int32)), (.ref b)] := s106
      |>.aload at_107 rfl rfl
      |>.iconst (3 : Int32) at_109 rfl rfl
      |>.iload at_110 rfl rfl
      |>.bipush (24 : Int32) at_112 rfl rfl
      |>.iushr at_114 rfl
      |>.i2b at_115 rfl
    have s108 : Sit p l e _ s m _ below meth c _ st n0 1 7 _ 117 #[.val (.int u0), .val (.int u1), .val (.int u2), .val (.int u3), .val (.int u4), .val (.int u5), .val (.int c1), .val (.int c2), .val (.int c3), .val (.int c4), .val (.int (2 : Int32)), .val (.int f), .val (.int p0), .val (.ref b)] [] := s107
      |>.bastore (P' := fun hh => ∃ vs : List Value, vs.length = 7 ∧ AV Z hh b .byte vs) hZ (g_b) (by decide) (fun hh ⟨vs, n, A⟩ => ⟨vs, A, by rw [n]; decide⟩) (fun hh hh' ⟨vs, n, A⟩ X => ⟨_, by rw [List.length_set]; exact n, A.set X⟩) at_116 rfl
    have s109 : Sit p l e _ s m _ below meth c _ st n0 1 7 _ 125 #[.val (.int u0), .val (.int u1), .val (.int u2), .val (.int u3), .val (.int u4), .val (.int u5), .val (.int c1), .val (.int c2), .val (.int c3), .val (.int c4), .val (.int (2 : Int32)), .val (.int f), .val (.int p0), .val (.ref b)] [(.int (ushr32 u5 (4 : Int32)).toInt8.toInt32), (.int (4 : Int32)), (.ref b)] := s108
      |>.aload at_117 rfl rfl
      |>.iconst (4 : Int32) at_119 rfl rfl
      |>.iload at_120 rfl rfl
      |>.iconst (4 : Int32) at_122 rfl rfl
      |>.iushr at_123 rfl
      |>.i2b at_124 rfl
    have s110 : Sit p l e _ s m _ below meth c _ st n0 1 7 _ 126 #[.val (.int u0), .val (.int u1), .val (.int u2), .val (.int u3), .val (.int u4), .val (.int u5), .val (.int c1), .val (.int c2), .val (.int c3), .val (.int c4), .val (.int (2 : Int32)), .val (.int f), .val (.int p0), .val (.ref b)] [] := s109
      |>.bastore (P' := fun hh => ∃ vs : List Value, vs.length = 7 ∧ AV Z hh b .byte vs) hZ (g_b) (by decide) (fun hh ⟨vs, n, A⟩ => ⟨vs, A, by rw [n]; decide⟩) (fun hh hh' ⟨vs, n, A⟩ X => ⟨_, by rw [List.length_set]; exact n, A.set X⟩) at_125 rfl
    have s111 : Sit p l e _ s m _ below meth c _ st n0 1 7 _ 135 #[.val (.int u0), .val (.int u1), .val (.int u2), .val (.int u3), .val (.int u4), .val (.int u5), .val (.int c1), .val (.int c2), .val (.int c3), .val (.int c4), .val (.int (2 : Int32)), .val (.int f), .val (.int p0), .val (.ref b)] [(.int (ushr32 u5 (12 : Int32)).toInt8.toInt32), (.int (5 : Int32)), (.ref b)] := s110
      |>.aload at_126 rfl rfl
      |>.iconst (5 : Int32) at_128 rfl rfl
      |>.iload at_129 rfl rfl
      |>.bipush (12 : Int32) at_131 rfl rfl
      |>.iushr at_133 rfl
      |>.i2b at_134 rfl
    have s112 : Sit p l e _ s m _ below meth c _ st n0 1 7 _ 136 #[.val (.int u0), .val (.int u1), .val (.int u2), .val (.int u3), .val (.int u4), .val (.int u5), .val (.int c1), .val (.int c2), .val (.int c3), .val (.int c4), .val (.int (2 : Int32)), .val (.int f), .val (.int p0), .val (.ref b)] [] := s111
      |>.bastore (P' := fun hh => ∃ vs : List Value, vs.length = 7 ∧ AV Z hh b .byte vs) hZ (g_b) (by decide) (fun hh ⟨vs, n, A⟩ => ⟨vs, A, by rw [n]; decide⟩) (fun hh hh' ⟨vs, n, A⟩ X => ⟨_, by rw [List.length_set]; exact n, A.set X⟩) at_135 rfl
    have s113 : Sit p l e _ s m _ below meth c _ st n0 1 7 _ 146 #[.val (.int u0), .val (.int u1), .val (.int u2), .val (.int u3), .val (.int u4), .val (.int u5), .val (.int c1), .val (.int c2), .val (.int c3), .val (.int c4), .val (.int (2 : Int32)), .val (.int f), .val (.int p0), .val (.ref b)] [(.int (ushr32 u5 (20 : Int32)).toInt8.toInt32), (.int (6 : Int32)), (.ref b)] := s112
      |>.aload at_136 rfl rfl
      |>.bipush (6 : Int32) at_138 rfl rfl
      |>.iload at_140 rfl rfl
      |>.bipush (20 : Int32) at_142 rfl rfl
      |>.iushr at_144 rfl
      |>.i2b at_145 rfl
    have s114 : Sit p l e _ s m _ below meth c _ st n0 1 7 _ 147 #[.val (.int u0), .val (.int u1), .val (.int u2), .val (.int u3), .val (.int u4), .val (.int u5), .val (.int c1), .val (.int c2), .val (.int c3), .val (.int c4), .val (.int (2 : Int32)), .val (.int f), .val (.int p0), .val (.ref b)] [] := s113
      |>.bastore (P' := fun hh => ∃ vs : List Value, vs.length = 7 ∧ AV Z hh b .byte vs) hZ (g_b) (by decide) (fun hh ⟨vs, n, A⟩ => ⟨vs, A, by rw [n]; decide⟩) (fun hh hh' ⟨vs, n, A⟩ X => ⟨_, by rw [List.length_set]; exact n, A.set X⟩) at_146 rfl
    have s115 : Sit p l e _ s m _ below meth c _ st n0 1 7 _ 154 #[.val (.int u0), .val (.int u1), .val (.int u2), .val (.int u3), .val (.int u4), .val (.int u5), .val (.int c1), .val (.int c2), .val (.int c3), .val (.int c4), .val (.int (2 : Int32)), .val (.int f), .val (.int p0), .val (.ref b)] [(.int c1.toInt8.toInt32), (.int p0), (.ref b)] := s114
      |>.aload at_147 rfl rfl
      |>.iload at_149 rfl rfl
      |>.iload at_151 rfl rfl
      |>.i2b at_153 rfl
    have i1 : p0.toInt = ((pn + 0 : Nat) : Int) := hpn
    have s116 : Sit p l e _ s m _ below meth c _ st n0 1 7 _ 155 #[.val (.int u0), .val (.int u1), .val (.int u2), .val (.int u3), .val (.int u4), .val (.int u5), .val (.int c1), .val (.int c2), .val (.int c3), .val (.int c4), .val (.int (2 : Int32)), .val (.int f), .val (.int p0), .val (.ref b)] [] := s115
      |>.bastore (P' := fun hh => ∃ vs : List Value, vs.length = 7 ∧ AV Z hh b .byte (vs.set (pn + 0) (.int c1.toInt8.toInt32.toInt8.toInt32))) hZ (g_b) (by omega) (fun hh ⟨vs, n, A⟩ => ⟨_, A, by rw [clamp_of i1]; simp only [List.length_set, n]; omega⟩) (fun hh hh' ⟨vs, n, A⟩ X => ⟨vs, n, by rw [clamp_of i1] at X; exact A.set X⟩) at_154 rfl
    have s117 : Sit p l e _ s m _ below meth c _ st n0 1 7 _ 164 #[.val (.int u0), .val (.int u1), .val (.int u2), .val (.int u3), .val (.int u4), .val (.int u5), .val (.int c1), .val (.int c2), .val (.int c3), .val (.int c4), .val (.int (2 : Int32)), .val (.int f), .val (.int p0), .val (.ref b)] [(.int c2.toInt8.toInt32), (.int (p0 + (1 : Int32))), (.ref b)] := s116
      |>.aload at_155 rfl rfl
      |>.iload at_157 rfl rfl
      |>.iconst (1 : Int32) at_159 rfl rfl
      |>.iadd at_160 rfl
      |>.iload at_161 rfl rfl
      |>.i2b at_163 rfl
    have i2 := add_small (1 : Int32) 1 rfl hpn (by omega)
    have s118 : Sit p l e _ s m _ below meth c _ st n0 1 7 _ 165 #[.val (.int u0), .val (.int u1), .val (.int u2), .val (.int u3), .val (.int u4), .val (.int u5), .val (.int c1), .val (.int c2), .val (.int c3), .val (.int c4), .val (.int (2 : Int32)), .val (.int f), .val (.int p0), .val (.ref b)] [] := s117
      |>.bastore (P' := fun hh => ∃ vs : List Value, vs.length = 7 ∧ AV Z hh b .byte ((vs.set (pn + 0) (.int c1.toInt8.toInt32.toInt8.toInt32)).set (pn + 1) (.int c2.toInt8.toInt32.toInt8.toInt32))) hZ (g_b) (by omega) (fun hh ⟨vs, n, A⟩ => ⟨_, A, by rw [clamp_of i2]; simp only [List.length_set, n]; omega⟩) (fun hh hh' ⟨vs, n, A⟩ X => ⟨vs, n, by rw [clamp_of i2] at X; exact A.set X⟩) at_164 rfl
    have s119 : Sit p l e _ s m _ below meth c _ st n0 1 7 _ 168 #[.val (.int u0), .val (.int u1), .val (.int u2), .val (.int u3), .val (.int u4), .val (.int u5), .val (.int c1), .val (.int c2), .val (.int c3), .val (.int c4), .val (.int (2 : Int32)), .val (.int f), .val (.int p0), .val (.ref b)] [(.int (3 : Int32)), (.int (2 : Int32))] := s118
      |>.iload at_165 rfl rfl
      |>.iconst (3 : Int32) at_167 rfl rfl
    have s120 : Sit p l e _ s m _ below meth c _ st n0 1 7 _ 184 #[.val (.int u0), .val (.int u1), .val (.int u2), .val (.int u3), .val (.int u4), .val (.int u5), .val (.int c1), .val (.int c2), .val (.int c3), .val (.int c4), .val (.int (2 : Int32)), .val (.int f), .val (.int p0), .val (.ref b)] [(.int (4 : Int32)), (.int (2 : Int32))] := s119
      |>.icmpY at_168 (cmpT (cd := .lt) (show (2 : Int) < (3 : Int) from by decide)) (by decide) (by decide)
      |>.iload at_181 rfl rfl
      |>.iconst (4 : Int32) at_183 rfl rfl
    have s121 : Sit p l e _ s m _ below meth c _ st n0 1 7 _ 201 #[.val (.int u0), .val (.int u1), .val (.int u2), .val (.int u3), .val (.int u4), .val (.int u5), .val (.int c1), .val (.int c2), .val (.int c3), .val (.int c4), .val (.int (2 : Int32)), .val (.int f), .val (.int p0), .val (.ref b)] [(.int p0), (.ref b)] := s120
      |>.icmpY at_184 (cmpT (cd := .ne) (show (2 : Int) ≠ (4 : Int) from by decide)) (by decide) (by decide)
      |>.aload at_197 rfl rfl
      |>.iload at_199 rfl rfl
    obtain ⟨vs, sx⟩ := s121.ex
    obtain ⟨_, ln, -⟩ := sx.facts
    have v1 := byte_back (x := c1) (by omega) (by omega)
    have v2 := byte_back (x := c2) (by omega) (by omega)
    have v3 := byte_back (x := c3) (by omega) (by omega)
    have v4 := byte_back (x := c4) (by omega) (by omega)
    have l1 : ((vs.set (pn + 0) (.int c1.toInt8.toInt32.toInt8.toInt32)).set (pn + 1) (.int c2.toInt8.toInt32.toInt8.toInt32))[pn + 0]? = some (.int c1.toInt8.toInt32.toInt8.toInt32) := by
      rw [List.getElem?_set_ne (by omega), List.getElem?_set_self (by first | omega | (simp only [List.length_set]; omega))]
    have l2 : ((vs.set (pn + 0) (.int c1.toInt8.toInt32.toInt8.toInt32)).set (pn + 1) (.int c2.toInt8.toInt32.toInt8.toInt32))[pn + 1]? = some (.int c2.toInt8.toInt32.toInt8.toInt32) := by
      rw [List.getElem?_set_self (by first | omega | (simp only [List.length_set]; omega))]
    obtain ⟨r123, s122⟩ := Sit.callS (y := (⟨"com/example/schema_on_the_wire/schemaonthewire/io/TextStream", "utf8Point", "([BI)I"⟩ : MethodName)) (W := 0) (Q := fun rv_ hh => (rv_ = some (.int (Int32.ofInt (uF c1.toInt c2.toInt c3.toInt c4.toInt)))) ∧ (fun hh => vs.length = 7 ∧ AV Z hh b .byte ((vs.set (pn + 0) (.int c1.toInt8.toInt32.toInt8.toInt32)).set (pn + 1) (.int c2.toInt8.toInt32.toInt8.toInt32))) hh) [(.ref b), (.int p0)] [] sx hZ hown (wi hw 1 rfl) (wi hw 2 rfl) (wi hw 3 rfl) (wi hw 4 rfl) (by decide) (fun h1 hP hn => (rmU l Z a0 hw [] b p0 _ pn c1.toInt8.toInt32.toInt8.toInt32 c2.toInt8.toInt32.toInt8.toInt32 c3.toInt8.toInt32.toInt8.toInt32 c4.toInt8.toInt32.toInt8.toInt32 h1 n0 hn hP.2 hpn (by omega) l1 l2 (fun h => absurd h (by omega)) (fun h => absurd h (by omega))).mono fun rv_ hh q => ⟨by rw [q.1, v1, v2, v3, v4], q.2 ▸ hP⟩) hml rfl (lenOf pd_1 rfl) at_201 (Nat.le_of_eq rfl) (by decide) (by decide) (by decide) (by decide) (pc' := 204) rfl
    obtain ⟨_, er123, _⟩ := s122.facts
    subst er123
    have s124 : Sit p l e _ s m _ below meth c _ st n0 1 7 (fun hh => vs.length = 7 ∧ AV Z hh b .byte ((vs.set (pn + 0) (.int c1.toInt8.toInt32.toInt8.toInt32)).set (pn + 1) (.int c2.toInt8.toInt32.toInt8.toInt32))) 204 #[.val (.int u0), .val (.int u1), .val (.int u2), .val (.int u3), .val (.int u4), .val (.int u5), .val (.int c1), .val (.int c2), .val (.int c3), .val (.int c4), .val (.int (2 : Int32)), .val (.int f), .val (.int p0), .val (.ref b)] [(.int (Int32.ofInt (uF c1.toInt c2.toInt c3.toInt c4.toInt)))] := s122.mono fun _ q => q.2
    have s125 : Sit p l e _ s m _ below meth c _ st n0 1 7 _ 212 #[.val (.int u0), .val (.int u1), .val (.int u2), .val (.int u3), .val (.int u4), .val (.int u5), .val (.int c1), .val (.int c2), .val (.int c3), .val (.int c4), .val (.int (2 : Int32)), .val (.int f), .val (.int p0), .val (.ref b)] [(.int c4), (.int c3), (.int c2), (.int c1), (.int (Int32.ofInt (uF c1.toInt c2.toInt c3.toInt c4.toInt)))] := s124
      |>.iload at_204 rfl rfl
      |>.iload at_206 rfl rfl
      |>.iload at_208 rfl rfl
      |>.iload at_210 rfl rfl
    obtain ⟨r127, s126⟩ := Sit.callS (y := (⟨"com/example/schema_on_the_wire/schemaonthewire/io/TextStreamUtf8PointPinLaw", "expected", "(IIII)I"⟩ : MethodName)) (W := 1) (Q := fun rv_ hh => (rv_ = some (.int (Int32.ofInt (uF c1.toInt c2.toInt c3.toInt c4.toInt)))) ∧ (fun hh => vs.length = 7 ∧ AV Z hh b .byte ((vs.set (pn + 0) (.int c1.toInt8.toInt32.toInt8.toInt32)).set (pn + 1) (.int c2.toInt8.toInt32.toInt8.toInt32))) hh) [(.int c1), (.int c2), (.int c3), (.int c4)] [(.int (Int32.ofInt (uF c1.toInt c2.toInt c3.toInt c4.toInt)))] s125 hZ hown (wi hw 5 rfl) (wi hw 6 rfl) (wi hw 7 rfl) (wi hw 8 rfl) (by decide) (fun h1 hP hn => (rmE l Z a0 hw [] c1 c2 c3 c4 h1 n0 hn (by omega) r2 r3 r4).mono fun rv_ hh q => ⟨q.1, q.2 ▸ hP⟩) hml rfl (lenOf pd_2 rfl) at_212 (Nat.le_of_eq rfl) (by decide) (by decide) (by decide) (by decide) (pc' := 215) rfl
    obtain ⟨_, er127, _⟩ := s126.facts
    subst er127
    have s128 : Sit p l e _ s m _ below meth c _ st n0 1 7 (fun hh => vs.length = 7 ∧ AV Z hh b .byte ((vs.set (pn + 0) (.int c1.toInt8.toInt32.toInt8.toInt32)).set (pn + 1) (.int c2.toInt8.toInt32.toInt8.toInt32))) 215 #[.val (.int u0), .val (.int u1), .val (.int u2), .val (.int u3), .val (.int u4), .val (.int u5), .val (.int c1), .val (.int c2), .val (.int c3), .val (.int c4), .val (.int (2 : Int32)), .val (.int f), .val (.int p0), .val (.ref b)] [(.int (Int32.ofInt (uF c1.toInt c2.toInt c3.toInt c4.toInt))), (.int (Int32.ofInt (uF c1.toInt c2.toInt c3.toInt c4.toInt)))] := s126.mono fun _ q => q.2
    have s129 : Sit p l e _ s m _ below meth c _ st n0 1 7 _ 223 #[.val (.int u0), .val (.int u1), .val (.int u2), .val (.int u3), .val (.int u4), .val (.int u5), .val (.int c1), .val (.int c2), .val (.int c3), .val (.int c4), .val (.int (2 : Int32)), .val (.int f), .val (.int p0), .val (.ref b)] [(.int (1 : Int32))] := s128
      |>.icmpN at_215 ((neF (Classical.not_not.mp (show ¬ (¬ (Int32.ofInt (uF c1.toInt c2.toInt c3.toInt c4.toInt)) = (Int32.ofInt (uF c1.toInt c2.toInt c3.toInt c4.toInt))) from fun h => h rfl)))) rfl
      |>.iconst (1 : Int32) at_218 rfl rfl
      |>.goto at_219 (by decide) (by decide)
    exact (s129.bound (by decide) (by decide)).retZ at_223 hret hlk (fun hh q => rfl)
set_option maxRecDepth 65536 in
set_option maxHeartbeats 40000000 in
theorem comes_1 {Post : Tables → Env → Array Value → State → Outcome → State → Prop} (hpost : ∀ tb e args s v u, (limb_1_1.after args s (.returned v) u = true ∧ limb_1_2.after args s (.returned v) u = true ∧ True) → FrameEnd s (.returned v) u (Jvm.fieldLocs frame_1_writes args s ++ Jvm.arrayLocs frame_1_arrays args s ++ Jvm.staticLocs frame_1_statics s) 16 128 → Post tb e args s (.returned v) u) :
    ArmFor flags0 classFile x code maxLocals ret World_1 tables_1 room_1 Calls_1 rest_1 Pre_1 Post := by
  intro l hfl _ _ p e ha hc hk s m args below hf hA hF happ hP
  obtain ⟨hcalls, hrest, hpre⟩ := hP
  obtain ⟨-, -, -, hnamed, -, -, -, hat⟩ := (Spec.applies_iff hf).mp happ
  obtain ⟨hg, hn⟩ := and_e (Cond.before_iff.mp (show (Jvm.Cond.and given_1 narrow_1).before args s = true from hpre))
  obtain ⟨g0, q0⟩ := and_e hg
  obtain ⟨g1, q1⟩ := and_e q0
  obtain ⟨g2, q2⟩ := and_e q1
  obtain ⟨g3, q3⟩ := and_e q2
  obtain ⟨g4, q4⟩ := and_e q3
  obtain ⟨g5, q5⟩ := and_e q4
  obtain ⟨w0, w1, w2, w3, w4, w5, rfl⟩ : ∃ w0 w1 w2 w3 w4 w5 : Value, args = #[w0, w1, w2, w3, w4, w5] := by
    have hs : args.size = 6 := by simpa [Cond.value, given_1] using g0
    obtain ⟨L⟩ := args
    match L, hs with
    | [w0, w1, w2, w3, w4, w5], _ => exact ⟨w0, w1, w2, w3, w4, w5, rfl⟩
  have hw := fun d (hd : d ∈ tables_1) => atoms_spec (ws := Jvm.Cond.code x code maxLocals ret :: tables_1) hat d (List.mem_cons_of_mem _ hd)
  obtain ⟨i0, ei0⟩ := is_v g1
  obtain rfl : w0 = (.int i0) := Option.some.inj ei0
  obtain ⟨i1, ei1⟩ := is_v g2
  obtain rfl : w1 = (.int i1) := Option.some.inj ei1
  obtain ⟨i2, ei2⟩ := is_v g3
  obtain rfl : w2 = (.int i2) := Option.some.inj ei2
  obtain ⟨i3, ei3⟩ := is_v g4
  obtain rfl : w3 = (.int i3) := Option.some.inj ei3
  obtain ⟨i4, ei4⟩ := is_v g5
  obtain rfl : w4 = (.int i4) := Option.some.inj ei4
  obtain ⟨i5, ei5⟩ := is_v q5
  obtain rfl : w5 = (.int i5) := Option.some.inj ei5
  obtain ⟨n, o, h1, h2, h3, _, L, rfl, ⟨N, rfl⟩, hq⟩ := rm0 l s _ hw tables_1 i0 i1 i2 i3 i4 i5 s.heap s.heap.size (Nat.le_refl _) p e ha hc hk s m _ below hf ((Spec.applies_iff_loose hf).mp happ).1 ⟨rfl, State.Warmed39.refl s, rfl⟩ trivial
  refine ⟨n, _, h1, h2, h3, hpost _ _ _ _ _ _ ⟨Cond.after_iff.mpr rfl, Cond.after_iff.mpr (eq_i res_at (Term.int_eval (1)) rfl), trivial⟩ ⟨hq.1, hq.2.1, (hq.2.2.sift fun y hy => Or.inr (N y hy)).mono (by decide) (by decide)⟩⟩
theorem main_1_1 : Claimed_1_1 := comes_1 fun _ _ _ _ _ _ h hF => ⟨h.1, hF⟩
theorem main_1_2 : Claimed_1_2 := comes_1 fun _ _ _ _ _ _ h hF => ⟨h.2.1, hF⟩
end Jvm.Pilot.@@N@@
namespace Jvm.Pilot.@@N@@
open Jvm Jvm.ClassFile Sem Op Lib Jvm.Free Jvm.Stand Jvm.Pilot.@@N@@.Jvm.D
/-! MADE BY PROGRAM (witnessworld.py) out of the Statement's table words and the real class files: 9 classes; the members and pool entries that the words name. The judged class is class 1, her method 1. -/
namespace start1
open Jvm.ClassFile
def u (s : String) : CpInfo := .utf8 (stringToUtf16 s)
/-- a pool by its gaps: so many unusable entries, then the entry; so many at the end -/
def gap : Nat → List CpInfo → List CpInfo
  | 0, r => r
  | n + 1, r => .unusable :: gap n r
def poolList (es : List (Nat × CpInfo)) (last : Nat) : List CpInfo := es.foldr (fun e r => gap e.1 (e.2 :: r)) (gap last [])
def pool (es : List (Nat × CpInfo)) (last : Nat) : Array CpInfo := ⟨poolList es last⟩
def fileOf (pool : Array CpInfo) (this : Nat) (attrs : Array Attribute := #[]) (ms : Array MethodInfo := #[]) (fl : Nat := 33) (sup : Nat := 0) (ifs : Array Nat := #[]) (fds : Array FieldInfo := #[]) : ClassFile where
  minorVersion := 0
  majorVersion := 65
  constantPool := pool
  accessFlags := fl
  thisClass := this
  superClass := sup
  interfaces := ifs
  fields := fds
  methods := ms
  attributes := attrs
def plain (name : String) (sup : Option ClassId) : Class where
  name := name
  kind := .ordinary
  loader := none
  accessFlags := 33
  super := sup
  interfaces := #[]
  cf := none
  fields := #[]
  methods := #[]
  instanceTypes := #[]
  staticTypes := #[]
  resolved := #[]
  callSites := []
  init := .initialized
  statics := none
  mirror := none

def pool0 : Array CpInfo := pool [(5, u "<init>"), (0, u "()V"), (1, .class_ 10), (1, u "java/lang/Object")] 113

def k0m0 : Method := { name := "<init>", desc := "()V", sig := { parameters := [], returnType := none }, accessFlags := 1, code := none }
/-- java/lang/Object -/
def k0 : Class := { plain "java/lang/Object" none with
  accessFlags := 33
  interfaces := #[]
  cf := some (fileOf pool0 8 #[] #[{ accessFlags := 1, nameIndex := 5, descriptorIndex := 6, attributes := #[] }] 33 0 #[] #[])
  fields := #[]
  methods := #[k0m0]
  instanceTypes := #[]
  staticTypes := #[]
  resolved := Array.replicate 124 none
  statics := none }

def pool1 : Array CpInfo := pool [(2, .class_ 4), (1, u "java/lang/Object"), (0, u "<init>"), (0, u "()V"), (0, .methodref 8 9), (0, .class_ 10), (0, .nameAndType 11 12), (0, u "com/example/schema_on_the_wire/schemaonthewire/io/TextStream"), (0, u "utf8Point"), (0, u "([BI)I"), (0, .methodref 14 15), (0, .class_ 16), (0, .nameAndType 17 18), (0, u "com/example/schema_on_the_wire/schemaonthewire/io/TextStreamUtf8PointPinLaw"), (0, u "expected"), (0, u "(IIII)I"), (0, .methodref 14 20), (0, .nameAndType 21 22), (0, u "cont"), (0, u "(I)Z"), (0, .integer 55296), (0, .integer 57343), (0, .integer 262144), (0, .integer 65536), (0, .integer 1114111), (2, u "law"), (0, u "(IIIIII)Z")] 5

def k1m0 : Method := { name := "<init>", desc := "()V", sig := { parameters := [], returnType := none }, accessFlags := 1, code := none }
def k1c1 : Code := { maxStack := 5, maxLocals := 14, code := code, exceptionTable := #[], attributes := #[] }
def k1m1 : Method := { name := "law", desc := "(IIIIII)Z", sig := { parameters := [.int, .int, .int, .int, .int, .int], returnType := some .boolean }, accessFlags := 9, code := some k1c1 }
def k1c2 : Code := { maxStack := 2, maxLocals := 1, code := method_3_code, exceptionTable := #[], attributes := #[] }
def k1m2 : Method := { name := "cont", desc := "(I)Z", sig := { parameters := [.int], returnType := some .boolean }, accessFlags := 10, code := some k1c2 }
def k1c3 : Code := { maxStack := 3, maxLocals := 6, code := method_4_code, exceptionTable := #[], attributes := #[] }
def k1m3 : Method := { name := "expected", desc := "(IIII)I", sig := { parameters := [.int, .int, .int, .int], returnType := some .int }, accessFlags := 10, code := some k1c3 }
/-- com/example/schema_on_the_wire/schemaonthewire/io/TextStreamUtf8PointPinLaw -/
def k1 : Class := { plain "com/example/schema_on_the_wire/schemaonthewire/io/TextStreamUtf8PointPinLaw" (some 0) with
  accessFlags := 49
  interfaces := #[]
  cf := some (fileOf pool1 14 #[] #[{ accessFlags := 1, nameIndex := 5, descriptorIndex := 6, attributes := #[] }, { accessFlags := 9, nameIndex := 30, descriptorIndex := 31, attributes := #[] }, { accessFlags := 10, nameIndex := 21, descriptorIndex := 22, attributes := #[] }, { accessFlags := 10, nameIndex := 17, descriptorIndex := 18, attributes := #[] }] 49 2 #[] #[])
  fields := #[]
  methods := #[k1m0, k1m1, k1m2, k1m3]
  instanceTypes := #[]
  staticTypes := #[]
  resolved := Array.replicate 37 none
  statics := none }

def pool2 : Array CpInfo := pool [(2, .class_ 4), (1, u "java/lang/Object"), (3, .class_ 10), (1, u "com/example/schema_on_the_wire/schemaonthewire/io/TextStream"), (0, u "in"), (0, u "Ljava/io/InputStream;"), (2, u "chars"), (0, u "Ljava/io/Reader;"), (2, u "family"), (0, u "Lcom/example/schema_on_the_wire/schemaonthewire/io/XmlDeclaration$Family;"), (2, u "bytes"), (0, u "Ljava/nio/ByteBuffer;"), (6, u "charset"), (0, u "Ljava/nio/charset/Charset;"), (32, u "decoder"), (0, u "Ljava/nio/charset/CharsetDecoder;"), (10, .class_ 78), (0, u "com/example/schema_on_the_wire/schemaonthewire/io/TextStream$Chars"), (62, u "LATIN_1_END"), (0, u "[B"), (16, .class_ 160), (0, u "com/example/schema_on_the_wire/schemaonthewire/io/TextStream$LongDeclaration"), (5, u "declaration"), (0, u "Lcom/example/schema_on_the_wire/schemaonthewire/io/TextStream$LongDeclaration;"), (33, u "LATIN_1_START"), (35, u "flushed"), (0, u "Z"), (2, u "atEnd"), (41, u "started"), (56, u "utf8Point"), (0, u "([BI)I"), (17, u "BYTES"), (0, u "I"), (1, u "SEQUENCE_ROOM"), (1, u "ASCII_RUN"), (1, u "MALFORMED")] 38

def k2c0 : Code := { maxStack := 3, maxLocals := 8, code := prog_125_method_20_code, exceptionTable := #[], attributes := #[] }
def k2m0 : Method := { name := "utf8Point", desc := "([BI)I", sig := { parameters := [(.array .byte), .int], returnType := some .int }, accessFlags := 8, code := some k2c0 }
/-- com/example/schema_on_the_wire/schemaonthewire/io/TextStream -/
def k2 : Class := { plain "com/example/schema_on_the_wire/schemaonthewire/io/TextStream" (some 0) with
  accessFlags := 48
  interfaces := #[]
  cf := some (fileOf pool2 8 #[.nestMembers #[77, 159]] #[{ accessFlags := 8, nameIndex := 340, descriptorIndex := 341, attributes := #[] }] 48 2 #[] #[{ accessFlags := 24, nameIndex := 359, descriptorIndex := 360, attributes := #[] }, { accessFlags := 26, nameIndex := 362, descriptorIndex := 360, attributes := #[] }, { accessFlags := 26, nameIndex := 364, descriptorIndex := 360, attributes := #[] }, { accessFlags := 24, nameIndex := 366, descriptorIndex := 360, attributes := #[] }, { accessFlags := 26, nameIndex := 201, descriptorIndex := 142, attributes := #[] }, { accessFlags := 26, nameIndex := 141, descriptorIndex := 142, attributes := #[] }, { accessFlags := 18, nameIndex := 11, descriptorIndex := 12, attributes := #[] }, { accessFlags := 18, nameIndex := 15, descriptorIndex := 16, attributes := #[] }, { accessFlags := 2, nameIndex := 31, descriptorIndex := 32, attributes := #[] }, { accessFlags := 18, nameIndex := 19, descriptorIndex := 20, attributes := #[] }, { accessFlags := 2, nameIndex := 65, descriptorIndex := 66, attributes := #[] }, { accessFlags := 18, nameIndex := 23, descriptorIndex := 24, attributes := #[] }, { accessFlags := 2, nameIndex := 166, descriptorIndex := 167, attributes := #[] }, { accessFlags := 2, nameIndex := 241, descriptorIndex := 238, attributes := #[] }, { accessFlags := 2, nameIndex := 237, descriptorIndex := 238, attributes := #[] }, { accessFlags := 2, nameIndex := 283, descriptorIndex := 238, attributes := #[] }])
  fields := #[{ name := "BYTES", type := .int, accessFlags := 24, slot := 0, constantValue := 0 }, { name := "SEQUENCE_ROOM", type := .int, accessFlags := 26, slot := 1, constantValue := 0 }, { name := "ASCII_RUN", type := .int, accessFlags := 26, slot := 2, constantValue := 0 }, { name := "MALFORMED", type := .int, accessFlags := 24, slot := 3, constantValue := 0 }, { name := "LATIN_1_START", type := (.array .byte), accessFlags := 26, slot := 4, constantValue := 0 }, { name := "LATIN_1_END", type := (.array .byte), accessFlags := 26, slot := 5, constantValue := 0 }, { name := "in", type := (.object "java/io/InputStream"), accessFlags := 18, slot := 0, constantValue := 0 }, { name := "chars", type := (.object "java/io/Reader"), accessFlags := 18, slot := 1, constantValue := 0 }, { name := "charset", type := (.object "java/nio/charset/Charset"), accessFlags := 2, slot := 2, constantValue := 0 }, { name := "family", type := (.object "com/example/schema_on_the_wire/schemaonthewire/io/XmlDeclaration$Family"), accessFlags := 18, slot := 3, constantValue := 0 }, { name := "decoder", type := (.object "java/nio/charset/CharsetDecoder"), accessFlags := 2, slot := 4, constantValue := 0 }, { name := "bytes", type := (.object "java/nio/ByteBuffer"), accessFlags := 18, slot := 5, constantValue := 0 }, { name := "declaration", type := (.object "com/example/schema_on_the_wire/schemaonthewire/io/TextStream$LongDeclaration"), accessFlags := 2, slot := 6, constantValue := 0 }, { name := "atEnd", type := .boolean, accessFlags := 2, slot := 7, constantValue := 0 }, { name := "flushed", type := .boolean, accessFlags := 2, slot := 8, constantValue := 0 }, { name := "started", type := .boolean, accessFlags := 2, slot := 9, constantValue := 0 }]
  methods := #[k2m0]
  instanceTypes := #[(.object "java/io/InputStream"), (.object "java/io/Reader"), (.object "java/nio/charset/Charset"), (.object "com/example/schema_on_the_wire/schemaonthewire/io/XmlDeclaration$Family"), (.object "java/nio/charset/CharsetDecoder"), (.object "java/nio/ByteBuffer"), (.object "com/example/schema_on_the_wire/schemaonthewire/io/TextStream$LongDeclaration"), .boolean, .boolean, .boolean]
  staticTypes := #[.int, .int, .int, .int, (.array .byte), (.array .byte)]
  resolved := Array.replicate 405 none
  statics := none }

def pool3 : Array CpInfo := pool [(1, u "java/lang/Cloneable"), (0, .class_ 1), (0, u "java/lang/Object"), (0, .class_ 3)] 3

/-- java/lang/Cloneable -/
def k3 : Class := { plain "java/lang/Cloneable" (some 0) with
  accessFlags := 1537
  interfaces := #[]
  cf := some (fileOf pool3 2 #[] #[] 1537 4 #[] #[])
  fields := #[]
  methods := #[]
  instanceTypes := #[]
  staticTypes := #[]
  resolved := Array.replicate 8 none
  statics := none }

def pool4 : Array CpInfo := pool [(1, u "java/io/Serializable"), (0, .class_ 1), (0, u "java/lang/Object"), (0, .class_ 3)] 3

/-- java/io/Serializable -/
def k4 : Class := { plain "java/io/Serializable" (some 0) with
  accessFlags := 1537
  interfaces := #[]
  cf := some (fileOf pool4 2 #[] #[] 1537 4 #[] #[])
  fields := #[]
  methods := #[]
  instanceTypes := #[]
  staticTypes := #[]
  resolved := Array.replicate 8 none
  statics := none }

/-- the primitive byte -/
def k5 : Class := { plain "byte" none with kind := .primitive 'B', accessFlags := 0x411 }
/-- [B -/
def k6 : Class := { plain "[B" (some 0) with kind := .array 5 .byte, interfaces := #[3, 4], accessFlags := 1041 }

/-- the primitive int -/
def k7 : Class := { plain "int" none with kind := .primitive 'I', accessFlags := 0x411 }
/-- [I -/
def k8 : Class := { plain "[I" (some 0) with kind := .array 7 .int, interfaces := #[3, 4], accessFlags := 1041 }

def heap : Heap := #[]
def classes : Array Class := #[k0, k1, k2, k3, k4, k5, k6, k7, k8]
def interned : List (Array UInt16 × Addr) := []
def slotsUsed : Nat := 0
def theMethod : MethodId := ⟨1, 1⟩
def args0 : Array Value := #[.int 5, .int 7, .int 2, .int 9, .int 1, .int 3]
def aboutOver (below : List Frame) : State where
  vm := { classes := classes, interned := interned.toArray }
  heap := heap
  slotsUsed := slotsUsed
  threads := #[{ frames := .invoking theMethod args0 :: below }]
def below0 : List Frame := [.native { method := ⟨0, 0⟩, args := #[] }]
def about1 : State := aboutOver below0
def p0 : Program := .bare "" "" ""
def e0 : Env := launch0.env 0 0 0
theorem w_frames : about1.frames = Frame.invoking theMethod args0 :: below0 := rfl
set_option maxRecDepth 65536 in
theorem w_args : argsFit about1.vm theMethod args0 = true := by decide +kernel
set_option maxRecDepth 65536 in
theorem w_heap : heapFits about1 = true := by decide +kernel
set_option maxRecDepth 65536 in
theorem w_runnable : about1.curStatus? = some .runnable := by decide +kernel
set_option maxRecDepth 65536 in
theorem w_alone : about1.alone = true := by decide +kernel
set_option maxRecDepth 65536 in
theorem w_named : about1.methodNamed? x = some theMethod := by decide +kernel
set_option maxRecDepth 65536 in
theorem w_hears : about1.hears theMethod below0 = true := by decide +kernel
set_option maxRecDepth 65536 in
theorem w_ripe : about1.ripe theMethod args0 below0 = true := by decide +kernel
theorem w_running : about1.status = .running := rfl
set_option maxRecDepth 65536 in
theorem w_room : about1.hasRoom e0.platform room_1 = true :=
  launch0.hasRoom_least _ room_1 (by decide +kernel) (by decide +kernel) (by decide +kernel) (by decide +kernel) (by decide +kernel) (by decide +kernel)
theorem allAtoms_all (ts : List Jvm.Cond) (a : Array Jvm.Value) (st : Jvm.State) : (allAtoms ts).before a st = ts.all (fun c => c.before a st) := by
  induction ts with
  | nil => rfl
  | cons c t ih =>
    show (Jvm.Cond.and c (allAtoms t)).before a st = _
    rw [Jvm.Cond.before_and, ih, List.all_cons]
def words1 : List Jvm.Cond := Jvm.Cond.code x code maxLocals ret :: tables_1
/-- a 'code' word, met by the world's own term for the bytes: nothing is compared byte by byte -/
theorem code_word {y : MethodName} {bytes : ByteArray} {mx : Nat} {rt : Option FieldType} {a : Array Value} {s : State} {m : MethodId} {meth : Method} {c : Code} (h1 : s.methodNamed? y = some m) (h2 : s.vm.method? m = some meth) (h3 : meth.code = some c) (h4 : c.code = bytes)
    (h5 : (c.maxLocals == mx && c.exceptionTable.isEmpty && decide (c.maxStack ≤ mostOperands) && decide (meth.sig.returnType = rt) && !meth.locks && decide (parseMethodDescriptor y.desc = some meth.sig)) = true) : (Jvm.Cond.code y bytes mx rt).before a s = true := by
  simp only [Bool.and_eq_true, beq_iff_eq, Bool.not_eq_true', decide_eq_true_eq] at h5
  obtain ⟨⟨⟨⟨⟨g1, g2⟩, g3⟩, g4⟩, g5⟩, g6⟩ := h5
  simp [Cond.before, Cond.holds, Cond.value, h1, h2, h3, h4, g1, g2, g3, g4, g5, g6]
def isCode : Jvm.Cond → Bool
  | .code _ _ _ _ => true
  | _ => false
theorem all_split {L : List Jvm.Cond} {P : Jvm.Cond → Bool} (h1 : L.all (fun c => isCode c || P c) = true) (h2 : ∀ c ∈ L.filter isCode, P c = true) : L.all P = true := by
  refine List.all_eq_true.mpr fun c hc => ?_
  have h := List.all_eq_true.mp h1 c hc
  rcases Bool.eq_false_or_eq_true (isCode c) with hi | hi
  · exact h2 c (List.mem_filter.mpr ⟨hc, hi⟩)
  · simpa [hi] using h
set_option maxRecDepth 65536 in
theorem w_c0 : (Jvm.Cond.code x code maxLocals ret).before args0 about1 = true := code_word (m := ⟨1, 1⟩) (meth := k1m1) (c := k1c1) (by decide +kernel) rfl rfl rfl (by decide +kernel)
set_option maxRecDepth 65536 in
theorem w_c1 : (Jvm.Cond.code ({ cls := "com/example/schema_on_the_wire/schemaonthewire/io/TextStream", name := "utf8Point", desc := "([BI)I" } : Jvm.MethodName) prog_125_method_20_code (8 : Nat) (Option.some Jvm.ClassFile.FieldType.int)).before args0 about1 = true := code_word (m := ⟨2, 0⟩) (meth := k2m0) (c := k2c0) (by decide +kernel) rfl rfl rfl (by decide +kernel)
set_option maxRecDepth 65536 in
theorem w_c2 : (Jvm.Cond.code ({ cls := "com/example/schema_on_the_wire/schemaonthewire/io/TextStreamUtf8PointPinLaw", name := "expected", desc := "(IIII)I" } : Jvm.MethodName) method_4_code (6 : Nat) (Option.some Jvm.ClassFile.FieldType.int)).before args0 about1 = true := code_word (m := ⟨1, 3⟩) (meth := k1m3) (c := k1c3) (by decide +kernel) rfl rfl rfl (by decide +kernel)
set_option maxRecDepth 65536 in
theorem w_c3 : (Jvm.Cond.code ({ cls := "com/example/schema_on_the_wire/schemaonthewire/io/TextStreamUtf8PointPinLaw", name := "cont", desc := "(I)Z" } : Jvm.MethodName) method_3_code (1 : Nat) (Option.some Jvm.ClassFile.FieldType.boolean)).before args0 about1 = true := code_word (m := ⟨1, 2⟩) (meth := k1m2) (c := k1c2) (by decide +kernel) rfl rfl rfl (by decide +kernel)
def codes1 : List Jvm.Cond := [Jvm.Cond.code x code maxLocals ret, Jvm.Cond.code ({ cls := "com/example/schema_on_the_wire/schemaonthewire/io/TextStream", name := "utf8Point", desc := "([BI)I" } : Jvm.MethodName) prog_125_method_20_code (8 : Nat) (Option.some Jvm.ClassFile.FieldType.int), Jvm.Cond.code ({ cls := "com/example/schema_on_the_wire/schemaonthewire/io/TextStreamUtf8PointPinLaw", name := "expected", desc := "(IIII)I" } : Jvm.MethodName) method_4_code (6 : Nat) (Option.some Jvm.ClassFile.FieldType.int), Jvm.Cond.code ({ cls := "com/example/schema_on_the_wire/schemaonthewire/io/TextStreamUtf8PointPinLaw", name := "cont", desc := "(I)Z" } : Jvm.MethodName) method_3_code (1 : Nat) (Option.some Jvm.ClassFile.FieldType.boolean)]
set_option maxRecDepth 65536 in
theorem codes_eq : words1.filter isCode = codes1 := rfl
theorem w_codes : ∀ c ∈ words1.filter isCode, c.before args0 about1 = true := by
  rw [codes_eq]
  intro c hc
  simp only [codes1, List.mem_cons, List.not_mem_nil, or_false] at hc
  rcases hc with rfl | rfl | rfl | rfl
  · exact w_c0
  · exact w_c1
  · exact w_c2
  · exact w_c3
set_option maxRecDepth 65536 in
theorem w_t1 : words1.all (fun c => isCode c || c.before args0 about1) = true := by decide +kernel
theorem w_tables : (allAtoms (Jvm.Cond.code x code maxLocals ret :: tables_1)).before args0 about1 = true := by
  rw [allAtoms_all]
  show words1.all (fun c => c.before args0 about1) = true
  refine all_split ?_ w_codes
  rw [w_t1]
set_option maxRecDepth 65536 in
theorem w_case : (Jvm.Cond.and given_1 narrow_1).before args0 about1 = true := by decide +kernel
theorem w_applies : (headSpec (Jvm.Cond.code x code maxLocals ret :: tables_1) room_1).applies x e0.platform about1 = true :=
  (Spec.applies_iff w_frames).mpr ⟨w_running, w_runnable, w_alone, w_named, w_hears, w_ripe, w_room, w_tables⟩
theorem atStart : AtStart classFile x code maxLocals ret World_1 tables_1 room_1 Calls_1 rest_1 Pre_1 launch0 p0 e0 about1 theMethod args0 below0 :=
  ⟨lists_1, trivial, launch0.admits_env _ _ _, launch0.least_env, fairChoices_fair.cas, fairChoices_fair.clock, w_frames, w_args, w_heap, w_applies, trivial, trivial, w_case⟩
end start1
theorem witness_1 : WitnessClaimed_1 := ⟨start1.p0, start1.e0, start1.about1, start1.theMethod, start1.args0, start1.below0, start1.atStart⟩
end Jvm.Pilot.@@N@@
