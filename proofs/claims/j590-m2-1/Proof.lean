import JvmDerived
import JvmDerived.Pilot.@@N@@Statement
import JvmDerived.Pilot.@@N@@Code
set_option linter.unusedVariables false
set_option linter.unusedSimpArgs false
namespace Jvm.RoadKit
open Sem ClassFile Op Lib Jvm.Stand Jvm.Free Jvm.LawKit
section New
variable {p : Program} {l : Launch} {e : Env} {R : Room} {s : State} {m : MethodId} {args : Array Value} {below : List Frame} {meth : Method} {c : Code} {T : State} {locs : List Loc} {cells slots : Nat}
theorem retI (X : Stand p l e R s m args below meth c T locs cells slots) (hx : p.tables.exec = Jvm.exec) {pc : Nat} {Ls : Array Slot} {z : Int32} {rest : List Value} (hret : meth.sig.returnType = some .int) (hd : decode c.code pc = .ok (.ireturn, 1)) {fs : List Frame}
    (hl : ∀ (f : JFrame) (acts : List Action), f.method = m → f.locked = none → f.entered = [] → (doReturn e (T.setTop f) acts (some (.int z))).1 = T.setFrames fs) : Steps p.tables e below (T.setTop (mkF m pc Ls (.int z :: rest))) (T.setFrames fs) := by
  have hm' : T.vm.method? m = some meth := X.method'
  have hn : narrow .int (.int z) = .int z := rfl
  show Steps p.tables e below (T.setTop { method := m, pc := pc, locals := Ls, stack := _ :: rest, locked := none }) _
  jvm_step X.here [X.here.top, hx, hd, hm', hret, hn]
  first | (intro acts; rw [hl _ acts rfl rfl rfl]) | rw [hl _ _ rfl rfl rfl]
  exact Steps.refl _
end New
end Jvm.RoadKit
namespace Jvm.Pilot.@@N@@
open Jvm Jvm.ClassFile Sem Op Lib Jvm.Free Jvm.Stand Jvm.LawKit Jvm.RoadKit Bundle Jvm.Pilot.@@N@@.Jvm.D

theorem wi {Z : State} {a0 : Array Value} (hw : ∀ d ∈ tables_1, d.before a0 Z = true) (i : Nat) {d : Jvm.Cond} (h : tables_1[i]? = some d) : d.before a0 Z = true := hw d (List.mem_of_getElem? h)
section OwnKit
variable {p : Program} {l : Launch} {e : Env} {R : Room} {s : State} {m : MethodId} {args : Array Value} {below : List Frame} {meth : Method} {c : Code} {bs : ByteArray} {st : State} {n0 cells slots : Nat} {P P' : Heap → Prop} {pc pc' : Nat} {L L' : Array Slot} {S S' : List Value} {Z : State} {a0 : Array Value} {own : String}
/-- where a walk stands: some state T reached from st, with what is known of its heap -/
def Sit (p : Program) (l : Launch) (e : Env) (R : Room) (s : State) (m : MethodId) (args : Array Value) (below : List Frame) (meth : Method) (c : Code) (bs : ByteArray) (st : State) (n0 cells slots : Nat) (P : Heap → Prop) (pc : Nat) (L : Array Slot) (S : List Value) : Prop :=
  ∃ (T : State) (locs : List Loc) (k n : Nat), Stand p l e R s m args below meth c T locs k n ∧ k ≤ cells ∧ n ≤ slots ∧ Fr n0 locs ∧ n0 ≤ s.heap.size ∧ P T.heap ∧ p.tables.exec = Jvm.exec ∧ c.code = bs ∧ ∀ t, Steps p.tables e below (T.setTop (mkF m pc L S)) t → Steps p.tables e below st t
theorem Sit.go (h : Sit p l e R s m args below meth c bs st n0 cells slots P pc L S)
    (f : ∀ T locs k n, Stand p l e R s m args below meth c T locs k n → p.tables.exec = Jvm.exec → c.code = bs → P T.heap → ∀ t, Steps p.tables e below (T.setTop (mkF m pc' L' S')) t → Steps p.tables e below (T.setTop (mkF m pc L S)) t) :
    Sit p l e R s m args below meth c bs st n0 cells slots P pc' L' S' := by
  obtain ⟨T, locs, k, n, X, q1, q2, q3, q4, q5, hx, hby, q⟩ := h
  exact ⟨T, locs, k, n, X, q1, q2, q3, q4, q5, hx, hby, fun t z => q t (f T locs k n X hx hby q5 t z)⟩
theorem Sit.mono (h : Sit p l e R s m args below meth c bs st n0 cells slots P pc L S) (f : ∀ hh, P hh → P' hh) : Sit p l e R s m args below meth c bs st n0 cells slots P' pc L S := by
  obtain ⟨T, locs, k, n, X, q1, q2, q3, q4, q5, r⟩ := h
  exact ⟨T, locs, k, n, X, q1, q2, q3, q4, f _ q5, r⟩
theorem Sit.bound {cells' slots' : Nat} (h : Sit p l e R s m args below meth c bs st n0 cells slots P pc L S) (h1 : cells ≤ cells') (h2 : slots ≤ slots') : Sit p l e R s m args below meth c bs st n0 cells' slots' P pc L S := by
  obtain ⟨T, locs, k, n, X, q1, q2, r⟩ := h
  exact ⟨T, locs, k, n, X, Nat.le_trans q1 h1, Nat.le_trans q2 h2, r⟩
theorem Sit.facts (h : Sit p l e R s m args below meth c bs st n0 cells slots P pc L S) : ∃ hh, P hh := by
  obtain ⟨T, locs, k, n, X, q1, q2, q3, q4, q5, r⟩ := h
  exact ⟨_, q5⟩
theorem Sit.ex {α : Type} {Q : α → Heap → Prop} (h : Sit p l e R s m args below meth c bs st n0 cells slots (fun hh => ∃ x, Q x hh) pc L S) : ∃ x, Sit p l e R s m args below meth c bs st n0 cells slots (Q x) pc L S := by
  obtain ⟨T, locs, k, n, X, q1, q2, q3, q4, ⟨x, q5⟩, r⟩ := h
  exact ⟨x, T, locs, k, n, X, q1, q2, q3, q4, q5, r⟩
theorem Sit.size (h : Sit p l e R s m args below meth c bs st n0 cells slots P pc L S) : Sit p l e R s m args below meth c bs st n0 cells slots (fun hh => P hh ∧ n0 ≤ hh.size) pc L S := by
  obtain ⟨T, locs, k, n, X, q1, q2, q3, q4, q5, r⟩ := h
  exact ⟨T, locs, k, n, X, q1, q2, q3, q4, ⟨q5, Nat.le_trans q4 X.same.2.1⟩, r⟩
/-! plain steps -/
theorem Sit.iload {k : Nat} {v : Int32} (h : Sit p l e R s m args below meth c bs st n0 cells slots P pc L S) (hd : decode bs pc = .ok (.iload k, 2)) (hl : L[k]? = some (.val (.int v))) (hp : pc + 2 = pc') : Sit p l e R s m args below meth c bs st n0 cells slots P pc' L (.int v :: S) := by
  subst hp; exact h.go fun T _ _ _ X hx hby _ t z => XS.iload X.here hx rfl (hb hby hd) hl z
theorem Sit.iloadN {k : Fin 4} {v : Int32} (h : Sit p l e R s m args below meth c bs st n0 cells slots P pc L S) (hd : decode bs pc = .ok (.iload_n k, 1)) (hl : L[k.val]? = some (.val (.int v))) (hp : pc + 1 = pc') : Sit p l e R s m args below meth c bs st n0 cells slots P pc' L (.int v :: S) := by
  subst hp; exact h.go fun T _ _ _ X hx hby _ t z => XS.iloadN X.here hx rfl (hb hby hd) hl z
theorem Sit.lload {k : Nat} {v : Int64} (h : Sit p l e R s m args below meth c bs st n0 cells slots P pc L S) (hd : decode bs pc = .ok (.lload k, 2)) (hl : L[k]? = some (.val (.long v))) (hp : pc + 2 = pc') : Sit p l e R s m args below meth c bs st n0 cells slots P pc' L (.long v :: S) := by
  subst hp; exact h.go fun T _ _ _ X hx hby _ t z => XS.lload X.here hx rfl (hb hby hd) hl z
theorem Sit.lloadN {k : Fin 4} {v : Int64} (h : Sit p l e R s m args below meth c bs st n0 cells slots P pc L S) (hd : decode bs pc = .ok (.lload_n k, 1)) (hl : L[k.val]? = some (.val (.long v))) (hp : pc + 1 = pc') : Sit p l e R s m args below meth c bs st n0 cells slots P pc' L (.long v :: S) := by
  subst hp; exact h.go fun T _ _ _ X hx hby _ t z => XS.lloadN X.here hx rfl (hb hby hd) hl z
theorem Sit.aload {k : Nat} {v : Addr} (h : Sit p l e R s m args below meth c bs st n0 cells slots P pc L S) (hd : decode bs pc = .ok (.aload k, 2)) (hl : L[k]? = some (.val (.ref v))) (hp : pc + 2 = pc') : Sit p l e R s m args below meth c bs st n0 cells slots P pc' L (.ref v :: S) := by
  subst hp; exact h.go fun T _ _ _ X hx hby _ t z => XS.aload X.here hx rfl (hb hby hd) hl rfl z
theorem Sit.aloadN {k : Fin 4} {v : Addr} (h : Sit p l e R s m args below meth c bs st n0 cells slots P pc L S) (hd : decode bs pc = .ok (.aload_n k, 1)) (hl : L[k.val]? = some (.val (.ref v))) (hp : pc + 1 = pc') : Sit p l e R s m args below meth c bs st n0 cells slots P pc' L (.ref v :: S) := by
  subst hp; exact h.go fun T _ _ _ X hx hby _ t z => XS.aloadN X.here hx rfl (hb hby hd) hl rfl z
theorem Sit.istore {k : Nat} {v : Int32} (L' : Array Slot) (h : Sit p l e R s m args below meth c bs st n0 cells slots P pc L (.int v :: S)) (hd : decode bs pc = .ok (.istore k, 2)) (hl : storeLocals L k (.int v) = some L') (hp : pc + 2 = pc') : Sit p l e R s m args below meth c bs st n0 cells slots P pc' L' S := by
  subst hp; exact h.go fun T _ _ _ X hx hby _ t z => XS.istore X.here hx rfl (hb hby hd) rfl hl z
theorem Sit.istoreN {k : Fin 4} {v : Int32} (L' : Array Slot) (h : Sit p l e R s m args below meth c bs st n0 cells slots P pc L (.int v :: S)) (hd : decode bs pc = .ok (.istore_n k, 1)) (hl : storeLocals L k.val (.int v) = some L') (hp : pc + 1 = pc') : Sit p l e R s m args below meth c bs st n0 cells slots P pc' L' S := by
  subst hp; exact h.go fun T _ _ _ X hx hby _ t z => XS.istoreN X.here hx rfl (hb hby hd) rfl hl z
theorem Sit.lstore {k : Nat} {v : Int64} (L' : Array Slot) (h : Sit p l e R s m args below meth c bs st n0 cells slots P pc L (.long v :: S)) (hd : decode bs pc = .ok (.lstore k, 2)) (hl : storeLocals L k (.long v) = some L') (hp : pc + 2 = pc') : Sit p l e R s m args below meth c bs st n0 cells slots P pc' L' S := by
  subst hp; exact h.go fun T _ _ _ X hx hby _ t z => XS.lstore X.here hx rfl (hb hby hd) rfl hl z
theorem Sit.lstoreN {k : Fin 4} {v : Int64} (L' : Array Slot) (h : Sit p l e R s m args below meth c bs st n0 cells slots P pc L (.long v :: S)) (hd : decode bs pc = .ok (.lstore_n k, 1)) (hl : storeLocals L k.val (.long v) = some L') (hp : pc + 1 = pc') : Sit p l e R s m args below meth c bs st n0 cells slots P pc' L' S := by
  subst hp; exact h.go fun T _ _ _ X hx hby _ t z => XS.lstoreN X.here hx rfl (hb hby hd) rfl hl z
theorem Sit.astore {k : Nat} {v : Addr} (L' : Array Slot) (h : Sit p l e R s m args below meth c bs st n0 cells slots P pc L (.ref v :: S)) (hd : decode bs pc = .ok (.astore k, 2)) (hl : storeLocals L k (.ref v) = some L') (hp : pc + 2 = pc') : Sit p l e R s m args below meth c bs st n0 cells slots P pc' L' S := by
  subst hp; exact h.go fun T _ _ _ X hx hby _ t z => XS.astore X.here hx rfl (hb hby hd) rfl rfl hl z
theorem Sit.astoreN {k : Fin 4} {v : Addr} (L' : Array Slot) (h : Sit p l e R s m args below meth c bs st n0 cells slots P pc L (.ref v :: S)) (hd : decode bs pc = .ok (.astore_n k, 1)) (hl : storeLocals L k.val (.ref v) = some L') (hp : pc + 1 = pc') : Sit p l e R s m args below meth c bs st n0 cells slots P pc' L' S := by
  subst hp; exact h.go fun T _ _ _ X hx hby _ t z => XS.astoreN X.here hx rfl (hb hby hd) rfl rfl hl z
theorem Sit.iconst {i : Int} (v : Int32) (h : Sit p l e R s m args below meth c bs st n0 cells slots P pc L S) (hd : decode bs pc = .ok (.iconst i, 1)) (hv : Int32.ofInt i = v) (hp : pc + 1 = pc') : Sit p l e R s m args below meth c bs st n0 cells slots P pc' L (.int v :: S) := by
  subst hp hv; exact h.go fun T _ _ _ X hx hby _ t z => XS.iconst X.here hx rfl (hb hby hd) z
theorem Sit.bipush {i : Int} (v : Int32) (h : Sit p l e R s m args below meth c bs st n0 cells slots P pc L S) (hd : decode bs pc = .ok (.bipush i, 2)) (hv : (Int8.ofInt i).toInt32 = v) (hp : pc + 2 = pc') : Sit p l e R s m args below meth c bs st n0 cells slots P pc' L (.int v :: S) := by
  subst hp hv; exact h.go fun T _ _ _ X hx hby _ t z => XS.bipush X.here hx rfl (hb hby hd) z
theorem Sit.sipush {i : Int} (v : Int32) (h : Sit p l e R s m args below meth c bs st n0 cells slots P pc L S) (hd : decode bs pc = .ok (.sipush i, 3)) (hv : (Int16.ofInt i).toInt32 = v) (hp : pc + 3 = pc') : Sit p l e R s m args below meth c bs st n0 cells slots P pc' L (.int v :: S) := by
  subst hp hv; exact h.go fun T _ _ _ X hx hby _ t z => XS.sipush X.here hx rfl (hb hby hd) z
theorem Sit.lconst {k : Fin 2} (v : Int64) (h : Sit p l e R s m args below meth c bs st n0 cells slots P pc L S) (hd : decode bs pc = .ok (.lconst k, 1)) (hv : Int64.ofNat k = v) (hp : pc + 1 = pc') : Sit p l e R s m args below meth c bs st n0 cells slots P pc' L (.long v :: S) := by
  subst hp hv; exact h.go fun T _ _ _ X hx hby _ t z => XS.lconst X.here hx rfl (hb hby hd) z
theorem Sit.ldc {index : Nat} {v : Int32} (h : Sit p l e R s m args below meth c bs st n0 cells slots P pc L S) (hZ : Z.Warmed39 s.vm) (hown : s.vm.findClass own = some m.cls) (w : (Cond.constant own index v).before a0 Z = true) (hd : decode bs pc = .ok (.ldc index, 2)) (hp : pc + 2 = pc') : Sit p l e R s m args below meth c bs st n0 cells slots P pc' L (.int v :: S) := by
  subst hp; exact h.go fun T _ _ _ X hx hby _ t z => X.ldcInt hx hown (mvT hZ w) (g := mkF m pc L S) rfl (hb hby hd) t z
theorem Sit.ldcw {index : Nat} {v : Int32} (h : Sit p l e R s m args below meth c bs st n0 cells slots P pc L S) (hZ : Z.Warmed39 s.vm) (hown : s.vm.findClass own = some m.cls) (w : (Cond.constant own index v).before a0 Z = true) (hd : decode bs pc = .ok (.ldc_w index, 3)) (hp : pc + 3 = pc') : Sit p l e R s m args below meth c bs st n0 cells slots P pc' L (.int v :: S) := by
  subst hp; exact h.go fun T _ _ _ X hx hby _ t z => X.ldcwInt hx hown (mvT hZ w) (g := mkF m pc L S) rfl (hb hby hd) t z
theorem Sit.ldc2 {index : Nat} {v : Int64} (h : Sit p l e R s m args below meth c bs st n0 cells slots P pc L S) (hZ : Z.Warmed39 s.vm) (hown : s.vm.findClass own = some m.cls) (w : (Cond.constantLong own index v).before a0 Z = true) (hd : decode bs pc = .ok (.ldc2_w index, 3)) (hp : pc + 3 = pc') : Sit p l e R s m args below meth c bs st n0 cells slots P pc' L (.long v :: S) := by
  subst hp; exact h.go fun T _ _ _ X hx hby _ t z => X.ldc2Long hx hown (mvT hZ w) (g := mkF m pc L S) rfl (hb hby hd) t z
/-! Java's shifts on longs and >>> on ints -/
def ushr32 (x y : Int32) : Int32 := (x.toUInt32 >>> (y &&& 31).toUInt32).toInt32
def shl64 (x : Int64) (y : Int32) : Int64 := x <<< (y &&& 0x3f).toInt64
def ushr64 (x : Int64) (y : Int32) : Int64 := (x.toUInt64 >>> (y &&& 0x3f).toInt64.toUInt64).toInt64
def lcmp3 (x y : Int64) : Int32 := if x > y then 1 else if x = y then 0 else -1
theorem Sit.iadd {x : Int32} {y : Int32} (h : Sit p l e R s m args below meth c bs st n0 cells slots P pc L (.int y :: .int x :: S)) (hd : decode bs pc = .ok (.iadd, 1)) (hp : pc + 1 = pc') : Sit p l e R s m args below meth c bs st n0 cells slots P pc' L (.int (x + y) :: S) := by
  subst hp; exact h.go fun T _ _ _ X hx hby _ t z => XS.iadd X.here hx rfl (hb hby hd) rfl z
theorem Sit.isub {x : Int32} {y : Int32} (h : Sit p l e R s m args below meth c bs st n0 cells slots P pc L (.int y :: .int x :: S)) (hd : decode bs pc = .ok (.isub, 1)) (hp : pc + 1 = pc') : Sit p l e R s m args below meth c bs st n0 cells slots P pc' L (.int (x - y) :: S) := by
  subst hp; exact h.go fun T _ _ _ X hx hby _ t z => XS.isub X.here hx rfl (hb hby hd) rfl z
theorem Sit.imul {x : Int32} {y : Int32} (h : Sit p l e R s m args below meth c bs st n0 cells slots P pc L (.int y :: .int x :: S)) (hd : decode bs pc = .ok (.imul, 1)) (hp : pc + 1 = pc') : Sit p l e R s m args below meth c bs st n0 cells slots P pc' L (.int (x * y) :: S) := by
  subst hp; exact h.go fun T _ _ _ X hx hby _ t z => XS.imul X.here hx rfl (hb hby hd) rfl z
theorem Sit.iand {x : Int32} {y : Int32} (h : Sit p l e R s m args below meth c bs st n0 cells slots P pc L (.int y :: .int x :: S)) (hd : decode bs pc = .ok (.iand, 1)) (hp : pc + 1 = pc') : Sit p l e R s m args below meth c bs st n0 cells slots P pc' L (.int (x &&& y) :: S) := by
  subst hp; exact h.go fun T _ _ _ X hx hby _ t z => XS.iand X.here hx rfl (hb hby hd) rfl z
theorem Sit.ior {x : Int32} {y : Int32} (h : Sit p l e R s m args below meth c bs st n0 cells slots P pc L (.int y :: .int x :: S)) (hd : decode bs pc = .ok (.ior, 1)) (hp : pc + 1 = pc') : Sit p l e R s m args below meth c bs st n0 cells slots P pc' L (.int (x ||| y) :: S) := by
  subst hp; exact h.go fun T _ _ _ X hx hby _ t z => XS.ior X.here hx rfl (hb hby hd) rfl z
theorem Sit.ixor {x : Int32} {y : Int32} (h : Sit p l e R s m args below meth c bs st n0 cells slots P pc L (.int y :: .int x :: S)) (hd : decode bs pc = .ok (.ixor, 1)) (hp : pc + 1 = pc') : Sit p l e R s m args below meth c bs st n0 cells slots P pc' L (.int (x ^^^ y) :: S) := by
  subst hp; exact h.go fun T _ _ _ X hx hby _ t z => XS.ixor X.here hx rfl (hb hby hd) rfl z
theorem Sit.ishl {x : Int32} {y : Int32} (h : Sit p l e R s m args below meth c bs st n0 cells slots P pc L (.int y :: .int x :: S)) (hd : decode bs pc = .ok (.ishl, 1)) (hp : pc + 1 = pc') : Sit p l e R s m args below meth c bs st n0 cells slots P pc' L (.int (x <<< (y &&& 31)) :: S) := by
  subst hp; exact h.go fun T _ _ _ X hx hby _ t z => XS.ishl X.here hx rfl (hb hby hd) rfl z
theorem Sit.ishr {x : Int32} {y : Int32} (h : Sit p l e R s m args below meth c bs st n0 cells slots P pc L (.int y :: .int x :: S)) (hd : decode bs pc = .ok (.ishr, 1)) (hp : pc + 1 = pc') : Sit p l e R s m args below meth c bs st n0 cells slots P pc' L (.int (x >>> (y &&& 31)) :: S) := by
  subst hp; exact h.go fun T _ _ _ X hx hby _ t z => XS.ishr X.here hx rfl (hb hby hd) rfl z
theorem Sit.iushr {x : Int32} {y : Int32} (h : Sit p l e R s m args below meth c bs st n0 cells slots P pc L (.int y :: .int x :: S)) (hd : decode bs pc = .ok (.iushr, 1)) (hp : pc + 1 = pc') : Sit p l e R s m args below meth c bs st n0 cells slots P pc' L (.int (ushr32 x y) :: S) := by
  subst hp; exact h.go fun T _ _ _ X hx hby _ t z => XS.iushr X.here hx rfl (hb hby hd) rfl z
theorem Sit.ladd {x : Int64} {y : Int64} (h : Sit p l e R s m args below meth c bs st n0 cells slots P pc L (.long y :: .long x :: S)) (hd : decode bs pc = .ok (.ladd, 1)) (hp : pc + 1 = pc') : Sit p l e R s m args below meth c bs st n0 cells slots P pc' L (.long (x + y) :: S) := by
  subst hp; exact h.go fun T _ _ _ X hx hby _ t z => XS.ladd X.here hx rfl (hb hby hd) rfl z
theorem Sit.lsub {x : Int64} {y : Int64} (h : Sit p l e R s m args below meth c bs st n0 cells slots P pc L (.long y :: .long x :: S)) (hd : decode bs pc = .ok (.lsub, 1)) (hp : pc + 1 = pc') : Sit p l e R s m args below meth c bs st n0 cells slots P pc' L (.long (x - y) :: S) := by
  subst hp; exact h.go fun T _ _ _ X hx hby _ t z => XS.lsub X.here hx rfl (hb hby hd) rfl z
theorem Sit.lmul {x : Int64} {y : Int64} (h : Sit p l e R s m args below meth c bs st n0 cells slots P pc L (.long y :: .long x :: S)) (hd : decode bs pc = .ok (.lmul, 1)) (hp : pc + 1 = pc') : Sit p l e R s m args below meth c bs st n0 cells slots P pc' L (.long (x * y) :: S) := by
  subst hp; exact h.go fun T _ _ _ X hx hby _ t z => XS.lmul X.here hx rfl (hb hby hd) rfl z
theorem Sit.land {x : Int64} {y : Int64} (h : Sit p l e R s m args below meth c bs st n0 cells slots P pc L (.long y :: .long x :: S)) (hd : decode bs pc = .ok (.land, 1)) (hp : pc + 1 = pc') : Sit p l e R s m args below meth c bs st n0 cells slots P pc' L (.long (x &&& y) :: S) := by
  subst hp; exact h.go fun T _ _ _ X hx hby _ t z => XS.land X.here hx rfl (hb hby hd) rfl z
theorem Sit.lor {x : Int64} {y : Int64} (h : Sit p l e R s m args below meth c bs st n0 cells slots P pc L (.long y :: .long x :: S)) (hd : decode bs pc = .ok (.lor, 1)) (hp : pc + 1 = pc') : Sit p l e R s m args below meth c bs st n0 cells slots P pc' L (.long (x ||| y) :: S) := by
  subst hp; exact h.go fun T _ _ _ X hx hby _ t z => XS.lor X.here hx rfl (hb hby hd) rfl z
theorem Sit.lxor {x : Int64} {y : Int64} (h : Sit p l e R s m args below meth c bs st n0 cells slots P pc L (.long y :: .long x :: S)) (hd : decode bs pc = .ok (.lxor, 1)) (hp : pc + 1 = pc') : Sit p l e R s m args below meth c bs st n0 cells slots P pc' L (.long (x ^^^ y) :: S) := by
  subst hp; exact h.go fun T _ _ _ X hx hby _ t z => XS.lxor X.here hx rfl (hb hby hd) rfl z
theorem Sit.lshl {x : Int64} {y : Int32} (h : Sit p l e R s m args below meth c bs st n0 cells slots P pc L (.int y :: .long x :: S)) (hd : decode bs pc = .ok (.lshl, 1)) (hp : pc + 1 = pc') : Sit p l e R s m args below meth c bs st n0 cells slots P pc' L (.long (shl64 x y) :: S) := by
  subst hp; exact h.go fun T _ _ _ X hx hby _ t z => XS.lshl X.here hx rfl (hb hby hd) rfl z
theorem Sit.lushr {x : Int64} {y : Int32} (h : Sit p l e R s m args below meth c bs st n0 cells slots P pc L (.int y :: .long x :: S)) (hd : decode bs pc = .ok (.lushr, 1)) (hp : pc + 1 = pc') : Sit p l e R s m args below meth c bs st n0 cells slots P pc' L (.long (ushr64 x y) :: S) := by
  subst hp; exact h.go fun T _ _ _ X hx hby _ t z => XS.lushr X.here hx rfl (hb hby hd) rfl z
theorem Sit.lcmp {x : Int64} {y : Int64} (h : Sit p l e R s m args below meth c bs st n0 cells slots P pc L (.long y :: .long x :: S)) (hd : decode bs pc = .ok (.lcmp, 1)) (hp : pc + 1 = pc') : Sit p l e R s m args below meth c bs st n0 cells slots P pc' L (.int (lcmp3 x y) :: S) := by
  subst hp; exact h.go fun T _ _ _ X hx hby _ t z => XS.lcmp X.here hx rfl (hb hby hd) rfl z
theorem Sit.i2l {x : Int32} (h : Sit p l e R s m args below meth c bs st n0 cells slots P pc L (.int x :: S)) (hd : decode bs pc = .ok (.i2l, 1)) (hp : pc + 1 = pc') : Sit p l e R s m args below meth c bs st n0 cells slots P pc' L (.long (x.toInt64) :: S) := by
  subst hp; exact h.go fun T _ _ _ X hx hby _ t z => XS.i2l X.here hx rfl (hb hby hd) rfl z
theorem Sit.l2i {x : Int64} (h : Sit p l e R s m args below meth c bs st n0 cells slots P pc L (.long x :: S)) (hd : decode bs pc = .ok (.l2i, 1)) (hp : pc + 1 = pc') : Sit p l e R s m args below meth c bs st n0 cells slots P pc' L (.int (x.toInt32) :: S) := by
  subst hp; exact h.go fun T _ _ _ X hx hby _ t z => XS.l2i X.here hx rfl (hb hby hd) rfl z
theorem Sit.i2b {x : Int32} (h : Sit p l e R s m args below meth c bs st n0 cells slots P pc L (.int x :: S)) (hd : decode bs pc = .ok (.i2b, 1)) (hp : pc + 1 = pc') : Sit p l e R s m args below meth c bs st n0 cells slots P pc' L (.int (x.toInt8.toInt32) :: S) := by
  subst hp; exact h.go fun T _ _ _ X hx hby _ t z => XS.i2b X.here hx rfl (hb hby hd) rfl z
theorem Sit.ineg {x : Int32} (h : Sit p l e R s m args below meth c bs st n0 cells slots P pc L (.int x :: S)) (hd : decode bs pc = .ok (.ineg, 1)) (hp : pc + 1 = pc') : Sit p l e R s m args below meth c bs st n0 cells slots P pc' L (.int (-x) :: S) := by
  subst hp; exact h.go fun T _ _ _ X hx hby _ t z => XS.ineg X.here hx rfl (hb hby hd) rfl z
theorem Sit.idiv {x y : Int32} (h : Sit p l e R s m args below meth c bs st n0 cells slots P pc L (.int y :: .int x :: S)) (hd : decode bs pc = .ok (.idiv, 1)) (hy : y ≠ 0) (hp : pc + 1 = pc') : Sit p l e R s m args below meth c bs st n0 cells slots P pc' L (.int (x / y) :: S) := by
  subst hp; exact h.go fun T _ _ _ X hx hby _ t z => XS.idiv X.here hx rfl (hb hby hd) rfl hy z
theorem Sit.irem {x y : Int32} (h : Sit p l e R s m args below meth c bs st n0 cells slots P pc L (.int y :: .int x :: S)) (hd : decode bs pc = .ok (.irem, 1)) (hy : y ≠ 0) (hp : pc + 1 = pc') : Sit p l e R s m args below meth c bs st n0 cells slots P pc' L (.int (x % y) :: S) := by
  subst hp; exact h.go fun T _ _ _ X hx hby _ t z => iremM X hx rfl (hb hby hd) rfl hy z
theorem Sit.lrem {x y : Int64} (h : Sit p l e R s m args below meth c bs st n0 cells slots P pc L (.long y :: .long x :: S)) (hd : decode bs pc = .ok (.lrem, 1)) (hy : y ≠ 0) (hp : pc + 1 = pc') : Sit p l e R s m args below meth c bs st n0 cells slots P pc' L (.long (x % y) :: S) := by
  subst hp; rw [← lrem_mod]; exact h.go fun T _ _ _ X hx hby _ t z => XS.lrem X.here hx rfl (hb hby hd) rfl hy z
theorem Sit.iinc {k : Nat} {i : Int} {x : Int32} (v : Int32) (L' : Array Slot) (h : Sit p l e R s m args below meth c bs st n0 cells slots P pc L S) (hd : decode bs pc = .ok (.iinc k i, 3)) (hl : L[k]? = some (.val (.int x))) (hv : x + Int32.ofInt i = v) (hl' : storeLocals L k (.int v) = some L') (hp : pc + 3 = pc') : Sit p l e R s m args below meth c bs st n0 cells slots P pc' L' S := by
  subst hp hv; exact h.go fun T _ _ _ X hx hby _ t z => XS.iinc X.here hx rfl (hb hby hd) hl hl' z
theorem Sit.dup {x : Value} (h : Sit p l e R s m args below meth c bs st n0 cells slots P pc L (x :: S)) (hd : decode bs pc = .ok (.dup, 1)) (hc : x.category = 1) (hp : pc + 1 = pc') : Sit p l e R s m args below meth c bs st n0 cells slots P pc' L (x :: x :: S) := by
  subst hp; exact h.go fun T _ _ _ X hx hby _ t z => XS.dup X.here hx rfl (hb hby hd) rfl hc z
theorem Sit.dupX1 {x y : Value} (h : Sit p l e R s m args below meth c bs st n0 cells slots P pc L (x :: y :: S)) (hd : decode bs pc = .ok (.dup_x1, 1)) (hc : x.category = 1) (hc' : y.category = 1) (hp : pc + 1 = pc') : Sit p l e R s m args below meth c bs st n0 cells slots P pc' L (x :: y :: x :: S) := by
  subst hp; exact h.go fun T _ _ _ X hx hby _ t z => XS.dupX1 X.here hx rfl (hb hby hd) rfl hc hc' z
theorem Sit.dup2 {x y : Value} (h : Sit p l e R s m args below meth c bs st n0 cells slots P pc L (x :: y :: S)) (hd : decode bs pc = .ok (.dup2, 1)) (hc : x.category = 1) (hc' : y.category = 1) (hp : pc + 1 = pc') : Sit p l e R s m args below meth c bs st n0 cells slots P pc' L (x :: y :: x :: y :: S) := by
  subst hp; exact h.go fun T _ _ _ X hx hby _ t z => Jvm.Free.XT.dup2 X.here hx rfl (hb hby hd) rfl hc hc' z
theorem Sit.pop {x : Value} (h : Sit p l e R s m args below meth c bs st n0 cells slots P pc L (x :: S)) (hd : decode bs pc = .ok (.pop, 1)) (hc : x.category = 1) (hp : pc + 1 = pc') : Sit p l e R s m args below meth c bs st n0 cells slots P pc' L S := by
  subst hp; exact h.go fun T _ _ _ X hx hby _ t z => XS.pop X.here hx rfl (hb hby hd) rfl hc z
theorem Sit.goto {o : Int} (h : Sit p l e R s m args below meth c bs st n0 cells slots P pc L S) (hd : decode bs pc = .ok (.goto o, 3)) (ho : 0 ≤ (pc : Int) + o) (hp : ((pc : Int) + o).toNat = pc') : Sit p l e R s m args below meth c bs st n0 cells slots P pc' L S :=
  h.go fun T _ _ _ X hx hby _ t z => XS.goto X.here hx rfl (pc0 := pc) rfl (hb hby hd) ho hp z
theorem Sit.ifY {cd : ClassFile.Cond} {x : Int32} {o : Int} (h : Sit p l e R s m args below meth c bs st n0 cells slots P pc L (.int x :: S)) (hd : decode bs pc = .ok (.ifCond cd o, 3)) (hc : if_icmp.holds cd x 0 = true) (ho : 0 ≤ (pc : Int) + o) (hp : ((pc : Int) + o).toNat = pc') : Sit p l e R s m args below meth c bs st n0 cells slots P pc' L S :=
  h.go fun T _ _ _ X hx hby _ t z => XS.ifYes X.here hx rfl (pc0 := pc) rfl (hb hby hd) rfl ((if0 _ _).trans hc) ho hp z
theorem Sit.ifN {cd : ClassFile.Cond} {x : Int32} {o : Int} (h : Sit p l e R s m args below meth c bs st n0 cells slots P pc L (.int x :: S)) (hd : decode bs pc = .ok (.ifCond cd o, 3)) (hc : if_icmp.holds cd x 0 = false) (hp : pc + 3 = pc') : Sit p l e R s m args below meth c bs st n0 cells slots P pc' L S := by
  subst hp; exact h.go fun T _ _ _ X hx hby _ t z => XS.ifNo X.here hx rfl (hb hby hd) rfl ((if0 _ _).trans hc) z
theorem Sit.icmpY {cd : ClassFile.Cond} {x y : Int32} {o : Int} (h : Sit p l e R s m args below meth c bs st n0 cells slots P pc L (.int y :: .int x :: S)) (hd : decode bs pc = .ok (.if_icmp cd o, 3)) (hc : if_icmp.holds cd x y = true) (ho : 0 ≤ (pc : Int) + o) (hp : ((pc : Int) + o).toNat = pc') : Sit p l e R s m args below meth c bs st n0 cells slots P pc' L S :=
  h.go fun T _ _ _ X hx hby _ t z => XS.icmpYes X.here hx rfl (pc0 := pc) rfl (hb hby hd) rfl hc ho hp z
theorem Sit.icmpN {cd : ClassFile.Cond} {x y : Int32} {o : Int} (h : Sit p l e R s m args below meth c bs st n0 cells slots P pc L (.int y :: .int x :: S)) (hd : decode bs pc = .ok (.if_icmp cd o, 3)) (hc : if_icmp.holds cd x y = false) (hp : pc + 3 = pc') : Sit p l e R s m args below meth c bs st n0 cells slots P pc' L S := by
  subst hp; exact h.go fun T _ _ _ X hx hby _ t z => XS.icmpNo X.here hx rfl (hb hby hd) rfl hc z
/-! comparisons as facts on whole numbers -/
def cmpP : ClassFile.Cond → Int32 → Int32 → Prop
  | .eq, x, y => x.toInt = y.toInt
  | .ne, x, y => x.toInt ≠ y.toInt
  | .lt, x, y => x.toInt < y.toInt
  | .ge, x, y => y.toInt ≤ x.toInt
  | .gt, x, y => y.toInt < x.toInt
  | .le, x, y => x.toInt ≤ y.toInt
theorem cmpP_holds (cd : ClassFile.Cond) (x y : Int32) : if_icmp.holds cd x y = true ↔ cmpP cd x y := by
  cases cd <;> simp [if_icmp.holds, cmpP, Int32.lt_iff_toInt_lt, Int32.le_iff_toInt_le, Int32.toInt_inj]
theorem cmpT {cd : ClassFile.Cond} {x y : Int32} (h : cmpP cd x y) : if_icmp.holds cd x y = true := (cmpP_holds cd x y).mpr h
theorem cmpF {cd : ClassFile.Cond} {x y : Int32} (h : ¬ cmpP cd x y) : if_icmp.holds cd x y = false := by
  rw [← Bool.not_eq_true, cmpP_holds]; exact h
def cmpZ : ClassFile.Cond → Int32 → Prop
  | .eq, x => x.toInt = 0
  | .ne, x => x.toInt ≠ 0
  | .lt, x => x.toInt < 0
  | .ge, x => 0 ≤ x.toInt
  | .gt, x => 0 < x.toInt
  | .le, x => x.toInt ≤ 0
theorem cmpT0 {cd : ClassFile.Cond} {x : Int32} (h : cmpZ cd x) : if_icmp.holds cd x 0 = true := cmpT (by cases cd <;> exact h)
theorem cmpF0 {cd : ClassFile.Cond} {x : Int32} (h : ¬ cmpZ cd x) : if_icmp.holds cd x 0 = false := cmpF (by cases cd <;> exact h)
def cmpJ : ClassFile.Cond → Int64 → Int64 → Prop
  | .eq, x, y => x = y
  | .ne, x, y => ¬ x = y
  | .lt, x, y => x.toInt < y.toInt
  | .ge, x, y => y.toInt ≤ x.toInt
  | .gt, x, y => y.toInt < x.toInt
  | .le, x, y => x.toInt ≤ y.toInt
theorem lc_iff (cd : ClassFile.Cond) (x y : Int64) : if_icmp.holds cd (lcmp3 x y) 0 = true ↔ cmpJ cd x y := by
  rw [cmpP_holds]
  obtain ⟨h1, h2, h3⟩ := c_lcmp x y
  have e : lcmp3 x y = lcmpW x y := rfl
  rw [e]
  have z : (0 : Int32).toInt = 0 := rfl
  have q : x = y ↔ x.toInt = y.toInt := Int64.toInt_inj.symm
  rcases Int.lt_trichotomy x.toInt y.toInt with h | h | h
  · have := h1 h; cases cd <;> simp only [cmpP, cmpJ, z, q] <;> omega
  · have := h2 h; cases cd <;> simp only [cmpP, cmpJ, z, q] <;> omega
  · have := h3 h; cases cd <;> simp only [cmpP, cmpJ, z, q] <;> omega
theorem lcT {cd : ClassFile.Cond} {x y : Int64} (h : cmpJ cd x y) : if_icmp.holds cd (lcmp3 x y) 0 = true := (lc_iff cd x y).mpr h
theorem lcF {cd : ClassFile.Cond} {x y : Int64} (h : ¬ cmpJ cd x y) : if_icmp.holds cd (lcmp3 x y) 0 = false := by
  rw [← Bool.not_eq_true, lc_iff]; exact h
theorem eqT {x y : Int32} (h : x = y) : if_icmp.holds .eq x y = true := (teq h).1
theorem eqF {x y : Int32} (h : ¬ x = y) : if_icmp.holds .eq x y = false := (feq h).1
theorem neT {x y : Int32} (h : ¬ x = y) : if_icmp.holds .ne x y = true := (feq h).2
theorem neF {x y : Int32} (h : x = y) : if_icmp.holds .ne x y = false := (teq h).2
/-! leaving -/
def Out (p : Program) (e : Env) (below : List Frame) (s st : State) (n0 cells slots : Nat) (Q : Option Value → Heap → Prop) : Prop :=
  ∃ s₂ o, Steps p.tables e below st s₂ ∧ s₂.status = .running ∧ Ended s₂ below o ∧ ∃ v L, o = .returned v ∧ (Fr n0 L ∧ Q v s₂.heap) ∧ FrameEnd s o s₂ L cells slots
theorem Out.mk {T : State} {locs : List Loc} {k n : Nat} {v : Option Value} {Q : Option Value → Heap → Prop} (X : Stand p l e R s m args below meth c T locs k n) (q1 : k ≤ cells) (q2 : n ≤ slots) (q3 : Fr n0 locs) (hQ : Q v T.heap) (hv : meth.sig.returnType = none → v = none) (hlk : meth.locks = false)
    (hst : ∀ fs : List Frame, (∀ (f : JFrame) (acts : List Action), f.method = m → f.locked = none → f.entered = [] → (doReturn e (T.setTop f) acts v).1 = T.setFrames fs) → Steps p.tables e below st (T.setFrames fs)) : Out p e below s st n0 cells slots Q := by
  obtain ⟨fs, hr, hrun, hended, hW, hsame⟩ := X.leave (v := v) hv hlk
  exact ⟨_, _, hst fs hr, hrun, hended, _, _, rfl, ⟨q3, hQ⟩, ⟨_, rfl⟩, hW, hsame.mono q1 q2⟩
theorem Sit.retI {z : Int32} {Q : Option Value → Heap → Prop} (h : Sit p l e R s m args below meth c bs st n0 cells slots P pc L (.int z :: S)) (hd : decode bs pc = .ok (.ireturn, 1)) (hret : meth.sig.returnType = some .int) (hlk : meth.locks = false) (hQ : ∀ hh, P hh → Q (some (.int z)) hh) : Out p e below s st n0 cells slots Q := by
  obtain ⟨T, locs, k, n, X, q1, q2, q3, q4, q5, hx, hby, q⟩ := h
  exact Out.mk X q1 q2 q3 (hQ _ q5) (fun h => by rw [hret] at h; cases h) hlk fun fs hr => q _ (Jvm.RoadKit.retI X hx hret (hb hby hd) hr)
theorem Sit.retZ {z : Int32} {Q : Option Value → Heap → Prop} (h : Sit p l e R s m args below meth c bs st n0 cells slots P pc L (.int z :: S)) (hd : decode bs pc = .ok (.ireturn, 1)) (hret : meth.sig.returnType = some .boolean) (hlk : meth.locks = false) (hQ : ∀ hh, P hh → Q (some (.int (z &&& 1))) hh) : Out p e below s st n0 cells slots Q := by
  obtain ⟨T, locs, k, n, X, q1, q2, q3, q4, q5, hx, hby, q⟩ := h
  exact Out.mk X q1 q2 q3 (hQ _ q5) (fun h => by rw [hret] at h; cases h) hlk fun fs hr => q _ (retN X hx (t := .boolean) hret (by simp) (hb hby hd) hr)
theorem Sit.retJ {z : Int64} {Q : Option Value → Heap → Prop} (h : Sit p l e R s m args below meth c bs st n0 cells slots P pc L [.long z]) (hd : decode bs pc = .ok (.lreturn, 1)) (hret : meth.sig.returnType = some .long) (hlk : meth.locks = false) (hQ : ∀ hh, P hh → Q (some (.long z)) hh) : Out p e below s st n0 cells slots Q := by
  obtain ⟨T, locs, k, n, X, q1, q2, q3, q4, q5, hx, hby, q⟩ := h
  exact Out.mk X q1 q2 q3 (hQ _ q5) (fun h => by rw [hret] at h; cases h) hlk fun fs hr => q _ (X.lreturnOut hx hret (hb hby hd) hr)
theorem Sit.retV {Q : Option Value → Heap → Prop} (h : Sit p l e R s m args below meth c bs st n0 cells slots P pc L []) (hd : decode bs pc = .ok (.return_, 1)) (hret : meth.sig.returnType = none) (hlk : meth.locks = false) (hQ : ∀ hh, P hh → Q none hh) : Out p e below s st n0 cells slots Q := by
  obtain ⟨T, locs, k, n, X, q1, q2, q3, q4, q5, hx, hby, q⟩ := h
  exact Out.mk X q1 q2 q3 (hQ _ q5) (fun _ => rfl) hlk fun fs hr => q _ (X.returnOut hx hret (hb hby hd) hr)
theorem Sit.retA {z : Addr} {t : FieldType} {Q : Option Value → Heap → Prop} (h : Sit p l e R s m args below meth c bs st n0 cells slots P pc L [.ref z]) (hd : decode bs pc = .ok (.areturn, 1)) (hret : meth.sig.returnType = some t) (ht : t.isReference = true) (hlk : meth.locks = false) (hQ : ∀ hh, P hh → Q (some (.ref z)) hh) : Out p e below s st n0 cells slots Q := by
  obtain ⟨T, locs, k, n, X, q1, q2, q3, q4, q5, hx, hby, q⟩ := h
  exact Out.mk X q1 q2 q3 (hQ _ q5) (fun h => by rw [hret] at h; cases h) hlk fun fs hr => q _ (X.areturnOut hx rfl hret ht (hb hby hd) hr)
/-! a method's contract -/
abbrev Met1 (l : Launch) (y : MethodName) (bytes : ByteArray) (maxL : Nat) (ret : Option FieldType) (ws : List Jvm.Cond) (rm : Room) (Z : State) (as : Array Value) (h0 : Heap) (n0 : Nat) (Q : Option Value → Heap → Prop) : Prop :=
  MetFree l y (head1 (Jvm.Cond.code y bytes maxL ret :: ws) rm) (fun a U => a = as ∧ Z.Warmed39 U.vm ∧ U.heap = h0) (fun _ _ _ _ _ => True) (fun _ U o U' => ∃ v L, o = .returned v ∧ (Fr n0 L ∧ Q v U'.heap) ∧ FrameEnd U o U' L rm.cells rm.slots)
theorem Met1.of {y : MethodName} {bytes : ByteArray} {maxL : Nat} {ret : Option FieldType} {ws : List Jvm.Cond} {rm : Room} {as : Array Value} {h0 : Heap} {Q : Option Value → Heap → Prop} {L0 : Array Slot} (hpn : plainFor y = true) (hef : ∀ m, entryFrame m as maxL = mkF m 0 L0 []) (Z0 : n0 ≤ h0.size)
    (body : ∀ p e s m below meth c st, Sit p l e rm s m as below meth c bytes st n0 0 0 (fun h => h = h0) 0 L0 [] → Z.Warmed39 s.vm → s.vm.findClass y.cls = some m.cls → meth.sig.returnType = ret → meth.locks = false → meth.name = y.name → c.maxLocals = maxL → Out p e below s st n0 rm.cells rm.slots Q) : Met1 l y bytes maxL ret ws rm Z as h0 n0 Q := by
  refine MetFree.of_bodySF hpn hisR ?_
  intro p e s m args below meth c s₁ Bd hml0 hP hK
  obtain ⟨rfl, hZ, hh⟩ := hP
  have e0 : s₁.heap = h0 := by rw [← hh, Bd.state]; rfl
  exact body p e s m below meth c _ ⟨s₁, [], 0, 0, Stand.of_body Bd, Nat.le_refl _, Nat.le_refl _, Fr.nil n0, by rw [hh]; exact Z0, e0, Bd.exec, Bd.bytes, fun t k => castTop (hef m) k⟩ hZ (findClass_of_methodNamed Bd.named) Bd.returns Bd.notSynchronized (name_of_methodNamed Bd.named Bd.method).1 hml0
theorem Met1.mono {y : MethodName} {bytes : ByteArray} {maxL : Nat} {ret : Option FieldType} {ws : List Jvm.Cond} {rm : Room} {as : Array Value} {h0 : Heap} {Q Q' : Option Value → Heap → Prop} (h : Met1 l y bytes maxL ret ws rm Z as h0 n0 Q) (f : ∀ v hh, Q v hh → Q' v hh) : Met1 l y bytes maxL ret ws rm Z as h0 n0 Q' := by
  intro p e ha hc hk s m args below hf happ hP hK
  obtain ⟨n, o, h1, h2, h3, v, L, h4, ⟨h5, h6⟩, h7⟩ := h p e ha hc hk s m args below hf happ hP hK
  exact ⟨n, o, h1, h2, h3, v, L, h4, ⟨h5, f _ _ h6⟩, h7⟩
/-! a static call by its contract -/
theorem Sit.callS {index : Nat} {y : MethodName} {bytes : ByteArray} {maxL maxO : Nat} {ret : Option FieldType} {rm : Room} {Q : Option Value → Heap → Prop} {W : Nat} (argsL rest : List Value) (h : Sit p l e R s m args below meth c bs st n0 cells slots P pc L (argsL.reverse ++ rest)) (hZ : Z.Warmed39 s.vm) (hown : s.vm.findClass own = some m.cls)
    (w1 : (Cond.methodLink own index y).before a0 Z = true) (w2 : (Cond.static y).before a0 Z = true) (w3 : (Cond.initialized y.cls).before a0 Z = true) (w4 : (Cond.code y bytes maxL ret).before a0 Z = true) (hy : y.cls ≠ "java/lang/invoke/MethodHandle" ∧ y.cls ≠ "java/lang/invoke/VarHandle")
    (hM : ∀ h0, P h0 → n0 ≤ h0.size → Met1 l y bytes maxL ret [] rm Z argsL.toArray h0 n0 Q) (hml : c.maxLocals = maxO) (hsz : L.size = maxO) (hlen : ∀ sig, parseMethodDescriptor y.desc = some sig → argsL.length = sig.parameters.length) (hd : decode bs pc = .ok (.invokestatic index, 3)) (hW : 2 * 0 + (rest.map fun v => v.category).sum ≤ W)
    (hf : rm.frames + 1 ≤ R.frames) (hl : W + (maxL + 11) + rm.locals ≤ R.locals) (hcl : cells + rm.cells ≤ R.cells) (hsl : slots + rm.slots ≤ R.slots) (hp : pc + 3 = pc') :
    ∃ v : Option Value, Sit p l e R s m args below meth c bs st n0 (cells + rm.cells) (slots + rm.slots) (fun hh => Q v hh) pc' L (v.toList ++ rest) := by
  subst hp
  obtain ⟨T, locs, k, n, X, q1, q2, q3, q4, q5, hx, hby, q⟩ := h
  obtain ⟨v, _, ⟨T2, L2, k2, n2⟩, -, X2, ⟨Lc2, ⟨hN2, hQ2⟩, l2, y2, z2⟩, st2⟩ := Jvm.LawKit.callS X hx (y := y) hown (mvT hZ w1) (mvT hZ w2) (mvT hZ w3) (mvT hZ w4) hy (backOf (W := W) (Q := fun v hh L => Fr n0 L ∧ Q v hh) (hM T.heap q5 (Nat.le_trans q4 X.same.2.1)) hZ w4 w3 hf hl) (g := mkF m pc L (argsL.reverse ++ rest)) rfl (by rw [hml]; exact hsz) (argsL := argsL) (rest := rest) hlen rfl hW (hb hby hd) (fun _ _ => ⟨rfl, rfl, Nat.le_trans (Nat.add_le_add_right q1 _) hcl, Nat.le_trans (Nat.add_le_add_right q2 _) hsl⟩)
  dsimp only [Pt.U, Pt.locs, Pt.cells, Pt.slots] at X2 l2 y2 z2 st2 hQ2
  subst l2 y2 z2
  exact ⟨v, T2, _, _, _, X2, Nat.add_le_add_right q1 _, Nat.add_le_add_right q2 _, Fr.app q3 hN2, q4, hQ2, hx, hby, fun t z => q t (st2 t z)⟩
end OwnKit

section OwnHeap
variable {p : Program} {l : Launch} {e : Env} {R : Room} {s : State} {m : MethodId} {args : Array Value} {below : List Frame} {meth : Method} {c : Code} {bs : ByteArray} {st : State} {n0 cells slots : Nat} {P P' : Heap → Prop} {pc pc' : Nat} {L L' : Array Slot} {S S' : List Value} {Z : State} {a0 : Array Value} {own : String} {hh hh' : Heap} {a b : Addr} {ty : FieldType} {vs : List Value} {v w : Value} {j : Nat}
/-- an array and its components -/
def AV (Z : State) (h : Heap) (a : Addr) (ty : FieldType) (vs : List Value) : Prop := ∃ cl : Cell, Arr Z h a cl ty ∧ cl.slots.toList = vs
theorem AV.lt (A : AV Z hh a ty vs) : a < hh.size := by obtain ⟨cl, A, -⟩ := A; exact A.lt
theorem AV.ext (A : AV Z hh a ty vs) (E : Ext hh hh') : AV Z hh' a ty vs := by obtain ⟨cl, A, r⟩ := A; exact ⟨cl, A.ext E, r⟩
theorem AV.other (A : AV Z hh a ty vs) (X : Wr hh hh' b j v) (q : a ≠ b) : AV Z hh' a ty vs := by obtain ⟨cl, A, r⟩ := A; exact ⟨cl, A.other X q, r⟩
theorem AV.keep {ws : List Addr} (A : AV Z hh a ty vs) (K : Keep hh hh' ws) (q : a ∉ ws) : AV Z hh' a ty vs := by obtain ⟨cl, A, r⟩ := A; exact ⟨cl, ⟨K.2.1 a cl A.1 q, A.2⟩, r⟩
theorem AV.set (A : AV Z hh a ty vs) (X : Wr hh hh' a j v) : AV Z hh' a ty (vs.set j v) := by
  obtain ⟨cl, A, rfl⟩ := A
  exact ⟨_, A.same X, by simp [Cell.setSlot]⟩
theorem AV.new {k : ClassId} {n : Int32} (A : Arr Z hh a (newA k ty n) ty) : AV Z hh a ty (List.replicate n.toNatClampNeg (defaultValue ty)) := ⟨_, A, by simp [newA]⟩
theorem AV.uniq {us : List Value} (A : AV Z hh a ty vs) (B : AV Z hh a ty us) : vs = us := by
  obtain ⟨c1, A, rfl⟩ := A
  obtain ⟨c2, B, rfl⟩ := B
  cases A.1.symm.trans B.1; rfl
theorem clamp_of {x : Int32} {i : Nat} (h : x.toInt = (i : Int)) : x.toNatClampNeg = i := by
  show x.toInt.toNat = i
  omega
theorem nlt0 {x : Int32} (h : 0 ≤ x.toInt) : ¬ x < 0 := by rw [Int32.lt_iff_toInt_lt]; show ¬ x.toInt < 0; omega
theorem AV.inb {cl : Cell} {x : Int32} (hx : 0 ≤ x.toInt) (r : cl.slots.toList = vs) (h : x.toNatClampNeg < vs.length) : ¬ (x < 0 ∨ cl.slots.size ≤ x.toNatClampNeg) := by
  rintro (q | q)
  · exact nlt0 hx q
  · subst r; simp at h; omega
theorem Sit.alen {n : Nat} (v : Int32) (h : Sit p l e R s m args below meth c bs st n0 cells slots P pc L (.ref a :: S)) (hZ : Z.Warmed39 s.vm) (hP : ∀ hh, P hh → ∃ vs, AV Z hh a ty vs ∧ vs.length = n) (hd : decode bs pc = .ok (.arraylength, 1)) (hv : n.toInt32 = v) (hp : pc + 1 = pc') : Sit p l e R s m args below meth c bs st n0 cells slots P pc' L (.int v :: S) := by
  subst hp hv
  refine h.go fun T _ _ _ X hx hby hT t z => ?_
  obtain ⟨vs, ⟨cl, A, r⟩, rfl⟩ := hP _ hT
  refine X.arraylength hx A.1 (State.isArrayOf_alike hZ.alike A.2.1) (g := mkF m pc L (.ref a :: S)) rfl rfl (hb hby hd) t ?_
  have e : cl.slots.size = vs.length := by rw [← r]; simp
  rw [e]; exact z
theorem Sit.iaload {x v : Int32} (h : Sit p l e R s m args below meth c bs st n0 cells slots P pc L (.int x :: .ref a :: S)) (hZ : Z.Warmed39 s.vm) (hx0 : 0 ≤ x.toInt) (hP : ∀ hh, P hh → ∃ vs, AV Z hh a .int vs ∧ vs[x.toNatClampNeg]? = some (.int v)) (hd : decode bs pc = .ok (.iaload, 1)) (hp : pc + 1 = pc') : Sit p l e R s m args below meth c bs st n0 cells slots P pc' L (.int v :: S) := by
  subst hp
  refine h.go fun T _ _ _ X hx hby hT t z => ?_
  obtain ⟨vs, ⟨cl, A, r⟩, q⟩ := hP _ hT
  exact X.iaload hx A.1 (State.isArrayOf_alike hZ.alike A.2.1) A.2.2 (AV.inb hx0 r (List.getElem?_eq_some_iff.mp q).1) (by subst r; simpa using q) (g := mkF m pc L (.int x :: .ref a :: S)) rfl rfl (hb hby hd) t z
theorem Sit.laload {x : Int32} {v : Int64} (h : Sit p l e R s m args below meth c bs st n0 cells slots P pc L (.int x :: .ref a :: S)) (hZ : Z.Warmed39 s.vm) (hx0 : 0 ≤ x.toInt) (hP : ∀ hh, P hh → ∃ vs, AV Z hh a .long vs ∧ vs[x.toNatClampNeg]? = some (.long v)) (hd : decode bs pc = .ok (.laload, 1)) (hp : pc + 1 = pc') : Sit p l e R s m args below meth c bs st n0 cells slots P pc' L (.long v :: S) := by
  subst hp
  refine h.go fun T _ _ _ X hx hby hT t z => ?_
  obtain ⟨vs, ⟨cl, A, r⟩, q⟩ := hP _ hT
  exact X.laload hx A.1 (State.isArrayOf_alike hZ.alike A.2.1) A.2.2 (AV.inb hx0 r (List.getElem?_eq_some_iff.mp q).1) (by subst r; simpa using q) (g := mkF m pc L (.int x :: .ref a :: S)) rfl rfl (hb hby hd) t z
theorem Sit.baload {x v : Int32} (h : Sit p l e R s m args below meth c bs st n0 cells slots P pc L (.int x :: .ref a :: S)) (hZ : Z.Warmed39 s.vm) (hx0 : 0 ≤ x.toInt) (hP : ∀ hh, P hh → ∃ vs, AV Z hh a .byte vs ∧ vs[x.toNatClampNeg]? = some (.int v)) (hd : decode bs pc = .ok (.baload, 1)) (hp : pc + 1 = pc') : Sit p l e R s m args below meth c bs st n0 cells slots P pc' L (.int v :: S) := by
  subst hp
  refine h.go fun T _ _ _ X hx hby hT t z => ?_
  obtain ⟨vs, ⟨cl, A, r⟩, q⟩ := hP _ hT
  exact X.baloadBytes hx A.1 (State.isArrayOf_alike hZ.alike A.2.1) A.2.2 (AV.inb hx0 r (List.getElem?_eq_some_iff.mp q).1) (by subst r; simpa using q) (g := mkF m pc L (.int x :: .ref a :: S)) rfl rfl (hb hby hd) t z
/-- a step that writes one slot of a new cell -/
theorem Sit.wr {sl : Nat} (h : Sit p l e R s m args below meth c bs st n0 cells slots P pc L S) (ha : n0 ≤ a) (hP' : ∀ hh hh', P hh → Wr hh hh' a sl v → P' hh')
    (f : ∀ T locs k n, Stand p l e R s m args below meth c T locs k n → p.tables.exec = Jvm.exec → c.code = bs → P T.heap → ∃ T' h', Stand p l e R s m args below meth c T' (locs ++ [⟨a, sl⟩]) k n ∧ T'.heap = h' ∧ Wr T.heap h' a sl v ∧ ∀ t, Steps p.tables e below (T'.setTop (mkF m pc' L' S')) t → Steps p.tables e below (T.setTop (mkF m pc L S)) t) :
    Sit p l e R s m args below meth c bs st n0 cells slots P' pc' L' S' := by
  obtain ⟨T, locs, k, n, X, q1, q2, q3, q4, q5, hx, hby, q⟩ := h
  obtain ⟨T', h', X', rfl, hW, stp⟩ := f T locs k n X hx hby q5
  exact ⟨T', _, k, n, X', q1, q2, Fr.snoc X' q3 ha, q4, hP' _ _ q5 hW, hx, hby, fun t z => q t (stp t z)⟩
theorem Sit.iastore {x i : Int32} (h : Sit p l e R s m args below meth c bs st n0 cells slots P pc L (.int x :: .int i :: .ref a :: S)) (hZ : Z.Warmed39 s.vm) (ha : n0 ≤ a) (hx0 : 0 ≤ i.toInt) (hP : ∀ hh, P hh → ∃ vs, AV Z hh a .int vs ∧ i.toNatClampNeg < vs.length) (hP' : ∀ hh hh', P hh → Wr hh hh' a i.toNatClampNeg (.int x) → P' hh') (hd : decode bs pc = .ok (.iastore, 1)) (hp : pc + 1 = pc') : Sit p l e R s m args below meth c bs st n0 cells slots P' pc' L S := by
  subst hp
  refine h.wr ha hP' fun T _ _ _ X hx hby hT => ?_
  obtain ⟨vs, ⟨cl, A, r⟩, q⟩ := hP _ hT
  exact stI X hx hZ rfl A (j := i) (AV.inb hx0 r q) (g := mkF m pc L (.int x :: .int i :: .ref a :: S)) rfl rfl (hb hby hd)
theorem Sit.lastore {x : Int64} {i : Int32} (h : Sit p l e R s m args below meth c bs st n0 cells slots P pc L (.long x :: .int i :: .ref a :: S)) (hZ : Z.Warmed39 s.vm) (ha : n0 ≤ a) (hx0 : 0 ≤ i.toInt) (hP : ∀ hh, P hh → ∃ vs, AV Z hh a .long vs ∧ i.toNatClampNeg < vs.length) (hP' : ∀ hh hh', P hh → Wr hh hh' a i.toNatClampNeg (.long x) → P' hh') (hd : decode bs pc = .ok (.lastore, 1)) (hp : pc + 1 = pc') : Sit p l e R s m args below meth c bs st n0 cells slots P' pc' L S := by
  subst hp
  refine h.wr ha hP' fun T _ _ _ X hx hby hT => ?_
  obtain ⟨vs, ⟨cl, A, r⟩, q⟩ := hP _ hT
  exact stJ X hx hZ rfl A (j := i) (AV.inb hx0 r q) (g := mkF m pc L (.long x :: .int i :: .ref a :: S)) rfl rfl (hb hby hd)
theorem Sit.bastore {x i : Int32} (h : Sit p l e R s m args below meth c bs st n0 cells slots P pc L (.int x :: .int i :: .ref a :: S)) (hZ : Z.Warmed39 s.vm) (ha : n0 ≤ a) (hx0 : 0 ≤ i.toInt) (hP : ∀ hh, P hh → ∃ vs, AV Z hh a .byte vs ∧ i.toNatClampNeg < vs.length) (hP' : ∀ hh hh', P hh → Wr hh hh' a i.toNatClampNeg (.int x.toInt8.toInt32) → P' hh') (hd : decode bs pc = .ok (.bastore, 1)) (hp : pc + 1 = pc') : Sit p l e R s m args below meth c bs st n0 cells slots P' pc' L S := by
  subst hp
  refine h.wr ha hP' fun T _ _ _ X hx hby hT => ?_
  obtain ⟨vs, ⟨cl, A, r⟩, q⟩ := hP _ hT
  exact stB X hx hZ rfl A (j := i) (AV.inb hx0 r q) (g := mkF m pc L (.int x :: .int i :: .ref a :: S)) rfl rfl (hb hby hd)
/-- a step that makes one cell -/
theorem Sit.mk1 {d : Nat} {F : Addr → Heap → Heap → Prop} {P' : Addr → Heap → Prop} {S' : Addr → List Value} (h : Sit p l e R s m args below meth c bs st n0 cells slots P pc L S) (hP' : ∀ hh hh' a, P hh → a = hh.size → Ext hh hh' → F a hh hh' → P' a hh')
    (f : ∀ T locs k n, Stand p l e R s m args below meth c T locs k n → k ≤ cells → n ≤ slots → p.tables.exec = Jvm.exec → c.code = bs → P T.heap → ∃ T' h', Stand p l e R s m args below meth c T' locs (k + 1) (n + d) ∧ T'.heap = h' ∧ Ext T.heap h' ∧ F T.heap.size T.heap h' ∧ ∀ t, Steps p.tables e below (T'.setTop (mkF m pc' L' (S' T.heap.size))) t → Steps p.tables e below (T.setTop (mkF m pc L S)) t) :
    ∃ a, n0 ≤ a ∧ Sit p l e R s m args below meth c bs st n0 (cells + 1) (slots + d) (P' a) pc' L' (S' a) := by
  obtain ⟨T, locs, k, n, X, q1, q2, q3, q4, q5, hx, hby, q⟩ := h
  obtain ⟨T', h', X', rfl, hE, hF, stp⟩ := f T locs k n X q1 q2 hx hby q5
  exact ⟨T.heap.size, Nat.le_trans q4 X.same.2.1, T', _, _, _, X', Nat.add_le_add_right q1 _, Nat.add_le_add_right q2 _, q3, q4, hP' _ _ _ q5 rfl hE hF, hx, hby, fun t z => q t (stp t z)⟩
theorem Sit.newarr {n : Int32} {aty : ArrayType} {P' : Addr → Heap → Prop} (cap : Nat) (h : Sit p l e R s m args below meth c bs st n0 cells slots P pc L (.int n :: S)) (hZ : Z.Warmed39 s.vm) (w : (Cond.arrayClass (newarray.typeOf aty)).before a0 Z = true) (hn : 0 ≤ n.toInt) (hcap : n.toNatClampNeg ≤ cap) (hB : cap * 8 ≤ 536870912) (hc : cells + 1 ≤ R.cells) (hl : slots + cap ≤ R.slots)
    (hP' : ∀ hh hh' a, P hh → a = hh.size → Ext hh hh' → AV Z hh' a (newarray.typeOf aty) (List.replicate n.toNatClampNeg (defaultValue (newarray.typeOf aty))) → P' a hh') (hd : decode bs pc = .ok (.newarray aty, 2)) (hp : pc + 2 = pc') : ∃ a, n0 ≤ a ∧ Sit p l e R s m args below meth c bs st n0 (cells + 1) (slots + cap) (P' a) pc' L (.ref a :: S) := by
  subst hp
  refine h.mk1 (F := fun a _ hh' => AV Z hh' a (newarray.typeOf aty) (List.replicate n.toNatClampNeg (defaultValue (newarray.typeOf aty)))) (S' := fun a => .ref a :: S) hP' fun T locs k i X q1 q2 hx hby hT => ?_
  obtain ⟨T', h', cA, X', e', E', A', st'⟩ := newP X hx hZ w rfl (g := mkF m pc L (.int n :: S)) rfl (hb hby hd) rfl (nlt0 hn) hcap hB (Nat.le_trans (Nat.add_le_add_right q1 1) hc) (Nat.le_trans (Nat.add_le_add_right q2 cap) hl)
  exact ⟨T', h', X', e', E', AV.new A', st'⟩
end OwnHeap


abbrev icP (n : Int) : Prop := n = 9 ∨ n = 10 ∨ n = 13 ∨ (32 ≤ n ∧ n ≤ 55295) ∨ (57344 ≤ n ∧ n ≤ 65533) ∨ (65536 ≤ n ∧ n ≤ 1114111)
def icF (x : Int32) : Int32 := if icP x.toInt then 1 else 0


theorem own_set {vs : List Value} {j : Nat} {x : Int32} (q : ∀ i, i < 16 → ∃ y : Int32, vs[i]? = some (.int y)) (n : vs.length = 16) {i : Nat} (hi : i < 16) : ∃ y : Int32, (vs.set j (.int x))[i]? = some (.int y) := by
  by_cases e : j = i
  · subst e; exact ⟨x, by rw [List.getElem?_set_self (by omega)]⟩
  · obtain ⟨y, hy⟩ := q i hi; exact ⟨y, by rw [List.getElem?_set_ne e]; exact hy⟩
theorem own_rem16 (u : Int32) : 0 ≤ ((u &&& (2147483647 : Int32)) % (16 : Int32)).toInt ∧ ((u &&& (2147483647 : Int32)) % (16 : Int32)).toInt < 16 := by
  have h := (c_and u 2147483647 (by decide)).1
  rw [Int32.toInt_mod, Int.tmod_eq_emod_of_nonneg h]
  have e : (16 : Int32).toInt = 16 := rfl
  rw [e]; omega

theorem pn_rm1 : plainName "com/example/schema_on_the_wire/schemaonthewire/util/XmlChars" = true := by first | (simp [plainName, overriddenIn]; done) | decide +kernel
theorem d1_0 : decode prog_239_method_2_code 0 = .ok (.iload_n 0, 1) := by decide +kernel
theorem d1_1 : decode prog_239_method_2_code 1 = .ok (.bipush 9, 2) := by decide +kernel
theorem d1_3 : decode prog_239_method_2_code 3 = .ok (.if_icmp .eq 51, 3) := by decide +kernel
theorem d1_6 : decode prog_239_method_2_code 6 = .ok (.iload_n 0, 1) := by decide +kernel
theorem d1_7 : decode prog_239_method_2_code 7 = .ok (.bipush 10, 2) := by decide +kernel
theorem d1_9 : decode prog_239_method_2_code 9 = .ok (.if_icmp .eq 45, 3) := by decide +kernel
theorem d1_12 : decode prog_239_method_2_code 12 = .ok (.iload_n 0, 1) := by decide +kernel
theorem d1_13 : decode prog_239_method_2_code 13 = .ok (.bipush 13, 2) := by decide +kernel
theorem d1_15 : decode prog_239_method_2_code 15 = .ok (.if_icmp .eq 39, 3) := by decide +kernel
theorem d1_18 : decode prog_239_method_2_code 18 = .ok (.iload_n 0, 1) := by decide +kernel
theorem d1_19 : decode prog_239_method_2_code 19 = .ok (.bipush 32, 2) := by decide +kernel
theorem d1_21 : decode prog_239_method_2_code 21 = .ok (.if_icmp .lt 9, 3) := by decide +kernel
theorem d1_24 : decode prog_239_method_2_code 24 = .ok (.iload_n 0, 1) := by decide +kernel
theorem d1_25 : decode prog_239_method_2_code 25 = .ok (.ldc 7, 2) := by decide +kernel
theorem d1_27 : decode prog_239_method_2_code 27 = .ok (.if_icmp .le 27, 3) := by decide +kernel
theorem d1_30 : decode prog_239_method_2_code 30 = .ok (.iload_n 0, 1) := by decide +kernel
theorem d1_31 : decode prog_239_method_2_code 31 = .ok (.ldc 8, 2) := by decide +kernel
theorem d1_33 : decode prog_239_method_2_code 33 = .ok (.if_icmp .lt 9, 3) := by decide +kernel
theorem d1_36 : decode prog_239_method_2_code 36 = .ok (.iload_n 0, 1) := by decide +kernel
theorem d1_37 : decode prog_239_method_2_code 37 = .ok (.ldc 9, 2) := by decide +kernel
theorem d1_39 : decode prog_239_method_2_code 39 = .ok (.if_icmp .le 15, 3) := by decide +kernel
theorem d1_42 : decode prog_239_method_2_code 42 = .ok (.iload_n 0, 1) := by decide +kernel
theorem d1_43 : decode prog_239_method_2_code 43 = .ok (.ldc 10, 2) := by decide +kernel
theorem d1_45 : decode prog_239_method_2_code 45 = .ok (.if_icmp .lt 13, 3) := by decide +kernel
theorem d1_48 : decode prog_239_method_2_code 48 = .ok (.iload_n 0, 1) := by decide +kernel
theorem d1_49 : decode prog_239_method_2_code 49 = .ok (.ldc 11, 2) := by decide +kernel
theorem d1_51 : decode prog_239_method_2_code 51 = .ok (.if_icmp .gt 7, 3) := by decide +kernel
theorem d1_54 : decode prog_239_method_2_code 54 = .ok (.iconst 1, 1) := by decide +kernel
theorem d1_55 : decode prog_239_method_2_code 55 = .ok (.goto 4, 3) := by decide +kernel
theorem d1_58 : decode prog_239_method_2_code 58 = .ok (.iconst 0, 1) := by decide +kernel
theorem d1_59 : decode prog_239_method_2_code 59 = .ok (.ireturn, 1) := by decide +kernel
theorem ef_rm1 (m : MethodId) (q : Int32) : entryFrame m #[(.int q)] 1 = mkF m 0 #[.val (.int q)] [] := by first | (simp [entryFrame, mkF, argsToLocals, Value.category]; done) | rfl
set_option maxRecDepth 65536 in
set_option maxHeartbeats 40000000 in
theorem rm1 (l : Launch) (Z : State) (a0 : Array Value) (hw : ∀ d ∈ tables_1, d.before a0 Z = true) (wcs : List Jvm.Cond) (q : Int32)  (h0 : Heap) (n0 : Nat) (Z0 : n0 ≤ h0.size)  : Met1 l (⟨"com/example/schema_on_the_wire/schemaonthewire/util/XmlChars", "isChar", "(I)Z"⟩ : MethodName) prog_239_method_2_code 1 (some .boolean) wcs ({ frames := 0, cells := 0, slots := 0, locals := 0 } : Room) Z #[(.int q)] h0 n0 (fun v hh => v = some (.int (icF q)) ∧ hh = h0) := by
  refine Met1.of (L0 := #[.val (.int q)]) (plainFor_of_name pn_rm1) (fun m => ef_rm1 m q) Z0 ?_
  intro p e s m below meth c st s0 hZ hown hret hlk hnm hml
  have s1 : Sit p l e _ s m _ below meth c _ st n0 0 0 _ 3 #[.val (.int q)] [(.int (9 : Int32)), (.int q)] := s0
    |>.iloadN d1_0 rfl rfl
    |>.bipush (9 : Int32) d1_1 rfl rfl
  by_cases c2 : q.toInt = (9 : Int)
  · have s3 : Sit p l e _ s m _ below meth c _ st n0 0 0 _ 59 #[.val (.int q)] [(.int (1 : Int32))] := s1
      |>.icmpY d1_3 (cmpT (cd := .eq) c2) (by decide) (by decide)
      |>.iconst (1 : Int32) d1_54 rfl rfl
      |>.goto d1_55 (by decide) (by decide)
    exact s3.retZ d1_59 hret hlk (fun hh hP => ⟨congrArg (fun t => some (Value.int t)) (by rw [icF, if_pos (by unfold icP; omega)]; rfl), hP⟩)
  · have s4 : Sit p l e _ s m _ below meth c _ st n0 0 0 _ 9 #[.val (.int q)] [(.int (10 : Int32)), (.int q)] := s1
      |>.icmpN d1_3 (cmpF (cd := .eq) c2) rfl
      |>.iloadN d1_6 rfl rfl
      |>.bipush (10 : Int32) d1_7 rfl rfl
    by_cases c5 : q.toInt = (10 : Int)
    · have s6 : Sit p l e _ s m _ below meth c _ st n0 0 0 _ 59 #[.val (.int q)] [(.int (1 : Int32))] := s4
        |>.icmpY d1_9 (cmpT (cd := .eq) c5) (by decide) (by decide)
        |>.iconst (1 : Int32) d1_54 rfl rfl
        |>.goto d1_55 (by decide) (by decide)
      exact s6.retZ d1_59 hret hlk (fun hh hP => ⟨congrArg (fun t => some (Value.int t)) (by rw [icF, if_pos (by unfold icP; omega)]; rfl), hP⟩)
    · have s7 : Sit p l e _ s m _ below meth c _ st n0 0 0 _ 15 #[.val (.int q)] [(.int (13 : Int32)), (.int q)] := s4
        |>.icmpN d1_9 (cmpF (cd := .eq) c5) rfl
        |>.iloadN d1_12 rfl rfl
        |>.bipush (13 : Int32) d1_13 rfl rfl
      by_cases c8 : q.toInt = (13 : Int)
      · have s9 : Sit p l e _ s m _ below meth c _ st n0 0 0 _ 59 #[.val (.int q)] [(.int (1 : Int32))] := s7
          |>.icmpY d1_15 (cmpT (cd := .eq) c8) (by decide) (by decide)
          |>.iconst (1 : Int32) d1_54 rfl rfl
          |>.goto d1_55 (by decide) (by decide)
        exact s9.retZ d1_59 hret hlk (fun hh hP => ⟨congrArg (fun t => some (Value.int t)) (by rw [icF, if_pos (by unfold icP; omega)]; rfl), hP⟩)
      · have s10 : Sit p l e _ s m _ below meth c _ st n0 0 0 _ 21 #[.val (.int q)] [(.int (32 : Int32)), (.int q)] := s7
          |>.icmpN d1_15 (cmpF (cd := .eq) c8) rfl
          |>.iloadN d1_18 rfl rfl
          |>.bipush (32 : Int32) d1_19 rfl rfl
        by_cases c11 : q.toInt < (32 : Int)
        · have s12 : Sit p l e _ s m _ below meth c _ st n0 0 0 _ 33 #[.val (.int q)] [(.int (57344 : Int32)), (.int q)] := s10
            |>.icmpY d1_21 (cmpT (cd := .lt) c11) (by decide) (by decide)
            |>.iloadN d1_30 rfl rfl
            |>.ldc hZ hown (wi hw 16 rfl) d1_31 rfl
          by_cases c13 : q.toInt < (57344 : Int)
          · have s14 : Sit p l e _ s m _ below meth c _ st n0 0 0 _ 45 #[.val (.int q)] [(.int (65536 : Int32)), (.int q)] := s12
              |>.icmpY d1_33 (cmpT (cd := .lt) c13) (by decide) (by decide)
              |>.iloadN d1_42 rfl rfl
              |>.ldc hZ hown (wi hw 17 rfl) d1_43 rfl
            by_cases c15 : q.toInt < (65536 : Int)
            · have s16 : Sit p l e _ s m _ below meth c _ st n0 0 0 _ 59 #[.val (.int q)] [(.int (0 : Int32))] := s14
                |>.icmpY d1_45 (cmpT (cd := .lt) c15) (by decide) (by decide)
                |>.iconst (0 : Int32) d1_58 rfl rfl
              exact s16.retZ d1_59 hret hlk (fun hh hP => ⟨congrArg (fun t => some (Value.int t)) (by rw [icF, if_neg (by unfold icP; omega)]; rfl), hP⟩)
            · have s17 : Sit p l e _ s m _ below meth c _ st n0 0 0 _ 51 #[.val (.int q)] [(.int (1114111 : Int32)), (.int q)] := s14
                |>.icmpN d1_45 (cmpF (cd := .lt) c15) rfl
                |>.iloadN d1_48 rfl rfl
                |>.ldc hZ hown (wi hw 24 rfl) d1_49 rfl
              by_cases c18 : q.toInt > (1114111 : Int)
              · have s19 : Sit p l e _ s m _ below meth c _ st n0 0 0 _ 59 #[.val (.int q)] [(.int (0 : Int32))] := s17
                  |>.icmpY d1_51 (cmpT (cd := .gt) c18) (by decide) (by decide)
                  |>.iconst (0 : Int32) d1_58 rfl rfl
                exact s19.retZ d1_59 hret hlk (fun hh hP => ⟨congrArg (fun t => some (Value.int t)) (by rw [icF, if_neg (by unfold icP; omega)]; rfl), hP⟩)
              · have s20 : Sit p l e _ s m _ below meth c _ st n0 0 0 _ 59 #[.val (.int q)] [(.int (1 : Int32))] := s17
                  |>.icmpN d1_51 (cmpF (cd := .gt) c18) rfl
                  |>.iconst (1 : Int32) d1_54 rfl rfl
                  |>.goto d1_55 (by decide) (by decide)
                exact s20.retZ d1_59 hret hlk (fun hh hP => ⟨congrArg (fun t => some (Value.int t)) (by rw [icF, if_pos (by unfold icP; omega)]; rfl), hP⟩)
          · have s21 : Sit p l e _ s m _ below meth c _ st n0 0 0 _ 39 #[.val (.int q)] [(.int (65533 : Int32)), (.int q)] := s12
              |>.icmpN d1_33 (cmpF (cd := .lt) c13) rfl
              |>.iloadN d1_36 rfl rfl
              |>.ldc hZ hown (wi hw 23 rfl) d1_37 rfl
            by_cases c22 : q.toInt ≤ (65533 : Int)
            · have s23 : Sit p l e _ s m _ below meth c _ st n0 0 0 _ 59 #[.val (.int q)] [(.int (1 : Int32))] := s21
                |>.icmpY d1_39 (cmpT (cd := .le) c22) (by decide) (by decide)
                |>.iconst (1 : Int32) d1_54 rfl rfl
                |>.goto d1_55 (by decide) (by decide)
              exact s23.retZ d1_59 hret hlk (fun hh hP => ⟨congrArg (fun t => some (Value.int t)) (by rw [icF, if_pos (by unfold icP; omega)]; rfl), hP⟩)
            · have s24 : Sit p l e _ s m _ below meth c _ st n0 0 0 _ 45 #[.val (.int q)] [(.int (65536 : Int32)), (.int q)] := s21
                |>.icmpN d1_39 (cmpF (cd := .le) c22) rfl
                |>.iloadN d1_42 rfl rfl
                |>.ldc hZ hown (wi hw 17 rfl) d1_43 rfl
              by_cases c25 : q.toInt < (65536 : Int)
              · have s26 : Sit p l e _ s m _ below meth c _ st n0 0 0 _ 59 #[.val (.int q)] [(.int (0 : Int32))] := s24
                  |>.icmpY d1_45 (cmpT (cd := .lt) c25) (by decide) (by decide)
                  |>.iconst (0 : Int32) d1_58 rfl rfl
                exact s26.retZ d1_59 hret hlk (fun hh hP => ⟨congrArg (fun t => some (Value.int t)) (by rw [icF, if_neg (by unfold icP; omega)]; rfl), hP⟩)
              · have s27 : Sit p l e _ s m _ below meth c _ st n0 0 0 _ 51 #[.val (.int q)] [(.int (1114111 : Int32)), (.int q)] := s24
                  |>.icmpN d1_45 (cmpF (cd := .lt) c25) rfl
                  |>.iloadN d1_48 rfl rfl
                  |>.ldc hZ hown (wi hw 24 rfl) d1_49 rfl
                by_cases c28 : q.toInt > (1114111 : Int)
                · have s29 : Sit p l e _ s m _ below meth c _ st n0 0 0 _ 59 #[.val (.int q)] [(.int (0 : Int32))] := s27
                    |>.icmpY d1_51 (cmpT (cd := .gt) c28) (by decide) (by decide)
                    |>.iconst (0 : Int32) d1_58 rfl rfl
                  exact s29.retZ d1_59 hret hlk (fun hh hP => ⟨congrArg (fun t => some (Value.int t)) (by rw [icF, if_neg (by unfold icP; omega)]; rfl), hP⟩)
                · have s30 : Sit p l e _ s m _ below meth c _ st n0 0 0 _ 59 #[.val (.int q)] [(.int (1 : Int32))] := s27
                    |>.icmpN d1_51 (cmpF (cd := .gt) c28) rfl
                    |>.iconst (1 : Int32) d1_54 rfl rfl
                    |>.goto d1_55 (by decide) (by decide)
                  exact s30.retZ d1_59 hret hlk (fun hh hP => ⟨congrArg (fun t => some (Value.int t)) (by rw [icF, if_pos (by unfold icP; omega)]; rfl), hP⟩)
        · have s31 : Sit p l e _ s m _ below meth c _ st n0 0 0 _ 27 #[.val (.int q)] [(.int (55295 : Int32)), (.int q)] := s10
            |>.icmpN d1_21 (cmpF (cd := .lt) c11) rfl
            |>.iloadN d1_24 rfl rfl
            |>.ldc hZ hown (wi hw 22 rfl) d1_25 rfl
          by_cases c32 : q.toInt ≤ (55295 : Int)
          · have s33 : Sit p l e _ s m _ below meth c _ st n0 0 0 _ 59 #[.val (.int q)] [(.int (1 : Int32))] := s31
              |>.icmpY d1_27 (cmpT (cd := .le) c32) (by decide) (by decide)
              |>.iconst (1 : Int32) d1_54 rfl rfl
              |>.goto d1_55 (by decide) (by decide)
            exact s33.retZ d1_59 hret hlk (fun hh hP => ⟨congrArg (fun t => some (Value.int t)) (by rw [icF, if_pos (by unfold icP; omega)]; rfl), hP⟩)
          · have s34 : Sit p l e _ s m _ below meth c _ st n0 0 0 _ 33 #[.val (.int q)] [(.int (57344 : Int32)), (.int q)] := s31
              |>.icmpN d1_27 (cmpF (cd := .le) c32) rfl
              |>.iloadN d1_30 rfl rfl
              |>.ldc hZ hown (wi hw 16 rfl) d1_31 rfl
            by_cases c35 : q.toInt < (57344 : Int)
            · have s36 : Sit p l e _ s m _ below meth c _ st n0 0 0 _ 45 #[.val (.int q)] [(.int (65536 : Int32)), (.int q)] := s34
                |>.icmpY d1_33 (cmpT (cd := .lt) c35) (by decide) (by decide)
                |>.iloadN d1_42 rfl rfl
                |>.ldc hZ hown (wi hw 17 rfl) d1_43 rfl
              by_cases c37 : q.toInt < (65536 : Int)
              · have s38 : Sit p l e _ s m _ below meth c _ st n0 0 0 _ 59 #[.val (.int q)] [(.int (0 : Int32))] := s36
                  |>.icmpY d1_45 (cmpT (cd := .lt) c37) (by decide) (by decide)
                  |>.iconst (0 : Int32) d1_58 rfl rfl
                exact s38.retZ d1_59 hret hlk (fun hh hP => ⟨congrArg (fun t => some (Value.int t)) (by rw [icF, if_neg (by unfold icP; omega)]; rfl), hP⟩)
              · have s39 : Sit p l e _ s m _ below meth c _ st n0 0 0 _ 51 #[.val (.int q)] [(.int (1114111 : Int32)), (.int q)] := s36
                  |>.icmpN d1_45 (cmpF (cd := .lt) c37) rfl
                  |>.iloadN d1_48 rfl rfl
                  |>.ldc hZ hown (wi hw 24 rfl) d1_49 rfl
                by_cases c40 : q.toInt > (1114111 : Int)
                · have s41 : Sit p l e _ s m _ below meth c _ st n0 0 0 _ 59 #[.val (.int q)] [(.int (0 : Int32))] := s39
                    |>.icmpY d1_51 (cmpT (cd := .gt) c40) (by decide) (by decide)
                    |>.iconst (0 : Int32) d1_58 rfl rfl
                  exact s41.retZ d1_59 hret hlk (fun hh hP => ⟨congrArg (fun t => some (Value.int t)) (by rw [icF, if_neg (by unfold icP; omega)]; rfl), hP⟩)
                · have s42 : Sit p l e _ s m _ below meth c _ st n0 0 0 _ 59 #[.val (.int q)] [(.int (1 : Int32))] := s39
                    |>.icmpN d1_51 (cmpF (cd := .gt) c40) rfl
                    |>.iconst (1 : Int32) d1_54 rfl rfl
                    |>.goto d1_55 (by decide) (by decide)
                  exact s42.retZ d1_59 hret hlk (fun hh hP => ⟨congrArg (fun t => some (Value.int t)) (by rw [icF, if_pos (by unfold icP; omega)]; rfl), hP⟩)
            · have s43 : Sit p l e _ s m _ below meth c _ st n0 0 0 _ 39 #[.val (.int q)] [(.int (65533 : Int32)), (.int q)] := s34
                |>.icmpN d1_33 (cmpF (cd := .lt) c35) rfl
                |>.iloadN d1_36 rfl rfl
                |>.ldc hZ hown (wi hw 23 rfl) d1_37 rfl
              by_cases c44 : q.toInt ≤ (65533 : Int)
              · have s45 : Sit p l e _ s m _ below meth c _ st n0 0 0 _ 59 #[.val (.int q)] [(.int (1 : Int32))] := s43
                  |>.icmpY d1_39 (cmpT (cd := .le) c44) (by decide) (by decide)
                  |>.iconst (1 : Int32) d1_54 rfl rfl
                  |>.goto d1_55 (by decide) (by decide)
                exact s45.retZ d1_59 hret hlk (fun hh hP => ⟨congrArg (fun t => some (Value.int t)) (by rw [icF, if_pos (by unfold icP; omega)]; rfl), hP⟩)
              · have s46 : Sit p l e _ s m _ below meth c _ st n0 0 0 _ 45 #[.val (.int q)] [(.int (65536 : Int32)), (.int q)] := s43
                  |>.icmpN d1_39 (cmpF (cd := .le) c44) rfl
                  |>.iloadN d1_42 rfl rfl
                  |>.ldc hZ hown (wi hw 17 rfl) d1_43 rfl
                by_cases c47 : q.toInt < (65536 : Int)
                · have s48 : Sit p l e _ s m _ below meth c _ st n0 0 0 _ 59 #[.val (.int q)] [(.int (0 : Int32))] := s46
                    |>.icmpY d1_45 (cmpT (cd := .lt) c47) (by decide) (by decide)
                    |>.iconst (0 : Int32) d1_58 rfl rfl
                  exact s48.retZ d1_59 hret hlk (fun hh hP => ⟨congrArg (fun t => some (Value.int t)) (by rw [icF, if_neg (by unfold icP; omega)]; rfl), hP⟩)
                · have s49 : Sit p l e _ s m _ below meth c _ st n0 0 0 _ 51 #[.val (.int q)] [(.int (1114111 : Int32)), (.int q)] := s46
                    |>.icmpN d1_45 (cmpF (cd := .lt) c47) rfl
                    |>.iloadN d1_48 rfl rfl
                    |>.ldc hZ hown (wi hw 24 rfl) d1_49 rfl
                  by_cases c50 : q.toInt > (1114111 : Int)
                  · have s51 : Sit p l e _ s m _ below meth c _ st n0 0 0 _ 59 #[.val (.int q)] [(.int (0 : Int32))] := s49
                      |>.icmpY d1_51 (cmpT (cd := .gt) c50) (by decide) (by decide)
                      |>.iconst (0 : Int32) d1_58 rfl rfl
                    exact s51.retZ d1_59 hret hlk (fun hh hP => ⟨congrArg (fun t => some (Value.int t)) (by rw [icF, if_neg (by unfold icP; omega)]; rfl), hP⟩)
                  · have s52 : Sit p l e _ s m _ below meth c _ st n0 0 0 _ 59 #[.val (.int q)] [(.int (1 : Int32))] := s49
                      |>.icmpN d1_51 (cmpF (cd := .gt) c50) rfl
                      |>.iconst (1 : Int32) d1_54 rfl rfl
                      |>.goto d1_55 (by decide) (by decide)
                    exact s52.retZ d1_59 hret hlk (fun hh hP => ⟨congrArg (fun t => some (Value.int t)) (by rw [icF, if_pos (by unfold icP; omega)]; rfl), hP⟩)
theorem pn_rm2 : plainName "com/example/schema_on_the_wire/schemaonthewire/util/XmlCharsIsCharPinLaw" = true := by first | (simp [plainName, overriddenIn]; done) | decide +kernel
theorem d2_0 : decode method_2_code 0 = .ok (.iload_n 0, 1) := by decide +kernel
theorem d2_1 : decode method_2_code 1 = .ok (.ifCond .lt 9, 3) := by decide +kernel
theorem d2_4 : decode method_2_code 4 = .ok (.iload_n 0, 1) := by decide +kernel
theorem d2_5 : decode method_2_code 5 = .ok (.ldc 7, 2) := by decide +kernel
theorem d2_7 : decode method_2_code 7 = .ok (.if_icmp .le 5, 3) := by decide +kernel
theorem d2_10 : decode method_2_code 10 = .ok (.iconst 0, 1) := by decide +kernel
theorem d2_11 : decode method_2_code 11 = .ok (.ireturn, 1) := by decide +kernel
theorem d2_12 : decode method_2_code 12 = .ok (.iload_n 0, 1) := by decide +kernel
theorem d2_13 : decode method_2_code 13 = .ok (.bipush 32, 2) := by decide +kernel
theorem d2_15 : decode method_2_code 15 = .ok (.if_icmp .ge 27, 3) := by decide +kernel
theorem d2_18 : decode method_2_code 18 = .ok (.iload_n 0, 1) := by decide +kernel
theorem d2_19 : decode method_2_code 19 = .ok (.bipush 9, 2) := by decide +kernel
theorem d2_21 : decode method_2_code 21 = .ok (.if_icmp .eq 15, 3) := by decide +kernel
theorem d2_24 : decode method_2_code 24 = .ok (.iload_n 0, 1) := by decide +kernel
theorem d2_25 : decode method_2_code 25 = .ok (.bipush 10, 2) := by decide +kernel
theorem d2_27 : decode method_2_code 27 = .ok (.if_icmp .eq 9, 3) := by decide +kernel
theorem d2_30 : decode method_2_code 30 = .ok (.iload_n 0, 1) := by decide +kernel
theorem d2_31 : decode method_2_code 31 = .ok (.bipush 13, 2) := by decide +kernel
theorem d2_33 : decode method_2_code 33 = .ok (.if_icmp .ne 7, 3) := by decide +kernel
theorem d2_36 : decode method_2_code 36 = .ok (.iconst 1, 1) := by decide +kernel
theorem d2_37 : decode method_2_code 37 = .ok (.goto 4, 3) := by decide +kernel
theorem d2_40 : decode method_2_code 40 = .ok (.iconst 0, 1) := by decide +kernel
theorem d2_41 : decode method_2_code 41 = .ok (.ireturn, 1) := by decide +kernel
theorem d2_42 : decode method_2_code 42 = .ok (.iload_n 0, 1) := by decide +kernel
theorem d2_43 : decode method_2_code 43 = .ok (.ldc 8, 2) := by decide +kernel
theorem d2_45 : decode method_2_code 45 = .ok (.if_icmp .lt 11, 3) := by decide +kernel
theorem d2_48 : decode method_2_code 48 = .ok (.iload_n 0, 1) := by decide +kernel
theorem d2_49 : decode method_2_code 49 = .ok (.ldc 9, 2) := by decide +kernel
theorem d2_51 : decode method_2_code 51 = .ok (.if_icmp .gt 5, 3) := by decide +kernel
theorem d2_54 : decode method_2_code 54 = .ok (.iconst 0, 1) := by decide +kernel
theorem d2_55 : decode method_2_code 55 = .ok (.ireturn, 1) := by decide +kernel
theorem d2_56 : decode method_2_code 56 = .ok (.iload_n 0, 1) := by decide +kernel
theorem d2_57 : decode method_2_code 57 = .ok (.ldc 10, 2) := by decide +kernel
theorem d2_59 : decode method_2_code 59 = .ok (.if_icmp .eq 9, 3) := by decide +kernel
theorem d2_62 : decode method_2_code 62 = .ok (.iload_n 0, 1) := by decide +kernel
theorem d2_63 : decode method_2_code 63 = .ok (.ldc 11, 2) := by decide +kernel
theorem d2_65 : decode method_2_code 65 = .ok (.if_icmp .ne 5, 3) := by decide +kernel
theorem d2_68 : decode method_2_code 68 = .ok (.iconst 0, 1) := by decide +kernel
theorem d2_69 : decode method_2_code 69 = .ok (.ireturn, 1) := by decide +kernel
theorem d2_70 : decode method_2_code 70 = .ok (.iconst 1, 1) := by decide +kernel
theorem d2_71 : decode method_2_code 71 = .ok (.ireturn, 1) := by decide +kernel
theorem ef_rm2 (m : MethodId) (q : Int32) : entryFrame m #[(.int q)] 1 = mkF m 0 #[.val (.int q)] [] := by first | (simp [entryFrame, mkF, argsToLocals, Value.category]; done) | rfl
set_option maxRecDepth 65536 in
set_option maxHeartbeats 40000000 in
theorem rm2 (l : Launch) (Z : State) (a0 : Array Value) (hw : ∀ d ∈ tables_1, d.before a0 Z = true) (wcs : List Jvm.Cond) (q : Int32)  (h0 : Heap) (n0 : Nat) (Z0 : n0 ≤ h0.size)  : Met1 l (⟨"com/example/schema_on_the_wire/schemaonthewire/util/XmlCharsIsCharPinLaw", "ref", "(I)Z"⟩ : MethodName) method_2_code 1 (some .boolean) wcs ({ frames := 0, cells := 0, slots := 0, locals := 0 } : Room) Z #[(.int q)] h0 n0 (fun v hh => v = some (.int (icF q)) ∧ hh = h0) := by
  refine Met1.of (L0 := #[.val (.int q)]) (plainFor_of_name pn_rm2) (fun m => ef_rm2 m q) Z0 ?_
  intro p e s m below meth c st s0 hZ hown hret hlk hnm hml
  have s1 : Sit p l e _ s m _ below meth c _ st n0 0 0 _ 1 #[.val (.int q)] [(.int q)] := s0
    |>.iloadN d2_0 rfl rfl
  by_cases c2 : q.toInt < 0
  · have s3 : Sit p l e _ s m _ below meth c _ st n0 0 0 _ 11 #[.val (.int q)] [(.int (0 : Int32))] := s1
      |>.ifY d2_1 (cmpT0 (cd := .lt) c2) (by decide) (by decide)
      |>.iconst (0 : Int32) d2_10 rfl rfl
    exact s3.retZ d2_11 hret hlk (fun hh hP => ⟨congrArg (fun t => some (Value.int t)) (by rw [icF, if_neg (by unfold icP; omega)]; rfl), hP⟩)
  · have s4 : Sit p l e _ s m _ below meth c _ st n0 0 0 _ 7 #[.val (.int q)] [(.int (1114111 : Int32)), (.int q)] := s1
      |>.ifN d2_1 (cmpF0 (cd := .lt) c2) rfl
      |>.iloadN d2_4 rfl rfl
      |>.ldc hZ hown (wi hw 8 rfl) d2_5 rfl
    by_cases c5 : q.toInt ≤ (1114111 : Int)
    · have s6 : Sit p l e _ s m _ below meth c _ st n0 0 0 _ 15 #[.val (.int q)] [(.int (32 : Int32)), (.int q)] := s4
        |>.icmpY d2_7 (cmpT (cd := .le) c5) (by decide) (by decide)
        |>.iloadN d2_12 rfl rfl
        |>.bipush (32 : Int32) d2_13 rfl rfl
      by_cases c7 : q.toInt ≥ (32 : Int)
      · have s8 : Sit p l e _ s m _ below meth c _ st n0 0 0 _ 45 #[.val (.int q)] [(.int (55296 : Int32)), (.int q)] := s6
          |>.icmpY d2_15 (cmpT (cd := .ge) c7) (by decide) (by decide)
          |>.iloadN d2_42 rfl rfl
          |>.ldc hZ hown (wi hw 2 rfl) d2_43 rfl
        by_cases c9 : q.toInt < (55296 : Int)
        · have s10 : Sit p l e _ s m _ below meth c _ st n0 0 0 _ 59 #[.val (.int q)] [(.int (65534 : Int32)), (.int q)] := s8
            |>.icmpY d2_45 (cmpT (cd := .lt) c9) (by decide) (by decide)
            |>.iloadN d2_56 rfl rfl
            |>.ldc hZ hown (wi hw 25 rfl) d2_57 rfl
          by_cases c11 : q.toInt = (65534 : Int)
          · have s12 : Sit p l e _ s m _ below meth c _ st n0 0 0 _ 69 #[.val (.int q)] [(.int (0 : Int32))] := s10
              |>.icmpY d2_59 (cmpT (cd := .eq) c11) (by decide) (by decide)
              |>.iconst (0 : Int32) d2_68 rfl rfl
            exact s12.retZ d2_69 hret hlk (fun hh hP => ⟨congrArg (fun t => some (Value.int t)) (by rw [icF, if_neg (by unfold icP; omega)]; rfl), hP⟩)
          · have s13 : Sit p l e _ s m _ below meth c _ st n0 0 0 _ 65 #[.val (.int q)] [(.int (65535 : Int32)), (.int q)] := s10
              |>.icmpN d2_59 (cmpF (cd := .eq) c11) rfl
              |>.iloadN d2_62 rfl rfl
              |>.ldc hZ hown (wi hw 6 rfl) d2_63 rfl
            by_cases c14 : q.toInt ≠ (65535 : Int)
            · have s15 : Sit p l e _ s m _ below meth c _ st n0 0 0 _ 71 #[.val (.int q)] [(.int (1 : Int32))] := s13
                |>.icmpY d2_65 (cmpT (cd := .ne) c14) (by decide) (by decide)
                |>.iconst (1 : Int32) d2_70 rfl rfl
              exact s15.retZ d2_71 hret hlk (fun hh hP => ⟨congrArg (fun t => some (Value.int t)) (by rw [icF, if_pos (by unfold icP; omega)]; rfl), hP⟩)
            · have s16 : Sit p l e _ s m _ below meth c _ st n0 0 0 _ 69 #[.val (.int q)] [(.int (0 : Int32))] := s13
                |>.icmpN d2_65 (cmpF (cd := .ne) c14) rfl
                |>.iconst (0 : Int32) d2_68 rfl rfl
              exact s16.retZ d2_69 hret hlk (fun hh hP => ⟨congrArg (fun t => some (Value.int t)) (by rw [icF, if_neg (by unfold icP; omega)]; rfl), hP⟩)
        · have s17 : Sit p l e _ s m _ below meth c _ st n0 0 0 _ 51 #[.val (.int q)] [(.int (57343 : Int32)), (.int q)] := s8
            |>.icmpN d2_45 (cmpF (cd := .lt) c9) rfl
            |>.iloadN d2_48 rfl rfl
            |>.ldc hZ hown (wi hw 3 rfl) d2_49 rfl
          by_cases c18 : q.toInt > (57343 : Int)
          · have s19 : Sit p l e _ s m _ below meth c _ st n0 0 0 _ 59 #[.val (.int q)] [(.int (65534 : Int32)), (.int q)] := s17
              |>.icmpY d2_51 (cmpT (cd := .gt) c18) (by decide) (by decide)
              |>.iloadN d2_56 rfl rfl
              |>.ldc hZ hown (wi hw 25 rfl) d2_57 rfl
            by_cases c20 : q.toInt = (65534 : Int)
            · have s21 : Sit p l e _ s m _ below meth c _ st n0 0 0 _ 69 #[.val (.int q)] [(.int (0 : Int32))] := s19
                |>.icmpY d2_59 (cmpT (cd := .eq) c20) (by decide) (by decide)
                |>.iconst (0 : Int32) d2_68 rfl rfl
              exact s21.retZ d2_69 hret hlk (fun hh hP => ⟨congrArg (fun t => some (Value.int t)) (by rw [icF, if_neg (by unfold icP; omega)]; rfl), hP⟩)
            · have s22 : Sit p l e _ s m _ below meth c _ st n0 0 0 _ 65 #[.val (.int q)] [(.int (65535 : Int32)), (.int q)] := s19
                |>.icmpN d2_59 (cmpF (cd := .eq) c20) rfl
                |>.iloadN d2_62 rfl rfl
                |>.ldc hZ hown (wi hw 6 rfl) d2_63 rfl
              by_cases c23 : q.toInt ≠ (65535 : Int)
              · have s24 : Sit p l e _ s m _ below meth c _ st n0 0 0 _ 71 #[.val (.int q)] [(.int (1 : Int32))] := s22
                  |>.icmpY d2_65 (cmpT (cd := .ne) c23) (by decide) (by decide)
                  |>.iconst (1 : Int32) d2_70 rfl rfl
                exact s24.retZ d2_71 hret hlk (fun hh hP => ⟨congrArg (fun t => some (Value.int t)) (by rw [icF, if_pos (by unfold icP; omega)]; rfl), hP⟩)
              · have s25 : Sit p l e _ s m _ below meth c _ st n0 0 0 _ 69 #[.val (.int q)] [(.int (0 : Int32))] := s22
                  |>.icmpN d2_65 (cmpF (cd := .ne) c23) rfl
                  |>.iconst (0 : Int32) d2_68 rfl rfl
                exact s25.retZ d2_69 hret hlk (fun hh hP => ⟨congrArg (fun t => some (Value.int t)) (by rw [icF, if_neg (by unfold icP; omega)]; rfl), hP⟩)
          · have s26 : Sit p l e _ s m _ below meth c _ st n0 0 0 _ 55 #[.val (.int q)] [(.int (0 : Int32))] := s17
              |>.icmpN d2_51 (cmpF (cd := .gt) c18) rfl
              |>.iconst (0 : Int32) d2_54 rfl rfl
            exact s26.retZ d2_55 hret hlk (fun hh hP => ⟨congrArg (fun t => some (Value.int t)) (by rw [icF, if_neg (by unfold icP; omega)]; rfl), hP⟩)
      · have s27 : Sit p l e _ s m _ below meth c _ st n0 0 0 _ 21 #[.val (.int q)] [(.int (9 : Int32)), (.int q)] := s6
          |>.icmpN d2_15 (cmpF (cd := .ge) c7) rfl
          |>.iloadN d2_18 rfl rfl
          |>.bipush (9 : Int32) d2_19 rfl rfl
        by_cases c28 : q.toInt = (9 : Int)
        · have s29 : Sit p l e _ s m _ below meth c _ st n0 0 0 _ 41 #[.val (.int q)] [(.int (1 : Int32))] := s27
            |>.icmpY d2_21 (cmpT (cd := .eq) c28) (by decide) (by decide)
            |>.iconst (1 : Int32) d2_36 rfl rfl
            |>.goto d2_37 (by decide) (by decide)
          exact s29.retZ d2_41 hret hlk (fun hh hP => ⟨congrArg (fun t => some (Value.int t)) (by rw [icF, if_pos (by unfold icP; omega)]; rfl), hP⟩)
        · have s30 : Sit p l e _ s m _ below meth c _ st n0 0 0 _ 27 #[.val (.int q)] [(.int (10 : Int32)), (.int q)] := s27
            |>.icmpN d2_21 (cmpF (cd := .eq) c28) rfl
            |>.iloadN d2_24 rfl rfl
            |>.bipush (10 : Int32) d2_25 rfl rfl
          by_cases c31 : q.toInt = (10 : Int)
          · have s32 : Sit p l e _ s m _ below meth c _ st n0 0 0 _ 41 #[.val (.int q)] [(.int (1 : Int32))] := s30
              |>.icmpY d2_27 (cmpT (cd := .eq) c31) (by decide) (by decide)
              |>.iconst (1 : Int32) d2_36 rfl rfl
              |>.goto d2_37 (by decide) (by decide)
            exact s32.retZ d2_41 hret hlk (fun hh hP => ⟨congrArg (fun t => some (Value.int t)) (by rw [icF, if_pos (by unfold icP; omega)]; rfl), hP⟩)
          · have s33 : Sit p l e _ s m _ below meth c _ st n0 0 0 _ 33 #[.val (.int q)] [(.int (13 : Int32)), (.int q)] := s30
              |>.icmpN d2_27 (cmpF (cd := .eq) c31) rfl
              |>.iloadN d2_30 rfl rfl
              |>.bipush (13 : Int32) d2_31 rfl rfl
            by_cases c34 : q.toInt ≠ (13 : Int)
            · have s35 : Sit p l e _ s m _ below meth c _ st n0 0 0 _ 41 #[.val (.int q)] [(.int (0 : Int32))] := s33
                |>.icmpY d2_33 (cmpT (cd := .ne) c34) (by decide) (by decide)
                |>.iconst (0 : Int32) d2_40 rfl rfl
              exact s35.retZ d2_41 hret hlk (fun hh hP => ⟨congrArg (fun t => some (Value.int t)) (by rw [icF, if_neg (by unfold icP; omega)]; rfl), hP⟩)
            · have s36 : Sit p l e _ s m _ below meth c _ st n0 0 0 _ 41 #[.val (.int q)] [(.int (1 : Int32))] := s33
                |>.icmpN d2_33 (cmpF (cd := .ne) c34) rfl
                |>.iconst (1 : Int32) d2_36 rfl rfl
                |>.goto d2_37 (by decide) (by decide)
              exact s36.retZ d2_41 hret hlk (fun hh hP => ⟨congrArg (fun t => some (Value.int t)) (by rw [icF, if_pos (by unfold icP; omega)]; rfl), hP⟩)
    · have s37 : Sit p l e _ s m _ below meth c _ st n0 0 0 _ 11 #[.val (.int q)] [(.int (0 : Int32))] := s4
        |>.icmpN d2_7 (cmpF (cd := .le) c5) rfl
        |>.iconst (0 : Int32) d2_10 rfl rfl
      exact s37.retZ d2_11 hret hlk (fun hh hP => ⟨congrArg (fun t => some (Value.int t)) (by rw [icF, if_neg (by unfold icP; omega)]; rfl), hP⟩)
theorem pd_0 : parseMethodDescriptor "(I)Z" = some ⟨[.int], some .boolean⟩ := by decide +kernel
theorem pn_rm0 : plainName "com/example/schema_on_the_wire/schemaonthewire/util/XmlCharsIsCharPinLaw" = true := by first | (simp [plainName, overriddenIn]; done) | decide +kernel
theorem ef_rm0 (m : MethodId) (q : Int32) (u : Int32) (t : Int32) : entryFrame m #[(.int q), (.int u), (.int t)] maxLocals = mkF m 0 #[.val (.int q), .val (.int u), .val (.int t), .unset, .unset, .unset, .unset, .unset] [] := by first | (simp [entryFrame, mkF, argsToLocals, Value.category, maxLocals]; done) | rfl
set_option maxRecDepth 65536 in
set_option maxHeartbeats 40000000 in
theorem rm0 (l : Launch) (Z : State) (a0 : Array Value) (hw : ∀ d ∈ tables_1, d.before a0 Z = true) (wcs : List Jvm.Cond) (q : Int32) (u : Int32) (t : Int32)  (h0 : Heap) (n0 : Nat) (Z0 : n0 ≤ h0.size)  : Met1 l x code maxLocals ret wcs room_1 Z #[(.int q), (.int u), (.int t)] h0 n0 (fun v hh => v = some (.int 1)) := by
  refine Met1.of (L0 := #[.val (.int q), .val (.int u), .val (.int t), .unset, .unset, .unset, .unset, .unset]) (plainFor_of_name pn_rm0) (fun m => ef_rm0 m q u t) Z0 ?_
  intro p e s m below meth c st s0 hZ hown hret hlk hnm hml
  have hown : s.vm.findClass "com/example/schema_on_the_wire/schemaonthewire/util/XmlCharsIsCharPinLaw" = some m.cls := hown
  have hret : meth.sig.returnType = some .boolean := hret
  have hml : c.maxLocals = 8 := hml
  have s1 : Sit p l e _ s m _ below meth c _ st n0 0 0 _ 2 #[.val (.int q), .val (.int u), .val (.int t), .unset, .unset, .unset, .unset, .unset] [(.int (16 : Int32))] := s0
    |>.bipush (16 : Int32) at_0 rfl rfl
  obtain ⟨b, g_b, s2⟩ := Sit.newarr (aty := .int) (P' := fun b => fun hh => ∃ vs : List Value, AV Z hh b .int vs ∧ vs.length = 16 ∧ ∀ i, i < 16 → ∃ y : Int32, vs[i]? = some (.int y)) 16 s1 hZ (wi hw 0 rfl) (by decide) (by decide) (by decide) (by decide) (by decide) (fun hh hh' a _ _ _ A => ⟨_, A, by decide, fun i hi => ⟨0, by show (List.replicate 16 (Value.int 0))[i]? = _; rw [List.getElem?_replicate, if_pos hi]⟩⟩) at_2 (pc' := 4) rfl
  have s3 : Sit p l e _ s m _ below meth c _ st n0 1 16 _ 4 #[.val (.int q), .val (.int u), .val (.int t), .unset, .unset, .unset, .unset, .unset] [(.ref b)] := s2
  have s4 : Sit p l e _ s m _ below meth c _ st n0 1 16 _ 7 #[.val (.int q), .val (.int u), .val (.int t), .unset, .unset, .unset, .unset, .unset] [(.int (0 : Int32)), (.int (0 : Int32)), (.ref b), (.ref b)] := s3
    |>.dup at_4 rfl rfl
    |>.iconst (0 : Int32) at_5 rfl rfl
    |>.iconst (0 : Int32) at_6 rfl rfl
  have s5 : Sit p l e _ s m _ below meth c _ st n0 1 16 _ 8 #[.val (.int q), .val (.int u), .val (.int t), .unset, .unset, .unset, .unset, .unset] [(.ref b)] := s4
    |>.iastore (P' := fun hh => ∃ vs : List Value, AV Z hh b .int vs ∧ vs.length = 16 ∧ ∀ i, i < 16 → ∃ y : Int32, vs[i]? = some (.int y)) hZ (g_b) (by decide) (fun hh ⟨vs, A, n, _⟩ => ⟨vs, A, by rw [n]; decide⟩) (fun hh hh' ⟨vs, A, n, q⟩ X => ⟨_, A.set X, by rw [List.length_set]; exact n, fun i hi => own_set q n hi⟩) at_7 rfl
  have s6 : Sit p l e _ s m _ below meth c _ st n0 1 16 _ 12 #[.val (.int q), .val (.int u), .val (.int t), .unset, .unset, .unset, .unset, .unset] [(.int (9 : Int32)), (.int (1 : Int32)), (.ref b), (.ref b)] := s5
    |>.dup at_8 rfl rfl
    |>.iconst (1 : Int32) at_9 rfl rfl
    |>.bipush (9 : Int32) at_10 rfl rfl
  have s7 : Sit p l e _ s m _ below meth c _ st n0 1 16 _ 13 #[.val (.int q), .val (.int u), .val (.int t), .unset, .unset, .unset, .unset, .unset] [(.ref b)] := s6
    |>.iastore (P' := fun hh => ∃ vs : List Value, AV Z hh b .int vs ∧ vs.length = 16 ∧ ∀ i, i < 16 → ∃ y : Int32, vs[i]? = some (.int y)) hZ (g_b) (by decide) (fun hh ⟨vs, A, n, _⟩ => ⟨vs, A, by rw [n]; decide⟩) (fun hh hh' ⟨vs, A, n, q⟩ X => ⟨_, A.set X, by rw [List.length_set]; exact n, fun i hi => own_set q n hi⟩) at_12 rfl
  have s8 : Sit p l e _ s m _ below meth c _ st n0 1 16 _ 17 #[.val (.int q), .val (.int u), .val (.int t), .unset, .unset, .unset, .unset, .unset] [(.int (10 : Int32)), (.int (2 : Int32)), (.ref b), (.ref b)] := s7
    |>.dup at_13 rfl rfl
    |>.iconst (2 : Int32) at_14 rfl rfl
    |>.bipush (10 : Int32) at_15 rfl rfl
  have s9 : Sit p l e _ s m _ below meth c _ st n0 1 16 _ 18 #[.val (.int q), .val (.int u), .val (.int t), .unset, .unset, .unset, .unset, .unset] [(.ref b)] := s8
    |>.iastore (P' := fun hh => ∃ vs : List Value, AV Z hh b .int vs ∧ vs.length = 16 ∧ ∀ i, i < 16 → ∃ y : Int32, vs[i]? = some (.int y)) hZ (g_b) (by decide) (fun hh ⟨vs, A, n, _⟩ => ⟨vs, A, by rw [n]; decide⟩) (fun hh hh' ⟨vs, A, n, q⟩ X => ⟨_, A.set X, by rw [List.length_set]; exact n, fun i hi => own_set q n hi⟩) at_17 rfl
  have s10 : Sit p l e _ s m _ below meth c _ st n0 1 16 _ 22 #[.val (.int q), .val (.int u), .val (.int t), .unset, .unset, .unset, .unset, .unset] [(.int (13 : Int32)), (.int (3 : Int32)), (.ref b), (.ref b)] := s9
    |>.dup at_18 rfl rfl
    |>.iconst (3 : Int32) at_19 rfl rfl
    |>.bipush (13 : Int32) at_20 rfl rfl
  have s11 : Sit p l e _ s m _ below meth c _ st n0 1 16 _ 23 #[.val (.int q), .val (.int u), .val (.int t), .unset, .unset, .unset, .unset, .unset] [(.ref b)] := s10
    |>.iastore (P' := fun hh => ∃ vs : List Value, AV Z hh b .int vs ∧ vs.length = 16 ∧ ∀ i, i < 16 → ∃ y : Int32, vs[i]? = some (.int y)) hZ (g_b) (by decide) (fun hh ⟨vs, A, n, _⟩ => ⟨vs, A, by rw [n]; decide⟩) (fun hh hh' ⟨vs, A, n, q⟩ X => ⟨_, A.set X, by rw [List.length_set]; exact n, fun i hi => own_set q n hi⟩) at_22 rfl
  have s12 : Sit p l e _ s m _ below meth c _ st n0 1 16 _ 27 #[.val (.int q), .val (.int u), .val (.int t), .unset, .unset, .unset, .unset, .unset] [(.int (32 : Int32)), (.int (4 : Int32)), (.ref b), (.ref b)] := s11
    |>.dup at_23 rfl rfl
    |>.iconst (4 : Int32) at_24 rfl rfl
    |>.bipush (32 : Int32) at_25 rfl rfl
  have s13 : Sit p l e _ s m _ below meth c _ st n0 1 16 _ 28 #[.val (.int q), .val (.int u), .val (.int t), .unset, .unset, .unset, .unset, .unset] [(.ref b)] := s12
    |>.iastore (P' := fun hh => ∃ vs : List Value, AV Z hh b .int vs ∧ vs.length = 16 ∧ ∀ i, i < 16 → ∃ y : Int32, vs[i]? = some (.int y)) hZ (g_b) (by decide) (fun hh ⟨vs, A, n, _⟩ => ⟨vs, A, by rw [n]; decide⟩) (fun hh hh' ⟨vs, A, n, q⟩ X => ⟨_, A.set X, by rw [List.length_set]; exact n, fun i hi => own_set q n hi⟩) at_27 rfl
  have s14 : Sit p l e _ s m _ below meth c _ st n0 1 16 _ 32 #[.val (.int q), .val (.int u), .val (.int t), .unset, .unset, .unset, .unset, .unset] [(.int (55295 : Int32)), (.int (5 : Int32)), (.ref b), (.ref b)] := s13
    |>.dup at_28 rfl rfl
    |>.iconst (5 : Int32) at_29 rfl rfl
    |>.ldc hZ hown (wi hw 1 rfl) at_30 rfl
  have s15 : Sit p l e _ s m _ below meth c _ st n0 1 16 _ 33 #[.val (.int q), .val (.int u), .val (.int t), .unset, .unset, .unset, .unset, .unset] [(.ref b)] := s14
    |>.iastore (P' := fun hh => ∃ vs : List Value, AV Z hh b .int vs ∧ vs.length = 16 ∧ ∀ i, i < 16 → ∃ y : Int32, vs[i]? = some (.int y)) hZ (g_b) (by decide) (fun hh ⟨vs, A, n, _⟩ => ⟨vs, A, by rw [n]; decide⟩) (fun hh hh' ⟨vs, A, n, q⟩ X => ⟨_, A.set X, by rw [List.length_set]; exact n, fun i hi => own_set q n hi⟩) at_32 rfl
  have s16 : Sit p l e _ s m _ below meth c _ st n0 1 16 _ 38 #[.val (.int q), .val (.int u), .val (.int t), .unset, .unset, .unset, .unset, .unset] [(.int (55296 : Int32)), (.int (6 : Int32)), (.ref b), (.ref b)] := s15
    |>.dup at_33 rfl rfl
    |>.bipush (6 : Int32) at_34 rfl rfl
    |>.ldc hZ hown (wi hw 2 rfl) at_36 rfl
  have s17 : Sit p l e _ s m _ below meth c _ st n0 1 16 _ 39 #[.val (.int q), .val (.int u), .val (.int t), .unset, .unset, .unset, .unset, .unset] [(.ref b)] := s16
    |>.iastore (P' := fun hh => ∃ vs : List Value, AV Z hh b .int vs ∧ vs.length = 16 ∧ ∀ i, i < 16 → ∃ y : Int32, vs[i]? = some (.int y)) hZ (g_b) (by decide) (fun hh ⟨vs, A, n, _⟩ => ⟨vs, A, by rw [n]; decide⟩) (fun hh hh' ⟨vs, A, n, q⟩ X => ⟨_, A.set X, by rw [List.length_set]; exact n, fun i hi => own_set q n hi⟩) at_38 rfl
  have s18 : Sit p l e _ s m _ below meth c _ st n0 1 16 _ 44 #[.val (.int q), .val (.int u), .val (.int t), .unset, .unset, .unset, .unset, .unset] [(.int (57343 : Int32)), (.int (7 : Int32)), (.ref b), (.ref b)] := s17
    |>.dup at_39 rfl rfl
    |>.bipush (7 : Int32) at_40 rfl rfl
    |>.ldc hZ hown (wi hw 3 rfl) at_42 rfl
  have s19 : Sit p l e _ s m _ below meth c _ st n0 1 16 _ 45 #[.val (.int q), .val (.int u), .val (.int t), .unset, .unset, .unset, .unset, .unset] [(.ref b)] := s18
    |>.iastore (P' := fun hh => ∃ vs : List Value, AV Z hh b .int vs ∧ vs.length = 16 ∧ ∀ i, i < 16 → ∃ y : Int32, vs[i]? = some (.int y)) hZ (g_b) (by decide) (fun hh ⟨vs, A, n, _⟩ => ⟨vs, A, by rw [n]; decide⟩) (fun hh hh' ⟨vs, A, n, q⟩ X => ⟨_, A.set X, by rw [List.length_set]; exact n, fun i hi => own_set q n hi⟩) at_44 rfl
  have s20 : Sit p l e _ s m _ below meth c _ st n0 1 16 _ 50 #[.val (.int q), .val (.int u), .val (.int t), .unset, .unset, .unset, .unset, .unset] [(.int (57344 : Int32)), (.int (8 : Int32)), (.ref b), (.ref b)] := s19
    |>.dup at_45 rfl rfl
    |>.bipush (8 : Int32) at_46 rfl rfl
    |>.ldc hZ hown (wi hw 4 rfl) at_48 rfl
  have s21 : Sit p l e _ s m _ below meth c _ st n0 1 16 _ 51 #[.val (.int q), .val (.int u), .val (.int t), .unset, .unset, .unset, .unset, .unset] [(.ref b)] := s20
    |>.iastore (P' := fun hh => ∃ vs : List Value, AV Z hh b .int vs ∧ vs.length = 16 ∧ ∀ i, i < 16 → ∃ y : Int32, vs[i]? = some (.int y)) hZ (g_b) (by decide) (fun hh ⟨vs, A, n, _⟩ => ⟨vs, A, by rw [n]; decide⟩) (fun hh hh' ⟨vs, A, n, q⟩ X => ⟨_, A.set X, by rw [List.length_set]; exact n, fun i hi => own_set q n hi⟩) at_50 rfl
  have s22 : Sit p l e _ s m _ below meth c _ st n0 1 16 _ 56 #[.val (.int q), .val (.int u), .val (.int t), .unset, .unset, .unset, .unset, .unset] [(.int (65533 : Int32)), (.int (9 : Int32)), (.ref b), (.ref b)] := s21
    |>.dup at_51 rfl rfl
    |>.bipush (9 : Int32) at_52 rfl rfl
    |>.ldc hZ hown (wi hw 5 rfl) at_54 rfl
  have s23 : Sit p l e _ s m _ below meth c _ st n0 1 16 _ 57 #[.val (.int q), .val (.int u), .val (.int t), .unset, .unset, .unset, .unset, .unset] [(.ref b)] := s22
    |>.iastore (P' := fun hh => ∃ vs : List Value, AV Z hh b .int vs ∧ vs.length = 16 ∧ ∀ i, i < 16 → ∃ y : Int32, vs[i]? = some (.int y)) hZ (g_b) (by decide) (fun hh ⟨vs, A, n, _⟩ => ⟨vs, A, by rw [n]; decide⟩) (fun hh hh' ⟨vs, A, n, q⟩ X => ⟨_, A.set X, by rw [List.length_set]; exact n, fun i hi => own_set q n hi⟩) at_56 rfl
  have s24 : Sit p l e _ s m _ below meth c _ st n0 1 16 _ 62 #[.val (.int q), .val (.int u), .val (.int t), .unset, .unset, .unset, .unset, .unset] [(.int (65535 : Int32)), (.int (10 : Int32)), (.ref b), (.ref b)] := s23
    |>.dup at_57 rfl rfl
    |>.bipush (10 : Int32) at_58 rfl rfl
    |>.ldc hZ hown (wi hw 6 rfl) at_60 rfl
  have s25 : Sit p l e _ s m _ below meth c _ st n0 1 16 _ 63 #[.val (.int q), .val (.int u), .val (.int t), .unset, .unset, .unset, .unset, .unset] [(.ref b)] := s24
    |>.iastore (P' := fun hh => ∃ vs : List Value, AV Z hh b .int vs ∧ vs.length = 16 ∧ ∀ i, i < 16 → ∃ y : Int32, vs[i]? = some (.int y)) hZ (g_b) (by decide) (fun hh ⟨vs, A, n, _⟩ => ⟨vs, A, by rw [n]; decide⟩) (fun hh hh' ⟨vs, A, n, q⟩ X => ⟨_, A.set X, by rw [List.length_set]; exact n, fun i hi => own_set q n hi⟩) at_62 rfl
  have s26 : Sit p l e _ s m _ below meth c _ st n0 1 16 _ 68 #[.val (.int q), .val (.int u), .val (.int t), .unset, .unset, .unset, .unset, .unset] [(.int (65536 : Int32)), (.int (11 : Int32)), (.ref b), (.ref b)] := s25
    |>.dup at_63 rfl rfl
    |>.bipush (11 : Int32) at_64 rfl rfl
    |>.ldc hZ hown (wi hw 7 rfl) at_66 rfl
  have s27 : Sit p l e _ s m _ below meth c _ st n0 1 16 _ 69 #[.val (.int q), .val (.int u), .val (.int t), .unset, .unset, .unset, .unset, .unset] [(.ref b)] := s26
    |>.iastore (P' := fun hh => ∃ vs : List Value, AV Z hh b .int vs ∧ vs.length = 16 ∧ ∀ i, i < 16 → ∃ y : Int32, vs[i]? = some (.int y)) hZ (g_b) (by decide) (fun hh ⟨vs, A, n, _⟩ => ⟨vs, A, by rw [n]; decide⟩) (fun hh hh' ⟨vs, A, n, q⟩ X => ⟨_, A.set X, by rw [List.length_set]; exact n, fun i hi => own_set q n hi⟩) at_68 rfl
  have s28 : Sit p l e _ s m _ below meth c _ st n0 1 16 _ 74 #[.val (.int q), .val (.int u), .val (.int t), .unset, .unset, .unset, .unset, .unset] [(.int (1114111 : Int32)), (.int (12 : Int32)), (.ref b), (.ref b)] := s27
    |>.dup at_69 rfl rfl
    |>.bipush (12 : Int32) at_70 rfl rfl
    |>.ldc hZ hown (wi hw 8 rfl) at_72 rfl
  have s29 : Sit p l e _ s m _ below meth c _ st n0 1 16 _ 75 #[.val (.int q), .val (.int u), .val (.int t), .unset, .unset, .unset, .unset, .unset] [(.ref b)] := s28
    |>.iastore (P' := fun hh => ∃ vs : List Value, AV Z hh b .int vs ∧ vs.length = 16 ∧ ∀ i, i < 16 → ∃ y : Int32, vs[i]? = some (.int y)) hZ (g_b) (by decide) (fun hh ⟨vs, A, n, _⟩ => ⟨vs, A, by rw [n]; decide⟩) (fun hh hh' ⟨vs, A, n, q⟩ X => ⟨_, A.set X, by rw [List.length_set]; exact n, fun i hi => own_set q n hi⟩) at_74 rfl
  have s30 : Sit p l e _ s m _ below meth c _ st n0 1 16 _ 80 #[.val (.int q), .val (.int u), .val (.int t), .unset, .unset, .unset, .unset, .unset] [(.int (1114112 : Int32)), (.int (13 : Int32)), (.ref b), (.ref b)] := s29
    |>.dup at_75 rfl rfl
    |>.bipush (13 : Int32) at_76 rfl rfl
    |>.ldc hZ hown (wi hw 9 rfl) at_78 rfl
  have s31 : Sit p l e _ s m _ below meth c _ st n0 1 16 _ 81 #[.val (.int q), .val (.int u), .val (.int t), .unset, .unset, .unset, .unset, .unset] [(.ref b)] := s30
    |>.iastore (P' := fun hh => ∃ vs : List Value, AV Z hh b .int vs ∧ vs.length = 16 ∧ ∀ i, i < 16 → ∃ y : Int32, vs[i]? = some (.int y)) hZ (g_b) (by decide) (fun hh ⟨vs, A, n, _⟩ => ⟨vs, A, by rw [n]; decide⟩) (fun hh hh' ⟨vs, A, n, q⟩ X => ⟨_, A.set X, by rw [List.length_set]; exact n, fun i hi => own_set q n hi⟩) at_80 rfl
  have s32 : Sit p l e _ s m _ below meth c _ st n0 1 16 _ 86 #[.val (.int q), .val (.int u), .val (.int t), .unset, .unset, .unset, .unset, .unset] [(.int (-2147483648 : Int32)), (.int (14 : Int32)), (.ref b), (.ref b)] := s31
    |>.dup at_81 rfl rfl
    |>.bipush (14 : Int32) at_82 rfl rfl
    |>.ldc hZ hown (wi hw 10 rfl) at_84 rfl
  have s33 : Sit p l e _ s m _ below meth c _ st n0 1 16 _ 87 #[.val (.int q), .val (.int u), .val (.int t), .unset, .unset, .unset, .unset, .unset] [(.ref b)] := s32
    |>.iastore (P' := fun hh => ∃ vs : List Value, AV Z hh b .int vs ∧ vs.length = 16 ∧ ∀ i, i < 16 → ∃ y : Int32, vs[i]? = some (.int y)) hZ (g_b) (by decide) (fun hh ⟨vs, A, n, _⟩ => ⟨vs, A, by rw [n]; decide⟩) (fun hh hh' ⟨vs, A, n, q⟩ X => ⟨_, A.set X, by rw [List.length_set]; exact n, fun i hi => own_set q n hi⟩) at_86 rfl
  have s34 : Sit p l e _ s m _ below meth c _ st n0 1 16 _ 92 #[.val (.int q), .val (.int u), .val (.int t), .unset, .unset, .unset, .unset, .unset] [(.int (2147483647 : Int32)), (.int (15 : Int32)), (.ref b), (.ref b)] := s33
    |>.dup at_87 rfl rfl
    |>.bipush (15 : Int32) at_88 rfl rfl
    |>.ldc hZ hown (wi hw 11 rfl) at_90 rfl
  have s35 : Sit p l e _ s m _ below meth c _ st n0 1 16 _ 93 #[.val (.int q), .val (.int u), .val (.int t), .unset, .unset, .unset, .unset, .unset] [(.ref b)] := s34
    |>.iastore (P' := fun hh => ∃ vs : List Value, AV Z hh b .int vs ∧ vs.length = 16 ∧ ∀ i, i < 16 → ∃ y : Int32, vs[i]? = some (.int y)) hZ (g_b) (by decide) (fun hh ⟨vs, A, n, _⟩ => ⟨vs, A, by rw [n]; decide⟩) (fun hh hh' ⟨vs, A, n, q⟩ X => ⟨_, A.set X, by rw [List.length_set]; exact n, fun i hi => own_set q n hi⟩) at_92 rfl
  have s36 : Sit p l e _ s m _ below meth c _ st n0 1 16 _ 99 #[.val (.int q), .val (.int u), .val (.int t), .val (.ref b), .unset, .unset, .unset, .unset] [(.ref b), (.int (u &&& (2147483647 : Int32)))] := s35
    |>.astoreN #[.val (.int q), .val (.int u), .val (.int t), .val (.ref b), .unset, .unset, .unset, .unset] at_93 rfl rfl
    |>.iloadN at_94 rfl rfl
    |>.ldc hZ hown (wi hw 11 rfl) at_95 rfl
    |>.iand at_97 rfl
    |>.aloadN at_98 rfl rfl
  have s37 : Sit p l e _ s m _ below meth c _ st n0 1 16 _ 106 #[.val (.int q), .val (.int u), .val (.int t), .val (.ref b), .val (.int ((u &&& (2147483647 : Int32)) % (16 : Int32))), .unset, .unset, .unset] [(.int ((u &&& (2147483647 : Int32)) % (16 : Int32))), (.ref b)] := s36
    |>.alen (16 : Int32) hZ (fun hh ⟨vs, A, n, _⟩ => ⟨vs, A, n⟩) at_99 rfl rfl
    |>.irem at_100 (by decide) rfl
    |>.istore #[.val (.int q), .val (.int u), .val (.int t), .val (.ref b), .val (.int ((u &&& (2147483647 : Int32)) % (16 : Int32))), .unset, .unset, .unset] at_101 rfl rfl
    |>.aloadN at_103 rfl rfl
    |>.iload at_104 rfl rfl
  obtain ⟨j, e_j, s38⟩ : ∃ j : Int32, j = ((u &&& (2147483647 : Int32)) % (16 : Int32)) ∧ Sit p l e _ s m _ below meth c _ st n0 1 16 _ 106 #[.val (.int q), .val (.int u), .val (.int t), .val (.ref b), .val (.int j), .unset, .unset, .unset] [(.int j), (.ref b)] := ⟨_, rfl, s37⟩
  have hj := own_rem16 u
  rw [← e_j] at hj
  obtain ⟨vs, sx⟩ := s38.ex
  obtain ⟨_, -, -, hvs⟩ := sx.facts
  obtain ⟨y, hy⟩ := hvs j.toNatClampNeg (by show j.toInt.toNat < 16; omega)
  have s39 : Sit p l e _ s m _ below meth c _ st n0 1 16 _ 113 #[.val (.int q), .val (.int u), .val (.int t), .val (.ref b), .val (.int j), .unset, .unset, .unset] [(.int (y + ((t &&& (3 : Int32)) - (1 : Int32))))] := sx
    |>.iaload (v := y) hZ (hj.1) (fun hh q => ⟨vs, q.1, hy⟩) at_106 rfl
    |>.iloadN at_107 rfl rfl
    |>.iconst (3 : Int32) at_108 rfl rfl
    |>.iand at_109 rfl
    |>.iconst (1 : Int32) at_110 rfl rfl
    |>.isub at_111 rfl
    |>.iadd at_112 rfl
  obtain ⟨f, e_f, s40⟩ : ∃ f : Int32, f = (y + ((t &&& (3 : Int32)) - (1 : Int32))) ∧ Sit p l e _ s m _ below meth c _ st n0 1 16 _ 113 #[.val (.int q), .val (.int u), .val (.int t), .val (.ref b), .val (.int j), .unset, .unset, .unset] [(.int f)] := ⟨_, rfl, s39⟩
  have s41 : Sit p l e _ s m _ below meth c _ st n0 1 16 _ 116 #[.val (.int q), .val (.int u), .val (.int t), .val (.ref b), .val (.int j), .val (.int f), .unset, .unset] [(.int q)] := s40
    |>.istore #[.val (.int q), .val (.int u), .val (.int t), .val (.ref b), .val (.int j), .val (.int f), .unset, .unset] at_113 rfl rfl
    |>.iloadN at_115 rfl rfl
  obtain ⟨r43, s42⟩ := Sit.callS (y := (⟨"com/example/schema_on_the_wire/schemaonthewire/util/XmlChars", "isChar", "(I)Z"⟩ : MethodName)) (W := 0) (Q := fun v hh => (v = some (.int (icF q))) ∧ (fun hh => AV Z hh b .int vs ∧ vs.length = 16 ∧ ∀ i, i < 16 → ∃ y : Int32, vs[i]? = some (.int y)) hh) [(.int q)] [] s41 hZ hown (wi hw 12 rfl) (wi hw 13 rfl) (wi hw 14 rfl) (wi hw 15 rfl) (by decide) (fun h1 hP hn => (rm1 l Z a0 hw [] q h1 n0 hn).mono fun v hh q => ⟨q.1, q.2 ▸ hP⟩) hml rfl (lenOf pd_0 rfl) at_116 (Nat.le_of_eq rfl) (by decide) (by decide) (by decide) (by decide) (pc' := 119) rfl
  obtain ⟨_, er43, _⟩ := s42.facts
  subst er43
  have s44 : Sit p l e _ s m _ below meth c _ st n0 1 16 (fun hh => AV Z hh b .int vs ∧ vs.length = 16 ∧ ∀ i, i < 16 → ∃ y : Int32, vs[i]? = some (.int y)) 119 #[.val (.int q), .val (.int u), .val (.int t), .val (.ref b), .val (.int j), .val (.int f), .unset, .unset] [(.int (icF q))] := s42.mono fun _ q => q.2
  have s45 : Sit p l e _ s m _ below meth c _ st n0 1 16 _ 120 #[.val (.int q), .val (.int u), .val (.int t), .val (.ref b), .val (.int j), .val (.int f), .unset, .unset] [(.int q), (.int (icF q))] := s44
    |>.iloadN at_119 rfl rfl
  obtain ⟨r47, s46⟩ := Sit.callS (y := (⟨"com/example/schema_on_the_wire/schemaonthewire/util/XmlCharsIsCharPinLaw", "ref", "(I)Z"⟩ : MethodName)) (W := 1) (Q := fun v hh => (v = some (.int (icF q))) ∧ (fun hh => AV Z hh b .int vs ∧ vs.length = 16 ∧ ∀ i, i < 16 → ∃ y : Int32, vs[i]? = some (.int y)) hh) [(.int q)] [(.int (icF q))] s45 hZ hown (wi hw 18 rfl) (wi hw 19 rfl) (wi hw 20 rfl) (wi hw 21 rfl) (by decide) (fun h1 hP hn => (rm2 l Z a0 hw [] q h1 n0 hn).mono fun v hh q => ⟨q.1, q.2 ▸ hP⟩) hml rfl (lenOf pd_0 rfl) at_120 (Nat.le_of_eq rfl) (by decide) (by decide) (by decide) (by decide) (pc' := 123) rfl
  obtain ⟨_, er47, _⟩ := s46.facts
  subst er47
  have s48 : Sit p l e _ s m _ below meth c _ st n0 1 16 (fun hh => AV Z hh b .int vs ∧ vs.length = 16 ∧ ∀ i, i < 16 → ∃ y : Int32, vs[i]? = some (.int y)) 123 #[.val (.int q), .val (.int u), .val (.int t), .val (.ref b), .val (.int j), .val (.int f), .unset, .unset] [(.int (icF q)), (.int (icF q))] := s46.mono fun _ q => q.2
  have s49 : Sit p l e _ s m _ below meth c _ st n0 1 16 _ 135 #[.val (.int q), .val (.int u), .val (.int t), .val (.ref b), .val (.int j), .val (.int f), .val (.int (1 : Int32)), .unset] [(.int f)] := s48
    |>.icmpN at_123 ((neF (Classical.not_not.mp (fun h => h rfl)))) rfl
    |>.iconst (1 : Int32) at_126 rfl rfl
    |>.goto at_127 (by decide) (by decide)
    |>.istore #[.val (.int q), .val (.int u), .val (.int t), .val (.ref b), .val (.int j), .val (.int f), .val (.int (1 : Int32)), .unset] at_131 rfl rfl
    |>.iload at_133 rfl rfl
  obtain ⟨r51, s50⟩ := Sit.callS (y := (⟨"com/example/schema_on_the_wire/schemaonthewire/util/XmlChars", "isChar", "(I)Z"⟩ : MethodName)) (W := 0) (Q := fun v hh => (v = some (.int (icF f))) ∧ (fun hh => AV Z hh b .int vs ∧ vs.length = 16 ∧ ∀ i, i < 16 → ∃ y : Int32, vs[i]? = some (.int y)) hh) [(.int f)] [] s49 hZ hown (wi hw 12 rfl) (wi hw 13 rfl) (wi hw 14 rfl) (wi hw 15 rfl) (by decide) (fun h1 hP hn => (rm1 l Z a0 hw [] f h1 n0 hn).mono fun v hh q => ⟨q.1, q.2 ▸ hP⟩) hml rfl (lenOf pd_0 rfl) at_135 (Nat.le_of_eq rfl) (by decide) (by decide) (by decide) (by decide) (pc' := 138) rfl
  obtain ⟨_, er51, _⟩ := s50.facts
  subst er51
  have s52 : Sit p l e _ s m _ below meth c _ st n0 1 16 (fun hh => AV Z hh b .int vs ∧ vs.length = 16 ∧ ∀ i, i < 16 → ∃ y : Int32, vs[i]? = some (.int y)) 138 #[.val (.int q), .val (.int u), .val (.int t), .val (.ref b), .val (.int j), .val (.int f), .val (.int (1 : Int32)), .unset] [(.int (icF f))] := s50.mono fun _ q => q.2
  have s53 : Sit p l e _ s m _ below meth c _ st n0 1 16 _ 140 #[.val (.int q), .val (.int u), .val (.int t), .val (.ref b), .val (.int j), .val (.int f), .val (.int (1 : Int32)), .unset] [(.int f), (.int (icF f))] := s52
    |>.iload at_138 rfl rfl
  obtain ⟨r55, s54⟩ := Sit.callS (y := (⟨"com/example/schema_on_the_wire/schemaonthewire/util/XmlCharsIsCharPinLaw", "ref", "(I)Z"⟩ : MethodName)) (W := 1) (Q := fun v hh => (v = some (.int (icF f))) ∧ (fun hh => AV Z hh b .int vs ∧ vs.length = 16 ∧ ∀ i, i < 16 → ∃ y : Int32, vs[i]? = some (.int y)) hh) [(.int f)] [(.int (icF f))] s53 hZ hown (wi hw 18 rfl) (wi hw 19 rfl) (wi hw 20 rfl) (wi hw 21 rfl) (by decide) (fun h1 hP hn => (rm2 l Z a0 hw [] f h1 n0 hn).mono fun v hh q => ⟨q.1, q.2 ▸ hP⟩) hml rfl (lenOf pd_0 rfl) at_140 (Nat.le_of_eq rfl) (by decide) (by decide) (by decide) (by decide) (pc' := 143) rfl
  obtain ⟨_, er55, _⟩ := s54.facts
  subst er55
  have s56 : Sit p l e _ s m _ below meth c _ st n0 1 16 (fun hh => AV Z hh b .int vs ∧ vs.length = 16 ∧ ∀ i, i < 16 → ∃ y : Int32, vs[i]? = some (.int y)) 143 #[.val (.int q), .val (.int u), .val (.int t), .val (.ref b), .val (.int j), .val (.int f), .val (.int (1 : Int32)), .unset] [(.int (icF f)), (.int (icF f))] := s54.mono fun _ q => q.2
  have s57 : Sit p l e _ s m _ below meth c _ st n0 1 16 _ 155 #[.val (.int q), .val (.int u), .val (.int t), .val (.ref b), .val (.int j), .val (.int f), .val (.int (1 : Int32)), .val (.int (1 : Int32))] [(.int (1 : Int32))] := s56
    |>.icmpN at_143 ((neF (Classical.not_not.mp (fun h => h rfl)))) rfl
    |>.iconst (1 : Int32) at_146 rfl rfl
    |>.goto at_147 (by decide) (by decide)
    |>.istore #[.val (.int q), .val (.int u), .val (.int t), .val (.ref b), .val (.int j), .val (.int f), .val (.int (1 : Int32)), .val (.int (1 : Int32))] at_151 rfl rfl
    |>.iload at_153 rfl rfl
  have s58 : Sit p l e _ s m _ below meth c _ st n0 1 16 _ 160 #[.val (.int q), .val (.int u), .val (.int t), .val (.ref b), .val (.int j), .val (.int f), .val (.int (1 : Int32)), .val (.int (1 : Int32))] [(.int (1 : Int32))] := s57
    |>.ifN at_155 (eqF (by decide)) rfl
    |>.iload at_158 rfl rfl
  have s59 : Sit p l e _ s m _ below meth c _ st n0 1 16 _ 168 #[.val (.int q), .val (.int u), .val (.int t), .val (.ref b), .val (.int j), .val (.int f), .val (.int (1 : Int32)), .val (.int (1 : Int32))] [(.int (1 : Int32))] := s58
    |>.ifN at_160 (eqF (by decide)) rfl
    |>.iconst (1 : Int32) at_163 rfl rfl
    |>.goto at_164 (by decide) (by decide)
  exact (s59.bound (by decide) (by decide)).retZ at_168 hret hlk (fun hh q => rfl)
set_option maxRecDepth 65536 in
set_option maxHeartbeats 40000000 in
theorem comes_1 {Post : Tables → Env → Array Value → State → Outcome → State → Prop} (hpost : ∀ tb e args s v u, (limb_1_1.after args s (.returned v) u = true ∧ limb_1_2.after args s (.returned v) u = true ∧ True) → FrameEnd s (.returned v) u (Jvm.fieldLocs frame_1_writes args s ++ Jvm.arrayLocs frame_1_arrays args s ++ Jvm.staticLocs frame_1_statics s) 16 128 → Post tb e args s (.returned v) u) :
    ArmFor flags0 classFile x code maxLocals ret World_1 tables_1 room_1 Calls_1 rest_1 Pre_1 Post := by
  intro l hfl _ _ p e ha hc hk s m args below hf hA hF happ hP
  obtain ⟨hcalls, hrest, hpre⟩ := hP
  obtain ⟨-, -, -, hnamed, -, -, -, hat⟩ := (Spec.applies_iff hf).mp happ
  obtain ⟨hg, hn⟩ := and_e (Cond.before_iff.mp (show (Jvm.Cond.and given_1 narrow_1).before args s = true from hpre))
  obtain ⟨g0, q0⟩ := and_e hg
  obtain ⟨g1, q1⟩ := and_e q0
  obtain ⟨g2, q2⟩ := and_e q1
  obtain ⟨w0, w1, w2, rfl⟩ : ∃ w0 w1 w2 : Value, args = #[w0, w1, w2] := by
    have hs : args.size = 3 := by simpa [Cond.value, given_1] using g0
    obtain ⟨L⟩ := args
    match L, hs with
    | [w0, w1, w2], _ => exact ⟨w0, w1, w2, rfl⟩
  have hw := fun d (hd : d ∈ tables_1) => atoms_spec (ws := Jvm.Cond.code x code maxLocals ret :: tables_1) hat d (List.mem_cons_of_mem _ hd)
  obtain ⟨i0, ei0⟩ := is_v g1
  obtain rfl : w0 = (.int i0) := Option.some.inj ei0
  obtain ⟨i1, ei1⟩ := is_v g2
  obtain rfl : w1 = (.int i1) := Option.some.inj ei1
  obtain ⟨i2, ei2⟩ := is_v q2
  obtain rfl : w2 = (.int i2) := Option.some.inj ei2
  obtain ⟨n, o, h1, h2, h3, _, L, rfl, ⟨N, rfl⟩, hq⟩ := rm0 l s _ hw tables_1 i0 i1 i2 s.heap s.heap.size (Nat.le_refl _) p e ha hc hk s m _ below hf ((Spec.applies_iff_loose hf).mp happ).1 ⟨rfl, State.Warmed39.refl s, rfl⟩ trivial
  refine ⟨n, _, h1, h2, h3, hpost _ _ _ _ _ _ ⟨Cond.after_iff.mpr rfl, Cond.after_iff.mpr (eq_i res_at (Term.int_eval (1)) rfl), trivial⟩ ⟨hq.1, hq.2.1, (hq.2.2.sift fun y hy => Or.inr (N y hy)).mono (by decide) (by decide)⟩⟩
theorem main_1_1 : Claimed_1_1 := comes_1 fun _ _ _ _ _ _ h hF => ⟨h.1, hF⟩
theorem main_1_2 : Claimed_1_2 := comes_1 fun _ _ _ _ _ _ h hF => ⟨h.2.1, hF⟩
end Jvm.Pilot.@@N@@
namespace Jvm.Pilot.@@N@@
open Jvm Jvm.ClassFile Sem Op Lib Jvm.Free Jvm.Stand Jvm.Pilot.@@N@@.Jvm.D
/-! MADE BY PROGRAM (witnessworld.py) out of the Statement's table words and the real class files: 9 classes; the members and pool entries that the words name. The judged class is class 1, her method 2. -/
namespace start1
open Jvm.ClassFile
def u (s : String) : CpInfo := .utf8 (stringToUtf16 s)
/-- a pool by its gaps: so many unusable entries, then the entry; so many at the end -/
def gap : Nat → List CpInfo → List CpInfo
  | 0, r => r
  | n + 1, r => .unusable :: gap n r
def poolList (es : List (Nat × CpInfo)) (last : Nat) : List CpInfo := es.foldr (fun e r => gap e.1 (e.2 :: r)) (gap last [])
def pool (es : List (Nat × CpInfo)) (last : Nat) : Array CpInfo := ⟨poolList es last⟩
def fileOf (pool : Array CpInfo) (this : Nat) (attrs : Array Attribute := #[]) (ms : Array MethodInfo := #[]) (fl : Nat := 33) (sup : Nat := 0) (ifs : Array Nat := #[]) (fds : Array FieldInfo := #[]) : ClassFile where
  minorVersion := 0
  majorVersion := 65
  constantPool := pool
  accessFlags := fl
  thisClass := this
  superClass := sup
  interfaces := ifs
  fields := fds
  methods := ms
  attributes := attrs
def plain (name : String) (sup : Option ClassId) : Class where
  name := name
  kind := .ordinary
  loader := none
  accessFlags := 33
  super := sup
  interfaces := #[]
  cf := none
  fields := #[]
  methods := #[]
  instanceTypes := #[]
  staticTypes := #[]
  resolved := #[]
  callSites := []
  init := .initialized
  statics := none
  mirror := none

def pool0 : Array CpInfo := pool [(5, u "<init>"), (0, u "()V"), (1, .class_ 10), (1, u "java/lang/Object")] 113

def k0m0 : Method := { name := "<init>", desc := "()V", sig := { parameters := [], returnType := none }, accessFlags := 1, code := none }
/-- java/lang/Object -/
def k0 : Class := { plain "java/lang/Object" none with
  accessFlags := 33
  interfaces := #[]
  cf := some (fileOf pool0 8 #[] #[{ accessFlags := 1, nameIndex := 5, descriptorIndex := 6, attributes := #[] }] 33 0 #[] #[])
  fields := #[]
  methods := #[k0m0]
  instanceTypes := #[]
  staticTypes := #[]
  resolved := Array.replicate 124 none
  statics := none }

def pool1 : Array CpInfo := pool [(2, .class_ 4), (1, u "java/lang/Object"), (0, u "<init>"), (0, u "()V"), (0, .integer 1114111), (0, .integer 55296), (0, .integer 57343), (0, .integer 65534), (0, .integer 65535), (0, .integer 55295), (0, .integer 57344), (0, .integer 65533), (0, .integer 65536), (0, .integer 1114112), (2, .integer 2147483648), (0, .integer 2147483647), (0, .methodref 22 23), (0, .class_ 24), (0, .nameAndType 25 26), (0, u "com/example/schema_on_the_wire/schemaonthewire/util/XmlChars"), (0, u "isChar"), (0, u "(I)Z"), (0, .methodref 28 29), (0, .class_ 30), (0, .nameAndType 31 26), (0, u "com/example/schema_on_the_wire/schemaonthewire/util/XmlCharsIsCharPinLaw"), (0, u "ref"), (3, u "law"), (0, u "(III)Z")] 4

def k1m0 : Method := { name := "<init>", desc := "()V", sig := { parameters := [], returnType := none }, accessFlags := 2, code := none }
def k1c1 : Code := { maxStack := 2, maxLocals := 1, code := method_2_code, exceptionTable := #[], attributes := #[] }
def k1m1 : Method := { name := "ref", desc := "(I)Z", sig := { parameters := [.int], returnType := some .boolean }, accessFlags := 10, code := some k1c1 }
def k1c2 : Code := { maxStack := 4, maxLocals := 8, code := code, exceptionTable := #[], attributes := #[] }
def k1m2 : Method := { name := "law", desc := "(III)Z", sig := { parameters := [.int, .int, .int], returnType := some .boolean }, accessFlags := 9, code := some k1c2 }
/-- com/example/schema_on_the_wire/schemaonthewire/util/XmlCharsIsCharPinLaw -/
def k1 : Class := { plain "com/example/schema_on_the_wire/schemaonthewire/util/XmlCharsIsCharPinLaw" (some 0) with
  accessFlags := 49
  interfaces := #[]
  cf := some (fileOf pool1 28 #[] #[{ accessFlags := 2, nameIndex := 5, descriptorIndex := 6, attributes := #[] }, { accessFlags := 10, nameIndex := 31, descriptorIndex := 26, attributes := #[] }, { accessFlags := 9, nameIndex := 35, descriptorIndex := 36, attributes := #[] }] 49 2 #[] #[])
  fields := #[]
  methods := #[k1m0, k1m1, k1m2]
  instanceTypes := #[]
  staticTypes := #[]
  resolved := Array.replicate 41 none
  statics := none }

def pool2 : Array CpInfo := pool [(2, .class_ 4), (1, u "java/lang/Object"), (0, u "<init>"), (0, u "()V"), (0, .integer 55295), (0, .integer 57344), (0, .integer 65533), (0, .integer 65536), (0, .integer 1114111), (19, .class_ 33), (1, u "com/example/schema_on_the_wire/schemaonthewire/util/XmlChars"), (1, u "(I)Z"), (9, u "PREDEFINED_NAMES"), (0, u "[Ljava/lang/String;"), (9, u "PREDEFINED_REFERENCES"), (0, u "[[C"), (37, .class_ 97), (1, u "com/example/schema_on_the_wire/schemaonthewire/util/XmlChars$AppendixB"), (63, u "PREDEFINED_CHARS"), (0, u "Ljava/lang/String;"), (3, u "isChar")] 33

def k2m0 : Method := { name := "<init>", desc := "()V", sig := { parameters := [], returnType := none }, accessFlags := 2, code := none }
def k2c1 : Code := { maxStack := 2, maxLocals := 1, code := prog_239_method_2_code, exceptionTable := #[], attributes := #[] }
def k2m1 : Method := { name := "isChar", desc := "(I)Z", sig := { parameters := [.int], returnType := some .boolean }, accessFlags := 9, code := some k2c1 }
/-- com/example/schema_on_the_wire/schemaonthewire/util/XmlChars -/
def k2 : Class := { plain "com/example/schema_on_the_wire/schemaonthewire/util/XmlChars" (some 0) with
  accessFlags := 49
  interfaces := #[]
  cf := some (fileOf pool2 31 #[.nestMembers #[95]] #[{ accessFlags := 2, nameIndex := 5, descriptorIndex := 6, attributes := #[] }, { accessFlags := 9, nameIndex := 166, descriptorIndex := 35, attributes := #[] }] 49 2 #[] #[{ accessFlags := 26, nameIndex := 45, descriptorIndex := 46, attributes := #[] }, { accessFlags := 26, nameIndex := 161, descriptorIndex := 162, attributes := #[] }, { accessFlags := 26, nameIndex := 56, descriptorIndex := 57, attributes := #[] }])
  fields := #[{ name := "PREDEFINED_NAMES", type := (.array (.object "java/lang/String")), accessFlags := 26, slot := 0, constantValue := 0 }, { name := "PREDEFINED_CHARS", type := (.object "java/lang/String"), accessFlags := 26, slot := 1, constantValue := 0 }, { name := "PREDEFINED_REFERENCES", type := (.array (.array .char)), accessFlags := 26, slot := 2, constantValue := 0 }]
  methods := #[k2m0, k2m1]
  instanceTypes := #[]
  staticTypes := #[(.array (.object "java/lang/String")), (.object "java/lang/String"), (.array (.array .char))]
  resolved := Array.replicate 200 none
  statics := none }

def pool3 : Array CpInfo := pool [(1, u "java/lang/Cloneable"), (0, .class_ 1), (0, u "java/lang/Object"), (0, .class_ 3)] 3

/-- java/lang/Cloneable -/
def k3 : Class := { plain "java/lang/Cloneable" (some 0) with
  accessFlags := 1537
  interfaces := #[]
  cf := some (fileOf pool3 2 #[] #[] 1537 4 #[] #[])
  fields := #[]
  methods := #[]
  instanceTypes := #[]
  staticTypes := #[]
  resolved := Array.replicate 8 none
  statics := none }

def pool4 : Array CpInfo := pool [(1, u "java/io/Serializable"), (0, .class_ 1), (0, u "java/lang/Object"), (0, .class_ 3)] 3

/-- java/io/Serializable -/
def k4 : Class := { plain "java/io/Serializable" (some 0) with
  accessFlags := 1537
  interfaces := #[]
  cf := some (fileOf pool4 2 #[] #[] 1537 4 #[] #[])
  fields := #[]
  methods := #[]
  instanceTypes := #[]
  staticTypes := #[]
  resolved := Array.replicate 8 none
  statics := none }

/-- the primitive byte -/
def k5 : Class := { plain "byte" none with kind := .primitive 'B', accessFlags := 0x411 }
/-- [B -/
def k6 : Class := { plain "[B" (some 0) with kind := .array 5 .byte, interfaces := #[3, 4], accessFlags := 1041 }

/-- the primitive int -/
def k7 : Class := { plain "int" none with kind := .primitive 'I', accessFlags := 0x411 }
/-- [I -/
def k8 : Class := { plain "[I" (some 0) with kind := .array 7 .int, interfaces := #[3, 4], accessFlags := 1041 }

def heap : Heap := #[]
def classes : Array Class := #[k0, k1, k2, k3, k4, k5, k6, k7, k8]
def interned : List (Array UInt16 × Addr) := []
def slotsUsed : Nat := 0
def theMethod : MethodId := ⟨1, 2⟩
def args0 : Array Value := #[.int 5, .int 7, .int 2]
def aboutOver (below : List Frame) : State where
  vm := { classes := classes, interned := interned.toArray }
  heap := heap
  slotsUsed := slotsUsed
  threads := #[{ frames := .invoking theMethod args0 :: below }]
def below0 : List Frame := [.native { method := ⟨0, 0⟩, args := #[] }]
def about1 : State := aboutOver below0
def p0 : Program := .bare "" "" ""
def e0 : Env := launch0.env 0 0 0
theorem w_frames : about1.frames = Frame.invoking theMethod args0 :: below0 := rfl
set_option maxRecDepth 65536 in
theorem w_args : argsFit about1.vm theMethod args0 = true := by decide +kernel
set_option maxRecDepth 65536 in
theorem w_heap : heapFits about1 = true := by decide +kernel
set_option maxRecDepth 65536 in
theorem w_runnable : about1.curStatus? = some .runnable := by decide +kernel
set_option maxRecDepth 65536 in
theorem w_alone : about1.alone = true := by decide +kernel
set_option maxRecDepth 65536 in
theorem w_named : about1.methodNamed? x = some theMethod := by decide +kernel
set_option maxRecDepth 65536 in
theorem w_hears : about1.hears theMethod below0 = true := by decide +kernel
set_option maxRecDepth 65536 in
theorem w_ripe : about1.ripe theMethod args0 below0 = true := by decide +kernel
theorem w_running : about1.status = .running := rfl
set_option maxRecDepth 65536 in
theorem w_room : about1.hasRoom e0.platform room_1 = true :=
  launch0.hasRoom_least _ room_1 (by decide +kernel) (by decide +kernel) (by decide +kernel) (by decide +kernel) (by decide +kernel) (by decide +kernel)
theorem allAtoms_all (ts : List Jvm.Cond) (a : Array Jvm.Value) (st : Jvm.State) : (allAtoms ts).before a st = ts.all (fun c => c.before a st) := by
  induction ts with
  | nil => rfl
  | cons c t ih =>
    show (Jvm.Cond.and c (allAtoms t)).before a st = _
    rw [Jvm.Cond.before_and, ih, List.all_cons]
def words1 : List Jvm.Cond := Jvm.Cond.code x code maxLocals ret :: tables_1
/-- a 'code' word, met by the world's own term for the bytes: nothing is compared byte by byte -/
theorem code_word {y : MethodName} {bytes : ByteArray} {mx : Nat} {rt : Option FieldType} {a : Array Value} {s : State} {m : MethodId} {meth : Method} {c : Code} (h1 : s.methodNamed? y = some m) (h2 : s.vm.method? m = some meth) (h3 : meth.code = some c) (h4 : c.code = bytes)
    (h5 : (c.maxLocals == mx && c.exceptionTable.isEmpty && decide (c.maxStack ≤ mostOperands) && decide (meth.sig.returnType = rt) && !meth.locks && decide (parseMethodDescriptor y.desc = some meth.sig)) = true) : (Jvm.Cond.code y bytes mx rt).before a s = true := by
  simp only [Bool.and_eq_true, beq_iff_eq, Bool.not_eq_true', decide_eq_true_eq] at h5
  obtain ⟨⟨⟨⟨⟨g1, g2⟩, g3⟩, g4⟩, g5⟩, g6⟩ := h5
  simp [Cond.before, Cond.holds, Cond.value, h1, h2, h3, h4, g1, g2, g3, g4, g5, g6]
def isCode : Jvm.Cond → Bool
  | .code _ _ _ _ => true
  | _ => false
theorem all_split {L : List Jvm.Cond} {P : Jvm.Cond → Bool} (h1 : L.all (fun c => isCode c || P c) = true) (h2 : ∀ c ∈ L.filter isCode, P c = true) : L.all P = true := by
  refine List.all_eq_true.mpr fun c hc => ?_
  have h := List.all_eq_true.mp h1 c hc
  rcases Bool.eq_false_or_eq_true (isCode c) with hi | hi
  · exact h2 c (List.mem_filter.mpr ⟨hc, hi⟩)
  · simpa [hi] using h
set_option maxRecDepth 65536 in
theorem w_c0 : (Jvm.Cond.code x code maxLocals ret).before args0 about1 = true := code_word (m := ⟨1, 2⟩) (meth := k1m2) (c := k1c2) (by decide +kernel) rfl rfl rfl (by decide +kernel)
set_option maxRecDepth 65536 in
theorem w_c1 : (Jvm.Cond.code ({ cls := "com/example/schema_on_the_wire/schemaonthewire/util/XmlChars", name := "isChar", desc := "(I)Z" } : Jvm.MethodName) prog_239_method_2_code (1 : Nat) (Option.some Jvm.ClassFile.FieldType.boolean)).before args0 about1 = true := code_word (m := ⟨2, 1⟩) (meth := k2m1) (c := k2c1) (by decide +kernel) rfl rfl rfl (by decide +kernel)
set_option maxRecDepth 65536 in
theorem w_c2 : (Jvm.Cond.code ({ cls := "com/example/schema_on_the_wire/schemaonthewire/util/XmlCharsIsCharPinLaw", name := "ref", desc := "(I)Z" } : Jvm.MethodName) method_2_code (1 : Nat) (Option.some Jvm.ClassFile.FieldType.boolean)).before args0 about1 = true := code_word (m := ⟨1, 1⟩) (meth := k1m1) (c := k1c1) (by decide +kernel) rfl rfl rfl (by decide +kernel)
def codes1 : List Jvm.Cond := [Jvm.Cond.code x code maxLocals ret, Jvm.Cond.code ({ cls := "com/example/schema_on_the_wire/schemaonthewire/util/XmlChars", name := "isChar", desc := "(I)Z" } : Jvm.MethodName) prog_239_method_2_code (1 : Nat) (Option.some Jvm.ClassFile.FieldType.boolean), Jvm.Cond.code ({ cls := "com/example/schema_on_the_wire/schemaonthewire/util/XmlCharsIsCharPinLaw", name := "ref", desc := "(I)Z" } : Jvm.MethodName) method_2_code (1 : Nat) (Option.some Jvm.ClassFile.FieldType.boolean)]
set_option maxRecDepth 65536 in
theorem codes_eq : words1.filter isCode = codes1 := rfl
theorem w_codes : ∀ c ∈ words1.filter isCode, c.before args0 about1 = true := by
  rw [codes_eq]
  intro c hc
  simp only [codes1, List.mem_cons, List.not_mem_nil, or_false] at hc
  rcases hc with rfl | rfl | rfl
  · exact w_c0
  · exact w_c1
  · exact w_c2
set_option maxRecDepth 65536 in
theorem w_t1 : (words1.take 24).all (fun c => isCode c || c.before args0 about1) = true := by decide +kernel
set_option maxRecDepth 65536 in
theorem w_t2 : (words1.drop 24).all (fun c => isCode c || c.before args0 about1) = true := by decide +kernel
theorem w_tables : (allAtoms (Jvm.Cond.code x code maxLocals ret :: tables_1)).before args0 about1 = true := by
  rw [allAtoms_all]
  show words1.all (fun c => c.before args0 about1) = true
  refine all_split ?_ w_codes
  rw [← List.take_append_drop 24 words1, List.all_append, w_t1, w_t2]
  rfl
set_option maxRecDepth 65536 in
theorem w_case : (Jvm.Cond.and given_1 narrow_1).before args0 about1 = true := by decide +kernel
theorem w_applies : (headSpec (Jvm.Cond.code x code maxLocals ret :: tables_1) room_1).applies x e0.platform about1 = true :=
  (Spec.applies_iff w_frames).mpr ⟨w_running, w_runnable, w_alone, w_named, w_hears, w_ripe, w_room, w_tables⟩
theorem atStart : AtStart classFile x code maxLocals ret World_1 tables_1 room_1 Calls_1 rest_1 Pre_1 launch0 p0 e0 about1 theMethod args0 below0 :=
  ⟨lists_1, trivial, launch0.admits_env _ _ _, launch0.least_env, fairChoices_fair.cas, fairChoices_fair.clock, w_frames, w_args, w_heap, w_applies, trivial, trivial, w_case⟩
end start1
theorem witness_1 : WitnessClaimed_1 := ⟨start1.p0, start1.e0, start1.about1, start1.theMethod, start1.args0, start1.below0, start1.atStart⟩
end Jvm.Pilot.@@N@@
