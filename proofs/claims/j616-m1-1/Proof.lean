import JvmDerived
import JvmDerived.Pilot.@@N@@Statement
import JvmDerived.Pilot.@@N@@Code
set_option linter.unusedVariables false
set_option linter.unusedSimpArgs false
namespace Jvm.RoadKit
open Sem ClassFile Op Lib Jvm.Stand Jvm.Free Jvm.LawKit
section New
variable {p : Program} {l : Launch} {e : Env} {R : Room} {s : State} {m : MethodId} {args : Array Value} {below : List Frame} {meth : Method} {c : Code} {T : State} {locs : List Loc} {cells slots : Nat}
theorem retI (X : Stand p l e R s m args below meth c T locs cells slots) (hx : p.tables.exec = Jvm.exec) {pc : Nat} {Ls : Array Slot} {z : Int32} {rest : List Value} (hret : meth.sig.returnType = some .int) (hd : decode c.code pc = .ok (.ireturn, 1)) {fs : List Frame}
    (hl : ∀ (f : JFrame) (acts : List Action), f.method = m → f.locked = none → f.entered = [] → (doReturn e (T.setTop f) acts (some (.int z))).1 = T.setFrames fs) : Steps p.tables e below (T.setTop (mkF m pc Ls (.int z :: rest))) (T.setFrames fs) := by
  have hm' : T.vm.method? m = some meth := X.method'
  have hn : narrow .int (.int z) = .int z := rfl
  show Steps p.tables e below (T.setTop { method := m, pc := pc, locals := Ls, stack := _ :: rest, locked := none }) _
  jvm_step X.here [X.here.top, hx, hd, hm', hret, hn]
  first | (intro acts; rw [hl _ acts rfl rfl rfl]) | rw [hl _ _ rfl rfl rfl]
  exact Steps.refl _
end New
end Jvm.RoadKit
namespace Jvm.Pilot.@@N@@
open Jvm Jvm.ClassFile Sem Op Lib Jvm.Free Jvm.Stand Jvm.LawKit Jvm.RoadKit Bundle Jvm.Pilot.@@N@@.Jvm.D

theorem wi {Z : State} {a0 : Array Value} (hw : ∀ d ∈ tables_1, d.before a0 Z = true) (i : Nat) {d : Jvm.Cond} (h : tables_1[i]? = some d) : d.before a0 Z = true := hw d (List.mem_of_getElem? h)
section OwnKit
variable {p : Program} {l : Launch} {e : Env} {R : Room} {s : State} {m : MethodId} {args : Array Value} {below : List Frame} {meth : Method} {c : Code} {bs : ByteArray} {st : State} {n0 cells slots : Nat} {P P' : Heap → Prop} {pc pc' : Nat} {L L' : Array Slot} {S S' : List Value} {Z : State} {a0 : Array Value} {own : String}
/-- where a walk stands: some state T reached from st, with what is known of its heap -/
def Sit (p : Program) (l : Launch) (e : Env) (R : Room) (s : State) (m : MethodId) (args : Array Value) (below : List Frame) (meth : Method) (c : Code) (bs : ByteArray) (st : State) (n0 cells slots : Nat) (P : Heap → Prop) (pc : Nat) (L : Array Slot) (S : List Value) : Prop :=
  ∃ (T : State) (locs : List Loc) (k n : Nat), Stand p l e R s m args below meth c T locs k n ∧ k ≤ cells ∧ n ≤ slots ∧ Fr n0 locs ∧ n0 ≤ s.heap.size ∧ P T.heap ∧ p.tables.exec = Jvm.exec ∧ c.code = bs ∧ ∀ t, Steps p.tables e below (T.setTop (mkF m pc L S)) t → Steps p.tables e below st t
theorem Sit.go (h : Sit p l e R s m args below meth c bs st n0 cells slots P pc L S)
    (f : ∀ T locs k n, Stand p l e R s m args below meth c T locs k n → p.tables.exec = Jvm.exec → c.code = bs → P T.heap → ∀ t, Steps p.tables e below (T.setTop (mkF m pc' L' S')) t → Steps p.tables e below (T.setTop (mkF m pc L S)) t) :
    Sit p l e R s m args below meth c bs st n0 cells slots P pc' L' S' := by
  obtain ⟨T, locs, k, n, X, q1, q2, q3, q4, q5, hx, hby, q⟩ := h
  exact ⟨T, locs, k, n, X, q1, q2, q3, q4, q5, hx, hby, fun t z => q t (f T locs k n X hx hby q5 t z)⟩
theorem Sit.mono (h : Sit p l e R s m args below meth c bs st n0 cells slots P pc L S) (f : ∀ hh, P hh → P' hh) : Sit p l e R s m args below meth c bs st n0 cells slots P' pc L S := by
  obtain ⟨T, locs, k, n, X, q1, q2, q3, q4, q5, r⟩ := h
  exact ⟨T, locs, k, n, X, q1, q2, q3, q4, f _ q5, r⟩
theorem Sit.bound {cells' slots' : Nat} (h : Sit p l e R s m args below meth c bs st n0 cells slots P pc L S) (h1 : cells ≤ cells') (h2 : slots ≤ slots') : Sit p l e R s m args below meth c bs st n0 cells' slots' P pc L S := by
  obtain ⟨T, locs, k, n, X, q1, q2, r⟩ := h
  exact ⟨T, locs, k, n, X, Nat.le_trans q1 h1, Nat.le_trans q2 h2, r⟩
theorem Sit.facts (h : Sit p l e R s m args below meth c bs st n0 cells slots P pc L S) : ∃ hh, P hh := by
  obtain ⟨T, locs, k, n, X, q1, q2, q3, q4, q5, r⟩ := h
  exact ⟨_, q5⟩
theorem Sit.ex {α : Type} {Q : α → Heap → Prop} (h : Sit p l e R s m args below meth c bs st n0 cells slots (fun hh => ∃ x, Q x hh) pc L S) : ∃ x, Sit p l e R s m args below meth c bs st n0 cells slots (Q x) pc L S := by
  obtain ⟨T, locs, k, n, X, q1, q2, q3, q4, ⟨x, q5⟩, r⟩ := h
  exact ⟨x, T, locs, k, n, X, q1, q2, q3, q4, q5, r⟩
theorem Sit.size (h : Sit p l e R s m args below meth c bs st n0 cells slots P pc L S) : Sit p l e R s m args below meth c bs st n0 cells slots (fun hh => P hh ∧ n0 ≤ hh.size) pc L S := by
  obtain ⟨T, locs, k, n, X, q1, q2, q3, q4, q5, r⟩ := h
  exact ⟨T, locs, k, n, X, q1, q2, q3, q4, ⟨q5, Nat.le_trans q4 X.same.2.1⟩, r⟩
/-! plain steps -/
theorem Sit.iload {k : Nat} {v : Int32} (h : Sit p l e R s m args below meth c bs st n0 cells slots P pc L S) (hd : decode bs pc = .ok (.iload k, 2)) (hl : L[k]? = some (.val (.int v))) (hp : pc + 2 = pc') : Sit p l e R s m args below meth c bs st n0 cells slots P pc' L (.int v :: S) := by
  subst hp; exact h.go fun T _ _ _ X hx hby _ t z => XS.iload X.here hx rfl (hb hby hd) hl z
theorem Sit.iloadN {k : Fin 4} {v : Int32} (h : Sit p l e R s m args below meth c bs st n0 cells slots P pc L S) (hd : decode bs pc = .ok (.iload_n k, 1)) (hl : L[k.val]? = some (.val (.int v))) (hp : pc + 1 = pc') : Sit p l e R s m args below meth c bs st n0 cells slots P pc' L (.int v :: S) := by
  subst hp; exact h.go fun T _ _ _ X hx hby _ t z => XS.iloadN X.here hx rfl (hb hby hd) hl z
theorem Sit.lload {k : Nat} {v : Int64} (h : Sit p l e R s m args below meth c bs st n0 cells slots P pc L S) (hd : decode bs pc = .ok (.lload k, 2)) (hl : L[k]? = some (.val (.long v))) (hp : pc + 2 = pc') : Sit p l e R s m args below meth c bs st n0 cells slots P pc' L (.long v :: S) := by
  subst hp; exact h.go fun T _ _ _ X hx hby _ t z => XS.lload X.here hx rfl (hb hby hd) hl z
theorem Sit.lloadN {k : Fin 4} {v : Int64} (h : Sit p l e R s m args below meth c bs st n0 cells slots P pc L S) (hd : decode bs pc = .ok (.lload_n k, 1)) (hl : L[k.val]? = some (.val (.long v))) (hp : pc + 1 = pc') : Sit p l e R s m args below meth c bs st n0 cells slots P pc' L (.long v :: S) := by
  subst hp; exact h.go fun T _ _ _ X hx hby _ t z => XS.lloadN X.here hx rfl (hb hby hd) hl z
theorem Sit.aload {k : Nat} {v : Addr} (h : Sit p l e R s m args below meth c bs st n0 cells slots P pc L S) (hd : decode bs pc = .ok (.aload k, 2)) (hl : L[k]? = some (.val (.ref v))) (hp : pc + 2 = pc') : Sit p l e R s m args below meth c bs st n0 cells slots P pc' L (.ref v :: S) := by
  subst hp; exact h.go fun T _ _ _ X hx hby _ t z => XS.aload X.here hx rfl (hb hby hd) hl rfl z
theorem Sit.aloadN {k : Fin 4} {v : Addr} (h : Sit p l e R s m args below meth c bs st n0 cells slots P pc L S) (hd : decode bs pc = .ok (.aload_n k, 1)) (hl : L[k.val]? = some (.val (.ref v))) (hp : pc + 1 = pc') : Sit p l e R s m args below meth c bs st n0 cells slots P pc' L (.ref v :: S) := by
  subst hp; exact h.go fun T _ _ _ X hx hby _ t z => XS.aloadN X.here hx rfl (hb hby hd) hl rfl z
theorem Sit.istore {k : Nat} {v : Int32} (L' : Array Slot) (h : Sit p l e R s m args below meth c bs st n0 cells slots P pc L (.int v :: S)) (hd : decode bs pc = .ok (.istore k, 2)) (hl : storeLocals L k (.int v) = some L') (hp : pc + 2 = pc') : Sit p l e R s m args below meth c bs st n0 cells slots P pc' L' S := by
  subst hp; exact h.go fun T _ _ _ X hx hby _ t z => XS.istore X.here hx rfl (hb hby hd) rfl hl z
theorem Sit.istoreN {k : Fin 4} {v : Int32} (L' : Array Slot) (h : Sit p l e R s m args below meth c bs st n0 cells slots P pc L (.int v :: S)) (hd : decode bs pc = .ok (.istore_n k, 1)) (hl : storeLocals L k.val (.int v) = some L') (hp : pc + 1 = pc') : Sit p l e R s m args below meth c bs st n0 cells slots P pc' L' S := by
  subst hp; exact h.go fun T _ _ _ X hx hby _ t z => XS.istoreN X.here hx rfl (hb hby hd) rfl hl z
theorem Sit.lstore {k : Nat} {v : Int64} (L' : Array Slot) (h : Sit p l e R s m args below meth c bs st n0 cells slots P pc L (.long v :: S)) (hd : decode bs pc = .ok (.lstore k, 2)) (hl : storeLocals L k (.long v) = some L') (hp : pc + 2 = pc') : Sit p l e R s m args below meth c bs st n0 cells slots P pc' L' S := by
  subst hp; exact h.go fun T _ _ _ X hx hby _ t z => XS.lstore X.here hx rfl (hb hby hd) rfl hl z
theorem Sit.lstoreN {k : Fin 4} {v : Int64} (L' : Array Slot) (h : Sit p l e R s m args below meth c bs st n0 cells slots P pc L (.long v :: S)) (hd : decode bs pc = .ok (.lstore_n k, 1)) (hl : storeLocals L k.val (.long v) = some L') (hp : pc + 1 = pc') : Sit p l e R s m args below meth c bs st n0 cells slots P pc' L' S := by
  subst hp; exact h.go fun T _ _ _ X hx hby _ t z => XS.lstoreN X.here hx rfl (hb hby hd) rfl hl z
theorem Sit.astore {k : Nat} {v : Addr} (L' : Array Slot) (h : Sit p l e R s m args below meth c bs st n0 cells slots P pc L (.ref v :: S)) (hd : decode bs pc = .ok (.astore k, 2)) (hl : storeLocals L k (.ref v) = some L') (hp : pc + 2 = pc') : Sit p l e R s m args below meth c bs st n0 cells slots P pc' L' S := by
  subst hp; exact h.go fun T _ _ _ X hx hby _ t z => XS.astore X.here hx rfl (hb hby hd) rfl rfl hl z
theorem Sit.astoreN {k : Fin 4} {v : Addr} (L' : Array Slot) (h : Sit p l e R s m args below meth c bs st n0 cells slots P pc L (.ref v :: S)) (hd : decode bs pc = .ok (.astore_n k, 1)) (hl : storeLocals L k.val (.ref v) = some L') (hp : pc + 1 = pc') : Sit p l e R s m args below meth c bs st n0 cells slots P pc' L' S := by
  subst hp; exact h.go fun T _ _ _ X hx hby _ t z => XS.astoreN X.here hx rfl (hb hby hd) rfl rfl hl z
theorem Sit.iconst {i : Int} (v : Int32) (h : Sit p l e R s m args below meth c bs st n0 cells slots P pc L S) (hd : decode bs pc = .ok (.iconst i, 1)) (hv : Int32.ofInt i = v) (hp : pc + 1 = pc') : Sit p l e R s m args below meth c bs st n0 cells slots P pc' L (.int v :: S) := by
  subst hp hv; exact h.go fun T _ _ _ X hx hby _ t z => XS.iconst X.here hx rfl (hb hby hd) z
theorem Sit.bipush {i : Int} (v : Int32) (h : Sit p l e R s m args below meth c bs st n0 cells slots P pc L S) (hd : decode bs pc = .ok (.bipush i, 2)) (hv : (Int8.ofInt i).toInt32 = v) (hp : pc + 2 = pc') : Sit p l e R s m args below meth c bs st n0 cells slots P pc' L (.int v :: S) := by
  subst hp hv; exact h.go fun T _ _ _ X hx hby _ t z => XS.bipush X.here hx rfl (hb hby hd) z
theorem Sit.sipush {i : Int} (v : Int32) (h : Sit p l e R s m args below meth c bs st n0 cells slots P pc L S) (hd : decode bs pc = .ok (.sipush i, 3)) (hv : (Int16.ofInt i).toInt32 = v) (hp : pc + 3 = pc') : Sit p l e R s m args below meth c bs st n0 cells slots P pc' L (.int v :: S) := by
  subst hp hv; exact h.go fun T _ _ _ X hx hby _ t z => XS.sipush X.here hx rfl (hb hby hd) z
theorem Sit.lconst {k : Fin 2} (v : Int64) (h : Sit p l e R s m args below meth c bs st n0 cells slots P pc L S) (hd : decode bs pc = .ok (.lconst k, 1)) (hv : Int64.ofNat k = v) (hp : pc + 1 = pc') : Sit p l e R s m args below meth c bs st n0 cells slots P pc' L (.long v :: S) := by
  subst hp hv; exact h.go fun T _ _ _ X hx hby _ t z => XS.lconst X.here hx rfl (hb hby hd) z
theorem Sit.ldc {index : Nat} {v : Int32} (h : Sit p l e R s m args below meth c bs st n0 cells slots P pc L S) (hZ : Z.Warmed39 s.vm) (hown : s.vm.findClass own = some m.cls) (w : (Cond.constant own index v).before a0 Z = true) (hd : decode bs pc = .ok (.ldc index, 2)) (hp : pc + 2 = pc') : Sit p l e R s m args below meth c bs st n0 cells slots P pc' L (.int v :: S) := by
  subst hp; exact h.go fun T _ _ _ X hx hby _ t z => X.ldcInt hx hown (mvT hZ w) (g := mkF m pc L S) rfl (hb hby hd) t z
theorem Sit.ldcw {index : Nat} {v : Int32} (h : Sit p l e R s m args below meth c bs st n0 cells slots P pc L S) (hZ : Z.Warmed39 s.vm) (hown : s.vm.findClass own = some m.cls) (w : (Cond.constant own index v).before a0 Z = true) (hd : decode bs pc = .ok (.ldc_w index, 3)) (hp : pc + 3 = pc') : Sit p l e R s m args below meth c bs st n0 cells slots P pc' L (.int v :: S) := by
  subst hp; exact h.go fun T _ _ _ X hx hby _ t z => X.ldcwInt hx hown (mvT hZ w) (g := mkF m pc L S) rfl (hb hby hd) t z
theorem Sit.ldc2 {index : Nat} {v : Int64} (h : Sit p l e R s m args below meth c bs st n0 cells slots P pc L S) (hZ : Z.Warmed39 s.vm) (hown : s.vm.findClass own = some m.cls) (w : (Cond.constantLong own index v).before a0 Z = true) (hd : decode bs pc = .ok (.ldc2_w index, 3)) (hp : pc + 3 = pc') : Sit p l e R s m args below meth c bs st n0 cells slots P pc' L (.long v :: S) := by
  subst hp; exact h.go fun T _ _ _ X hx hby _ t z => X.ldc2Long hx hown (mvT hZ w) (g := mkF m pc L S) rfl (hb hby hd) t z
/-! Java's shifts on longs and >>> on ints -/
def ushr32 (x y : Int32) : Int32 := (x.toUInt32 >>> (y &&& 31).toUInt32).toInt32
def shl64 (x : Int64) (y : Int32) : Int64 := x <<< (y &&& 0x3f).toInt64
def ushr64 (x : Int64) (y : Int32) : Int64 := (x.toUInt64 >>> (y &&& 0x3f).toInt64.toUInt64).toInt64
def lcmp3 (x y : Int64) : Int32 := if x > y then 1 else if x = y then 0 else -1
theorem Sit.iadd {x : Int32} {y : Int32} (h : Sit p l e R s m args below meth c bs st n0 cells slots P pc L (.int y :: .int x :: S)) (hd : decode bs pc = .ok (.iadd, 1)) (hp : pc + 1 = pc') : Sit p l e R s m args below meth c bs st n0 cells slots P pc' L (.int (x + y) :: S) := by
  subst hp; exact h.go fun T _ _ _ X hx hby _ t z => XS.iadd X.here hx rfl (hb hby hd) rfl z
theorem Sit.isub {x : Int32} {y : Int32} (h : Sit p l e R s m args below meth c bs st n0 cells slots P pc L (.int y :: .int x :: S)) (hd : decode bs pc = .ok (.isub, 1)) (hp : pc + 1 = pc') : Sit p l e R s m args below meth c bs st n0 cells slots P pc' L (.int (x - y) :: S) := by
  subst hp; exact h.go fun T _ _ _ X hx hby _ t z => XS.isub X.here hx rfl (hb hby hd) rfl z
theorem Sit.imul {x : Int32} {y : Int32} (h : Sit p l e R s m args below meth c bs st n0 cells slots P pc L (.int y :: .int x :: S)) (hd : decode bs pc = .ok (.imul, 1)) (hp : pc + 1 = pc') : Sit p l e R s m args below meth c bs st n0 cells slots P pc' L (.int (x * y) :: S) := by
  subst hp; exact h.go fun T _ _ _ X hx hby _ t z => XS.imul X.here hx rfl (hb hby hd) rfl z
theorem Sit.iand {x : Int32} {y : Int32} (h : Sit p l e R s m args below meth c bs st n0 cells slots P pc L (.int y :: .int x :: S)) (hd : decode bs pc = .ok (.iand, 1)) (hp : pc + 1 = pc') : Sit p l e R s m args below meth c bs st n0 cells slots P pc' L (.int (x &&& y) :: S) := by
  subst hp; exact h.go fun T _ _ _ X hx hby _ t z => XS.iand X.here hx rfl (hb hby hd) rfl z
theorem Sit.ior {x : Int32} {y : Int32} (h : Sit p l e R s m args below meth c bs st n0 cells slots P pc L (.int y :: .int x :: S)) (hd : decode bs pc = .ok (.ior, 1)) (hp : pc + 1 = pc') : Sit p l e R s m args below meth c bs st n0 cells slots P pc' L (.int (x ||| y) :: S) := by
  subst hp; exact h.go fun T _ _ _ X hx hby _ t z => XS.ior X.here hx rfl (hb hby hd) rfl z
theorem Sit.ixor {x : Int32} {y : Int32} (h : Sit p l e R s m args below meth c bs st n0 cells slots P pc L (.int y :: .int x :: S)) (hd : decode bs pc = .ok (.ixor, 1)) (hp : pc + 1 = pc') : Sit p l e R s m args below meth c bs st n0 cells slots P pc' L (.int (x ^^^ y) :: S) := by
  subst hp; exact h.go fun T _ _ _ X hx hby _ t z => XS.ixor X.here hx rfl (hb hby hd) rfl z
theorem Sit.ishl {x : Int32} {y : Int32} (h : Sit p l e R s m args below meth c bs st n0 cells slots P pc L (.int y :: .int x :: S)) (hd : decode bs pc = .ok (.ishl, 1)) (hp : pc + 1 = pc') : Sit p l e R s m args below meth c bs st n0 cells slots P pc' L (.int (x <<< (y &&& 31)) :: S) := by
  subst hp; exact h.go fun T _ _ _ X hx hby _ t z => XS.ishl X.here hx rfl (hb hby hd) rfl z
theorem Sit.ishr {x : Int32} {y : Int32} (h : Sit p l e R s m args below meth c bs st n0 cells slots P pc L (.int y :: .int x :: S)) (hd : decode bs pc = .ok (.ishr, 1)) (hp : pc + 1 = pc') : Sit p l e R s m args below meth c bs st n0 cells slots P pc' L (.int (x >>> (y &&& 31)) :: S) := by
  subst hp; exact h.go fun T _ _ _ X hx hby _ t z => XS.ishr X.here hx rfl (hb hby hd) rfl z
theorem Sit.iushr {x : Int32} {y : Int32} (h : Sit p l e R s m args below meth c bs st n0 cells slots P pc L (.int y :: .int x :: S)) (hd : decode bs pc = .ok (.iushr, 1)) (hp : pc + 1 = pc') : Sit p l e R s m args below meth c bs st n0 cells slots P pc' L (.int (ushr32 x y) :: S) := by
  subst hp; exact h.go fun T _ _ _ X hx hby _ t z => XS.iushr X.here hx rfl (hb hby hd) rfl z
theorem Sit.ladd {x : Int64} {y : Int64} (h : Sit p l e R s m args below meth c bs st n0 cells slots P pc L (.long y :: .long x :: S)) (hd : decode bs pc = .ok (.ladd, 1)) (hp : pc + 1 = pc') : Sit p l e R s m args below meth c bs st n0 cells slots P pc' L (.long (x + y) :: S) := by
  subst hp; exact h.go fun T _ _ _ X hx hby _ t z => XS.ladd X.here hx rfl (hb hby hd) rfl z
theorem Sit.lsub {x : Int64} {y : Int64} (h : Sit p l e R s m args below meth c bs st n0 cells slots P pc L (.long y :: .long x :: S)) (hd : decode bs pc = .ok (.lsub, 1)) (hp : pc + 1 = pc') : Sit p l e R s m args below meth c bs st n0 cells slots P pc' L (.long (x - y) :: S) := by
  subst hp; exact h.go fun T _ _ _ X hx hby _ t z => XS.lsub X.here hx rfl (hb hby hd) rfl z
theorem Sit.lmul {x : Int64} {y : Int64} (h : Sit p l e R s m args below meth c bs st n0 cells slots P pc L (.long y :: .long x :: S)) (hd : decode bs pc = .ok (.lmul, 1)) (hp : pc + 1 = pc') : Sit p l e R s m args below meth c bs st n0 cells slots P pc' L (.long (x * y) :: S) := by
  subst hp; exact h.go fun T _ _ _ X hx hby _ t z => XS.lmul X.here hx rfl (hb hby hd) rfl z
theorem Sit.land {x : Int64} {y : Int64} (h : Sit p l e R s m args below meth c bs st n0 cells slots P pc L (.long y :: .long x :: S)) (hd : decode bs pc = .ok (.land, 1)) (hp : pc + 1 = pc') : Sit p l e R s m args below meth c bs st n0 cells slots P pc' L (.long (x &&& y) :: S) := by
  subst hp; exact h.go fun T _ _ _ X hx hby _ t z => XS.land X.here hx rfl (hb hby hd) rfl z
theorem Sit.lor {x : Int64} {y : Int64} (h : Sit p l e R s m args below meth c bs st n0 cells slots P pc L (.long y :: .long x :: S)) (hd : decode bs pc = .ok (.lor, 1)) (hp : pc + 1 = pc') : Sit p l e R s m args below meth c bs st n0 cells slots P pc' L (.long (x ||| y) :: S) := by
  subst hp; exact h.go fun T _ _ _ X hx hby _ t z => XS.lor X.here hx rfl (hb hby hd) rfl z
theorem Sit.lxor {x : Int64} {y : Int64} (h : Sit p l e R s m args below meth c bs st n0 cells slots P pc L (.long y :: .long x :: S)) (hd : decode bs pc = .ok (.lxor, 1)) (hp : pc + 1 = pc') : Sit p l e R s m args below meth c bs st n0 cells slots P pc' L (.long (x ^^^ y) :: S) := by
  subst hp; exact h.go fun T _ _ _ X hx hby _ t z => XS.lxor X.here hx rfl (hb hby hd) rfl z
theorem Sit.lshl {x : Int64} {y : Int32} (h : Sit p l e R s m args below meth c bs st n0 cells slots P pc L (.int y :: .long x :: S)) (hd : decode bs pc = .ok (.lshl, 1)) (hp : pc + 1 = pc') : Sit p l e R s m args below meth c bs st n0 cells slots P pc' L (.long (shl64 x y) :: S) := by
  subst hp; exact h.go fun T _ _ _ X hx hby _ t z => XS.lshl X.here hx rfl (hb hby hd) rfl z
theorem Sit.lushr {x : Int64} {y : Int32} (h : Sit p l e R s m args below meth c bs st n0 cells slots P pc L (.int y :: .long x :: S)) (hd : decode bs pc = .ok (.lushr, 1)) (hp : pc + 1 = pc') : Sit p l e R s m args below meth c bs st n0 cells slots P pc' L (.long (ushr64 x y) :: S) := by
  subst hp; exact h.go fun T _ _ _ X hx hby _ t z => XS.lushr X.here hx rfl (hb hby hd) rfl z
theorem Sit.lcmp {x : Int64} {y : Int64} (h : Sit p l e R s m args below meth c bs st n0 cells slots P pc L (.long y :: .long x :: S)) (hd : decode bs pc = .ok (.lcmp, 1)) (hp : pc + 1 = pc') : Sit p l e R s m args below meth c bs st n0 cells slots P pc' L (.int (lcmp3 x y) :: S) := by
  subst hp; exact h.go fun T _ _ _ X hx hby _ t z => XS.lcmp X.here hx rfl (hb hby hd) rfl z
theorem Sit.i2l {x : Int32} (h : Sit p l e R s m args below meth c bs st n0 cells slots P pc L (.int x :: S)) (hd : decode bs pc = .ok (.i2l, 1)) (hp : pc + 1 = pc') : Sit p l e R s m args below meth c bs st n0 cells slots P pc' L (.long (x.toInt64) :: S) := by
  subst hp; exact h.go fun T _ _ _ X hx hby _ t z => XS.i2l X.here hx rfl (hb hby hd) rfl z
theorem Sit.l2i {x : Int64} (h : Sit p l e R s m args below meth c bs st n0 cells slots P pc L (.long x :: S)) (hd : decode bs pc = .ok (.l2i, 1)) (hp : pc + 1 = pc') : Sit p l e R s m args below meth c bs st n0 cells slots P pc' L (.int (x.toInt32) :: S) := by
  subst hp; exact h.go fun T _ _ _ X hx hby _ t z => XS.l2i X.here hx rfl (hb hby hd) rfl z
theorem Sit.i2b {x : Int32} (h : Sit p l e R s m args below meth c bs st n0 cells slots P pc L (.int x :: S)) (hd : decode bs pc = .ok (.i2b, 1)) (hp : pc + 1 = pc') : Sit p l e R s m args below meth c bs st n0 cells slots P pc' L (.int (x.toInt8.toInt32) :: S) := by
  subst hp; exact h.go fun T _ _ _ X hx hby _ t z => XS.i2b X.here hx rfl (hb hby hd) rfl z
theorem Sit.ineg {x : Int32} (h : Sit p l e R s m args below meth c bs st n0 cells slots P pc L (.int x :: S)) (hd : decode bs pc = .ok (.ineg, 1)) (hp : pc + 1 = pc') : Sit p l e R s m args below meth c bs st n0 cells slots P pc' L (.int (-x) :: S) := by
  subst hp; exact h.go fun T _ _ _ X hx hby _ t z => XS.ineg X.here hx rfl (hb hby hd) rfl z
theorem Sit.idiv {x y : Int32} (h : Sit p l e R s m args below meth c bs st n0 cells slots P pc L (.int y :: .int x :: S)) (hd : decode bs pc = .ok (.idiv, 1)) (hy : y ≠ 0) (hp : pc + 1 = pc') : Sit p l e R s m args below meth c bs st n0 cells slots P pc' L (.int (x / y) :: S) := by
  subst hp; exact h.go fun T _ _ _ X hx hby _ t z => XS.idiv X.here hx rfl (hb hby hd) rfl hy z
theorem Sit.irem {x y : Int32} (h : Sit p l e R s m args below meth c bs st n0 cells slots P pc L (.int y :: .int x :: S)) (hd : decode bs pc = .ok (.irem, 1)) (hy : y ≠ 0) (hp : pc + 1 = pc') : Sit p l e R s m args below meth c bs st n0 cells slots P pc' L (.int (x % y) :: S) := by
  subst hp; exact h.go fun T _ _ _ X hx hby _ t z => iremM X hx rfl (hb hby hd) rfl hy z
theorem Sit.lrem {x y : Int64} (h : Sit p l e R s m args below meth c bs st n0 cells slots P pc L (.long y :: .long x :: S)) (hd : decode bs pc = .ok (.lrem, 1)) (hy : y ≠ 0) (hp : pc + 1 = pc') : Sit p l e R s m args below meth c bs st n0 cells slots P pc' L (.long (x % y) :: S) := by
  subst hp; rw [← lrem_mod]; exact h.go fun T _ _ _ X hx hby _ t z => XS.lrem X.here hx rfl (hb hby hd) rfl hy z
theorem Sit.iinc {k : Nat} {i : Int} {x : Int32} (v : Int32) (L' : Array Slot) (h : Sit p l e R s m args below meth c bs st n0 cells slots P pc L S) (hd : decode bs pc = .ok (.iinc k i, 3)) (hl : L[k]? = some (.val (.int x))) (hv : x + Int32.ofInt i = v) (hl' : storeLocals L k (.int v) = some L') (hp : pc + 3 = pc') : Sit p l e R s m args below meth c bs st n0 cells slots P pc' L' S := by
  subst hp hv; exact h.go fun T _ _ _ X hx hby _ t z => XS.iinc X.here hx rfl (hb hby hd) hl hl' z
theorem Sit.dup {x : Value} (h : Sit p l e R s m args below meth c bs st n0 cells slots P pc L (x :: S)) (hd : decode bs pc = .ok (.dup, 1)) (hc : x.category = 1) (hp : pc + 1 = pc') : Sit p l e R s m args below meth c bs st n0 cells slots P pc' L (x :: x :: S) := by
  subst hp; exact h.go fun T _ _ _ X hx hby _ t z => XS.dup X.here hx rfl (hb hby hd) rfl hc z
theorem Sit.dupX1 {x y : Value} (h : Sit p l e R s m args below meth c bs st n0 cells slots P pc L (x :: y :: S)) (hd : decode bs pc = .ok (.dup_x1, 1)) (hc : x.category = 1) (hc' : y.category = 1) (hp : pc + 1 = pc') : Sit p l e R s m args below meth c bs st n0 cells slots P pc' L (x :: y :: x :: S) := by
  subst hp; exact h.go fun T _ _ _ X hx hby _ t z => XS.dupX1 X.here hx rfl (hb hby hd) rfl hc hc' z
theorem Sit.dup2 {x y : Value} (h : Sit p l e R s m args below meth c bs st n0 cells slots P pc L (x :: y :: S)) (hd : decode bs pc = .ok (.dup2, 1)) (hc : x.category = 1) (hc' : y.category = 1) (hp : pc + 1 = pc') : Sit p l e R s m args below meth c bs st n0 cells slots P pc' L (x :: y :: x :: y :: S) := by
  subst hp; exact h.go fun T _ _ _ X hx hby _ t z => Jvm.Free.XT.dup2 X.here hx rfl (hb hby hd) rfl hc hc' z
theorem Sit.pop {x : Value} (h : Sit p l e R s m args below meth c bs st n0 cells slots P pc L (x :: S)) (hd : decode bs pc = .ok (.pop, 1)) (hc : x.category = 1) (hp : pc + 1 = pc') : Sit p l e R s m args below meth c bs st n0 cells slots P pc' L S := by
  subst hp; exact h.go fun T _ _ _ X hx hby _ t z => XS.pop X.here hx rfl (hb hby hd) rfl hc z
theorem Sit.goto {o : Int} (h : Sit p l e R s m args below meth c bs st n0 cells slots P pc L S) (hd : decode bs pc = .ok (.goto o, 3)) (ho : 0 ≤ (pc : Int) + o) (hp : ((pc : Int) + o).toNat = pc') : Sit p l e R s m args below meth c bs st n0 cells slots P pc' L S :=
  h.go fun T _ _ _ X hx hby _ t z => XS.goto X.here hx rfl (pc0 := pc) rfl (hb hby hd) ho hp z
theorem Sit.ifY {cd : ClassFile.Cond} {x : Int32} {o : Int} (h : Sit p l e R s m args below meth c bs st n0 cells slots P pc L (.int x :: S)) (hd : decode bs pc = .ok (.ifCond cd o, 3)) (hc : if_icmp.holds cd x 0 = true) (ho : 0 ≤ (pc : Int) + o) (hp : ((pc : Int) + o).toNat = pc') : Sit p l e R s m args below meth c bs st n0 cells slots P pc' L S :=
  h.go fun T _ _ _ X hx hby _ t z => XS.ifYes X.here hx rfl (pc0 := pc) rfl (hb hby hd) rfl ((if0 _ _).trans hc) ho hp z
theorem Sit.ifN {cd : ClassFile.Cond} {x : Int32} {o : Int} (h : Sit p l e R s m args below meth c bs st n0 cells slots P pc L (.int x :: S)) (hd : decode bs pc = .ok (.ifCond cd o, 3)) (hc : if_icmp.holds cd x 0 = false) (hp : pc + 3 = pc') : Sit p l e R s m args below meth c bs st n0 cells slots P pc' L S := by
  subst hp; exact h.go fun T _ _ _ X hx hby _ t z => XS.ifNo X.here hx rfl (hb hby hd) rfl ((if0 _ _).trans hc) z
theorem Sit.icmpY {cd : ClassFile.Cond} {x y : Int32} {o : Int} (h : Sit p l e R s m args below meth c bs st n0 cells slots P pc L (.int y :: .int x :: S)) (hd : decode bs pc = .ok (.if_icmp cd o, 3)) (hc : if_icmp.holds cd x y = true) (ho : 0 ≤ (pc : Int) + o) (hp : ((pc : Int) + o).toNat = pc') : Sit p l e R s m args below meth c bs st n0 cells slots P pc' L S :=
  h.go fun T _ _ _ X hx hby _ t z => XS.icmpYes X.here hx rfl (pc0 := pc) rfl (hb hby hd) rfl hc ho hp z
theorem Sit.icmpN {cd : ClassFile.Cond} {x y : Int32} {o : Int} (h : Sit p l e R s m args below meth c bs st n0 cells slots P pc L (.int y :: .int x :: S)) (hd : decode bs pc = .ok (.if_icmp cd o, 3)) (hc : if_icmp.holds cd x y = false) (hp : pc + 3 = pc') : Sit p l e R s m args below meth c bs st n0 cells slots P pc' L S := by
  subst hp; exact h.go fun T _ _ _ X hx hby _ t z => XS.icmpNo X.here hx rfl (hb hby hd) rfl hc z
/-! comparisons as facts on whole numbers -/
def cmpP : ClassFile.Cond → Int32 → Int32 → Prop
  | .eq, x, y => x.toInt = y.toInt
  | .ne, x, y => x.toInt ≠ y.toInt
  | .lt, x, y => x.toInt < y.toInt
  | .ge, x, y => y.toInt ≤ x.toInt
  | .gt, x, y => y.toInt < x.toInt
  | .le, x, y => x.toInt ≤ y.toInt
theorem cmpP_holds (cd : ClassFile.Cond) (x y : Int32) : if_icmp.holds cd x y = true ↔ cmpP cd x y := by
  cases cd <;> simp [if_icmp.holds, cmpP, Int32.lt_iff_toInt_lt, Int32.le_iff_toInt_le, Int32.toInt_inj]
theorem cmpT {cd : ClassFile.Cond} {x y : Int32} (h : cmpP cd x y) : if_icmp.holds cd x y = true := (cmpP_holds cd x y).mpr h
theorem cmpF {cd : ClassFile.Cond} {x y : Int32} (h : ¬ cmpP cd x y) : if_icmp.holds cd x y = false := by
  rw [← Bool.not_eq_true, cmpP_holds]; exact h
def cmpZ : ClassFile.Cond → Int32 → Prop
  | .eq, x => x.toInt = 0
  | .ne, x => x.toInt ≠ 0
  | .lt, x => x.toInt < 0
  | .ge, x => 0 ≤ x.toInt
  | .gt, x => 0 < x.toInt
  | .le, x => x.toInt ≤ 0
theorem cmpT0 {cd : ClassFile.Cond} {x : Int32} (h : cmpZ cd x) : if_icmp.holds cd x 0 = true := cmpT (by cases cd <;> exact h)
theorem cmpF0 {cd : ClassFile.Cond} {x : Int32} (h : ¬ cmpZ cd x) : if_icmp.holds cd x 0 = false := cmpF (by cases cd <;> exact h)
def cmpJ : ClassFile.Cond → Int64 → Int64 → Prop
  | .eq, x, y => x = y
  | .ne, x, y => ¬ x = y
  | .lt, x, y => x.toInt < y.toInt
  | .ge, x, y => y.toInt ≤ x.toInt
  | .gt, x, y => y.toInt < x.toInt
  | .le, x, y => x.toInt ≤ y.toInt
theorem lc_iff (cd : ClassFile.Cond) (x y : Int64) : if_icmp.holds cd (lcmp3 x y) 0 = true ↔ cmpJ cd x y := by
  rw [cmpP_holds]
  obtain ⟨h1, h2, h3⟩ := c_lcmp x y
  have e : lcmp3 x y = lcmpW x y := rfl
  rw [e]
  have z : (0 : Int32).toInt = 0 := rfl
  have q : x = y ↔ x.toInt = y.toInt := Int64.toInt_inj.symm
  rcases Int.lt_trichotomy x.toInt y.toInt with h | h | h
  · have := h1 h; cases cd <;> simp only [cmpP, cmpJ, z, q] <;> omega
  · have := h2 h; cases cd <;> simp only [cmpP, cmpJ, z, q] <;> omega
  · have := h3 h; cases cd <;> simp only [cmpP, cmpJ, z, q] <;> omega
theorem lcT {cd : ClassFile.Cond} {x y : Int64} (h : cmpJ cd x y) : if_icmp.holds cd (lcmp3 x y) 0 = true := (lc_iff cd x y).mpr h
theorem lcF {cd : ClassFile.Cond} {x y : Int64} (h : ¬ cmpJ cd x y) : if_icmp.holds cd (lcmp3 x y) 0 = false := by
  rw [← Bool.not_eq_true, lc_iff]; exact h
theorem eqT {x y : Int32} (h : x = y) : if_icmp.holds .eq x y = true := (teq h).1
theorem eqF {x y : Int32} (h : ¬ x = y) : if_icmp.holds .eq x y = false := (feq h).1
theorem neT {x y : Int32} (h : ¬ x = y) : if_icmp.holds .ne x y = true := (feq h).2
theorem neF {x y : Int32} (h : x = y) : if_icmp.holds .ne x y = false := (teq h).2
/-! leaving -/
def Out (p : Program) (e : Env) (below : List Frame) (s st : State) (n0 cells slots : Nat) (Q : Option Value → Heap → Prop) : Prop :=
  ∃ s₂ o, Steps p.tables e below st s₂ ∧ s₂.status = .running ∧ Ended s₂ below o ∧ ∃ v L, o = .returned v ∧ (Fr n0 L ∧ Q v s₂.heap) ∧ FrameEnd s o s₂ L cells slots
theorem Out.mk {T : State} {locs : List Loc} {k n : Nat} {v : Option Value} {Q : Option Value → Heap → Prop} (X : Stand p l e R s m args below meth c T locs k n) (q1 : k ≤ cells) (q2 : n ≤ slots) (q3 : Fr n0 locs) (hQ : Q v T.heap) (hv : meth.sig.returnType = none → v = none) (hlk : meth.locks = false)
    (hst : ∀ fs : List Frame, (∀ (f : JFrame) (acts : List Action), f.method = m → f.locked = none → f.entered = [] → (doReturn e (T.setTop f) acts v).1 = T.setFrames fs) → Steps p.tables e below st (T.setFrames fs)) : Out p e below s st n0 cells slots Q := by
  obtain ⟨fs, hr, hrun, hended, hW, hsame⟩ := X.leave (v := v) hv hlk
  exact ⟨_, _, hst fs hr, hrun, hended, _, _, rfl, ⟨q3, hQ⟩, ⟨_, rfl⟩, hW, hsame.mono q1 q2⟩
theorem Sit.retI {z : Int32} {Q : Option Value → Heap → Prop} (h : Sit p l e R s m args below meth c bs st n0 cells slots P pc L (.int z :: S)) (hd : decode bs pc = .ok (.ireturn, 1)) (hret : meth.sig.returnType = some .int) (hlk : meth.locks = false) (hQ : ∀ hh, P hh → Q (some (.int z)) hh) : Out p e below s st n0 cells slots Q := by
  obtain ⟨T, locs, k, n, X, q1, q2, q3, q4, q5, hx, hby, q⟩ := h
  exact Out.mk X q1 q2 q3 (hQ _ q5) (fun h => by rw [hret] at h; cases h) hlk fun fs hr => q _ (Jvm.RoadKit.retI X hx hret (hb hby hd) hr)
theorem Sit.retZ {z : Int32} {Q : Option Value → Heap → Prop} (h : Sit p l e R s m args below meth c bs st n0 cells slots P pc L (.int z :: S)) (hd : decode bs pc = .ok (.ireturn, 1)) (hret : meth.sig.returnType = some .boolean) (hlk : meth.locks = false) (hQ : ∀ hh, P hh → Q (some (.int (z &&& 1))) hh) : Out p e below s st n0 cells slots Q := by
  obtain ⟨T, locs, k, n, X, q1, q2, q3, q4, q5, hx, hby, q⟩ := h
  exact Out.mk X q1 q2 q3 (hQ _ q5) (fun h => by rw [hret] at h; cases h) hlk fun fs hr => q _ (retN X hx (t := .boolean) hret (by simp) (hb hby hd) hr)
theorem Sit.retJ {z : Int64} {Q : Option Value → Heap → Prop} (h : Sit p l e R s m args below meth c bs st n0 cells slots P pc L [.long z]) (hd : decode bs pc = .ok (.lreturn, 1)) (hret : meth.sig.returnType = some .long) (hlk : meth.locks = false) (hQ : ∀ hh, P hh → Q (some (.long z)) hh) : Out p e below s st n0 cells slots Q := by
  obtain ⟨T, locs, k, n, X, q1, q2, q3, q4, q5, hx, hby, q⟩ := h
  exact Out.mk X q1 q2 q3 (hQ _ q5) (fun h => by rw [hret] at h; cases h) hlk fun fs hr => q _ (X.lreturnOut hx hret (hb hby hd) hr)
theorem Sit.retV {Q : Option Value → Heap → Prop} (h : Sit p l e R s m args below meth c bs st n0 cells slots P pc L []) (hd : decode bs pc = .ok (.return_, 1)) (hret : meth.sig.returnType = none) (hlk : meth.locks = false) (hQ : ∀ hh, P hh → Q none hh) : Out p e below s st n0 cells slots Q := by
  obtain ⟨T, locs, k, n, X, q1, q2, q3, q4, q5, hx, hby, q⟩ := h
  exact Out.mk X q1 q2 q3 (hQ _ q5) (fun _ => rfl) hlk fun fs hr => q _ (X.returnOut hx hret (hb hby hd) hr)
theorem Sit.retA {z : Addr} {t : FieldType} {Q : Option Value → Heap → Prop} (h : Sit p l e R s m args below meth c bs st n0 cells slots P pc L [.ref z]) (hd : decode bs pc = .ok (.areturn, 1)) (hret : meth.sig.returnType = some t) (ht : t.isReference = true) (hlk : meth.locks = false) (hQ : ∀ hh, P hh → Q (some (.ref z)) hh) : Out p e below s st n0 cells slots Q := by
  obtain ⟨T, locs, k, n, X, q1, q2, q3, q4, q5, hx, hby, q⟩ := h
  exact Out.mk X q1 q2 q3 (hQ _ q5) (fun h => by rw [hret] at h; cases h) hlk fun fs hr => q _ (X.areturnOut hx rfl hret ht (hb hby hd) hr)
/-! a method's contract -/
abbrev Met1 (l : Launch) (y : MethodName) (bytes : ByteArray) (maxL : Nat) (ret : Option FieldType) (ws : List Jvm.Cond) (rm : Room) (Z : State) (as : Array Value) (h0 : Heap) (n0 : Nat) (Q : Option Value → Heap → Prop) : Prop :=
  MetFree l y (head1 (Jvm.Cond.code y bytes maxL ret :: ws) rm) (fun a U => a = as ∧ Z.Warmed39 U.vm ∧ U.heap = h0) (fun _ _ _ _ _ => True) (fun _ U o U' => ∃ v L, o = .returned v ∧ (Fr n0 L ∧ Q v U'.heap) ∧ FrameEnd U o U' L rm.cells rm.slots)
theorem Met1.of {y : MethodName} {bytes : ByteArray} {maxL : Nat} {ret : Option FieldType} {ws : List Jvm.Cond} {rm : Room} {as : Array Value} {h0 : Heap} {Q : Option Value → Heap → Prop} {L0 : Array Slot} (hpn : plainFor y = true) (hef : ∀ m, entryFrame m as maxL = mkF m 0 L0 []) (Z0 : n0 ≤ h0.size)
    (body : ∀ p e s m below meth c st, Sit p l e rm s m as below meth c bytes st n0 0 0 (fun h => h = h0) 0 L0 [] → Z.Warmed39 s.vm → s.vm.findClass y.cls = some m.cls → meth.sig.returnType = ret → meth.locks = false → meth.name = y.name → c.maxLocals = maxL → Out p e below s st n0 rm.cells rm.slots Q) : Met1 l y bytes maxL ret ws rm Z as h0 n0 Q := by
  refine MetFree.of_bodySF hpn hisR ?_
  intro p e s m args below meth c s₁ Bd hml0 hP hK
  obtain ⟨rfl, hZ, hh⟩ := hP
  have e0 : s₁.heap = h0 := by rw [← hh, Bd.state]; rfl
  exact body p e s m below meth c _ ⟨s₁, [], 0, 0, Stand.of_body Bd, Nat.le_refl _, Nat.le_refl _, Fr.nil n0, by rw [hh]; exact Z0, e0, Bd.exec, Bd.bytes, fun t k => castTop (hef m) k⟩ hZ (findClass_of_methodNamed Bd.named) Bd.returns Bd.notSynchronized (name_of_methodNamed Bd.named Bd.method).1 hml0
theorem Met1.mono {y : MethodName} {bytes : ByteArray} {maxL : Nat} {ret : Option FieldType} {ws : List Jvm.Cond} {rm : Room} {as : Array Value} {h0 : Heap} {Q Q' : Option Value → Heap → Prop} (h : Met1 l y bytes maxL ret ws rm Z as h0 n0 Q) (f : ∀ v hh, Q v hh → Q' v hh) : Met1 l y bytes maxL ret ws rm Z as h0 n0 Q' := by
  intro p e ha hc hk s m args below hf happ hP hK
  obtain ⟨n, o, h1, h2, h3, v, L, h4, ⟨h5, h6⟩, h7⟩ := h p e ha hc hk s m args below hf happ hP hK
  exact ⟨n, o, h1, h2, h3, v, L, h4, ⟨h5, f _ _ h6⟩, h7⟩
/-! a static call by its contract -/
theorem Sit.callS {index : Nat} {y : MethodName} {bytes : ByteArray} {maxL maxO : Nat} {ret : Option FieldType} {rm : Room} {Q : Option Value → Heap → Prop} {W : Nat} (argsL rest : List Value) (h : Sit p l e R s m args below meth c bs st n0 cells slots P pc L (argsL.reverse ++ rest)) (hZ : Z.Warmed39 s.vm) (hown : s.vm.findClass own = some m.cls)
    (w1 : (Cond.methodLink own index y).before a0 Z = true) (w2 : (Cond.static y).before a0 Z = true) (w3 : (Cond.initialized y.cls).before a0 Z = true) (w4 : (Cond.code y bytes maxL ret).before a0 Z = true) (hy : y.cls ≠ "java/lang/invoke/MethodHandle" ∧ y.cls ≠ "java/lang/invoke/VarHandle")
    (hM : ∀ h0, P h0 → n0 ≤ h0.size → Met1 l y bytes maxL ret [] rm Z argsL.toArray h0 n0 Q) (hml : c.maxLocals = maxO) (hsz : L.size = maxO) (hlen : ∀ sig, parseMethodDescriptor y.desc = some sig → argsL.length = sig.parameters.length) (hd : decode bs pc = .ok (.invokestatic index, 3)) (hW : 2 * 0 + (rest.map fun v => v.category).sum ≤ W)
    (hf : rm.frames + 1 ≤ R.frames) (hl : W + (maxL + 11) + rm.locals ≤ R.locals) (hcl : cells + rm.cells ≤ R.cells) (hsl : slots + rm.slots ≤ R.slots) (hp : pc + 3 = pc') :
    ∃ v : Option Value, Sit p l e R s m args below meth c bs st n0 (cells + rm.cells) (slots + rm.slots) (fun hh => Q v hh) pc' L (v.toList ++ rest) := by
  subst hp
  obtain ⟨T, locs, k, n, X, q1, q2, q3, q4, q5, hx, hby, q⟩ := h
  obtain ⟨v, _, ⟨T2, L2, k2, n2⟩, -, X2, ⟨Lc2, ⟨hN2, hQ2⟩, l2, y2, z2⟩, st2⟩ := Jvm.LawKit.callS X hx (y := y) hown (mvT hZ w1) (mvT hZ w2) (mvT hZ w3) (mvT hZ w4) hy (backOf (W := W) (Q := fun v hh L => Fr n0 L ∧ Q v hh) (hM T.heap q5 (Nat.le_trans q4 X.same.2.1)) hZ w4 w3 hf hl) (g := mkF m pc L (argsL.reverse ++ rest)) rfl (by rw [hml]; exact hsz) (argsL := argsL) (rest := rest) hlen rfl hW (hb hby hd) (fun _ _ => ⟨rfl, rfl, Nat.le_trans (Nat.add_le_add_right q1 _) hcl, Nat.le_trans (Nat.add_le_add_right q2 _) hsl⟩)
  dsimp only [Pt.U, Pt.locs, Pt.cells, Pt.slots] at X2 l2 y2 z2 st2 hQ2
  subst l2 y2 z2
  exact ⟨v, T2, _, _, _, X2, Nat.add_le_add_right q1 _, Nat.add_le_add_right q2 _, Fr.app q3 hN2, q4, hQ2, hx, hby, fun t z => q t (st2 t z)⟩
end OwnKit

section OwnBits
theorem ushr64_bv (x : Int64) (y : Int32) : (ushr64 x y).toBitVec = x.toBitVec >>> (y.toBitVec.toNat % 64) := by
  have h1 : (y &&& 0x3f).toBitVec.toNat = y.toBitVec.toNat % 64 := by
    show (y.toBitVec &&& (0x3f : Int32).toBitVec).toNat = _
    rw [BitVec.toNat_and]
    show y.toBitVec.toNat &&& 63 = _
    exact Nat.and_two_pow_sub_one_eq_mod _ 6
  have h2 : (y &&& 0x3f).toInt64.toBitVec.toNat = y.toBitVec.toNat % 64 := by
    show ((y &&& 0x3f).toBitVec.signExtend 64).toNat = _
    have hm : (y &&& 0x3f).toBitVec.msb = false := by
      rw [BitVec.msb_eq_false_iff_two_mul_lt, h1]; omega
    rw [BitVec.signExtend_eq_setWidth_of_msb_false hm, BitVec.toNat_setWidth, h1]; omega
  show x.toBitVec >>> ((y &&& 0x3f).toInt64.toBitVec % 64) = _
  rw [BitVec.ushiftRight_eq', BitVec.toNat_umod, h2]
  show x.toBitVec >>> (y.toBitVec.toNat % 64 % 64) = _
  rw [Nat.mod_mod]
theorem shl64_bv (x : Int64) (y : Int32) : (shl64 x y).toBitVec = x.toBitVec <<< (y.toBitVec.toNat % 64) := by
  have h1 : (y &&& 0x3f).toBitVec.toNat = y.toBitVec.toNat % 64 := by
    show (y.toBitVec &&& (0x3f : Int32).toBitVec).toNat = _
    rw [BitVec.toNat_and]
    show y.toBitVec.toNat &&& 63 = _
    exact Nat.and_two_pow_sub_one_eq_mod _ 6
  have hm : (y &&& 0x3f).toBitVec.msb = false := by
    rw [BitVec.msb_eq_false_iff_two_mul_lt, h1]; omega
  have h2 : (y &&& 0x3f).toInt64.toBitVec.toNat = y.toBitVec.toNat % 64 := by
    show ((y &&& 0x3f).toBitVec.signExtend 64).toNat = _
    rw [BitVec.signExtend_eq_setWidth_of_msb_false hm, BitVec.toNat_setWidth, h1]; omega
  have h3 : (y &&& 0x3f).toInt64.toBitVec.msb = false := by
    rw [BitVec.msb_eq_false_iff_two_mul_lt, h2]; omega
  have h4 : ((y &&& 0x3f).toInt64.toBitVec.smod 64).toNat = y.toBitVec.toNat % 64 := by
    rw [BitVec.smod_eq, h3]
    show ((y &&& 0x3f).toInt64.toBitVec.umod 64).toNat = _
    rw [BitVec.umod_eq, BitVec.toNat_umod, h2]
    show y.toBitVec.toNat % 64 % 64 = _
    rw [Nat.mod_mod]
  show x.toBitVec <<< ((y &&& 0x3f).toInt64.toBitVec.smod 64) = _
  rw [BitVec.shiftLeft_eq', h4]
theorem ushr32_bv (x y : Int32) : (ushr32 x y).toBitVec = x.toBitVec >>> (y.toBitVec.toNat % 32) := by
  have h1 : (y &&& 31).toBitVec.toNat = y.toBitVec.toNat % 32 := by
    show (y.toBitVec &&& (31 : Int32).toBitVec).toNat = _
    rw [BitVec.toNat_and]
    show y.toBitVec.toNat &&& 31 = _
    exact Nat.and_two_pow_sub_one_eq_mod _ 5
  show x.toBitVec >>> ((y &&& 31).toBitVec % 32) = _
  rw [BitVec.ushiftRight_eq', BitVec.toNat_umod, h1]
  show x.toBitVec >>> (y.toBitVec.toNat % 32 % 32) = _
  rw [Nat.mod_mod]
theorem shl32_bv (x y : Int32) : (x <<< (y &&& 31)).toBitVec = x.toBitVec <<< (y.toBitVec.toNat % 32) := by
  show x.toBitVec <<< ((y &&& 31).toBitVec.smod 32) = _
  rw [BitVec.shiftLeft_eq', sm32 y _ rfl]
end OwnBits

section OwnXor
def nxA (x : Int32) : Int32 := x ^^^ (x <<< ((13 : Int32) &&& 31))
def nxB (x : Int32) : Int32 := x ^^^ ushr32 x (17 : Int32)
def nxC (x : Int32) : Int32 := x ^^^ (x <<< ((5 : Int32) &&& 31))
def un5 (x : Int32) : Int32 := ((((((x ^^^ (x <<< ((5 : Int32) &&& 31))) ^^^ (x <<< ((10 : Int32) &&& 31))) ^^^ (x <<< ((15 : Int32) &&& 31))) ^^^ (x <<< ((20 : Int32) &&& 31))) ^^^ (x <<< ((25 : Int32) &&& 31))) ^^^ (x <<< ((30 : Int32) &&& 31)))
def un17 (x : Int32) : Int32 := x ^^^ ushr32 x (17 : Int32)
def un13 (x : Int32) : Int32 := ((x ^^^ (x <<< ((13 : Int32) &&& 31))) ^^^ (x <<< ((26 : Int32) &&& 31)))
theorem bxor32 (u v : Int32) : (u ^^^ v).toBitVec = u.toBitVec ^^^ v.toBitVec := rfl
theorem sl32 (x y : Int32) (k : Nat) (h : y.toBitVec.toNat % 32 = k) : (x <<< (y &&& 31)).toBitVec = x.toBitVec <<< k := by rw [shl32_bv, h]
theorem sr32 (x y : Int32) (k : Nat) (h : y.toBitVec.toNat % 32 = k) : (ushr32 x y).toBitVec = x.toBitVec >>> k := by rw [ushr32_bv, h]
theorem tele7 (a b c d e f g : BitVec 32) : ((((((a ^^^ b) ^^^ (b ^^^ c)) ^^^ (c ^^^ d)) ^^^ (d ^^^ e)) ^^^ (e ^^^ f)) ^^^ (f ^^^ g)) ^^^ (g ^^^ 0#32) = a := by
  apply BitVec.eq_of_getLsbD_eq
  intro i hi
  simp only [BitVec.getLsbD_xor, BitVec.getLsbD_zero]
  generalize a.getLsbD i = a
  generalize b.getLsbD i = b
  generalize c.getLsbD i = c
  generalize d.getLsbD i = d
  generalize e.getLsbD i = e
  generalize f.getLsbD i = f
  generalize g.getLsbD i = g
  revert a b c d e f g
  decide
theorem un5_nxC (x : Int32) : un5 (nxC x) = x := by
  apply Int32.toBitVec_inj.mp
  unfold un5 nxC
  simp only [bxor32]
  rw [sl32 _ 5 5 (by decide), sl32 _ 5 5 (by decide), sl32 _ 10 10 (by decide), sl32 _ 15 15 (by decide), sl32 _ 20 20 (by decide), sl32 _ 25 25 (by decide), sl32 _ 30 30 (by decide)]
  simp only [bxor32]
  rw [sl32 _ 5 5 (by decide)]
  generalize x.toBitVec = y
  simp only [BitVec.shiftLeft_xor_distrib, ← BitVec.shiftLeft_add]
  have z : y <<< (5 + 30) = 0#32 := BitVec.shiftLeft_eq_zero (by decide)
  rw [z]
  exact tele7 y (y <<< 5) (y <<< 10) (y <<< 15) (y <<< 20) (y <<< 25) (y <<< 30)
theorem un17_nxB (x : Int32) : un17 (nxB x) = x := by
  apply Int32.toBitVec_inj.mp
  unfold un17 nxB
  rw [bxor32, sr32 _ 17 17 (by decide), bxor32, sr32 _ 17 17 (by decide)]
  generalize x.toBitVec = y
  apply BitVec.eq_of_getLsbD_eq
  intro i hi
  simp only [BitVec.getLsbD_xor, BitVec.getLsbD_ushiftRight]
  rw [BitVec.getLsbD_of_ge y (17 + (17 + i)) (by omega)]
  cases y.getLsbD i <;> cases y.getLsbD (17 + i) <;> rfl
theorem un13_nxA (x : Int32) : un13 (nxA x) = x := by
  apply Int32.toBitVec_inj.mp
  unfold un13 nxA
  simp only [bxor32]
  rw [sl32 _ 13 13 (by decide), sl32 _ 13 13 (by decide), sl32 _ 26 26 (by decide)]
  simp only [bxor32]
  rw [sl32 _ 13 13 (by decide)]
  generalize x.toBitVec = y
  simp only [BitVec.shiftLeft_xor_distrib, ← BitVec.shiftLeft_add]
  have z : y <<< (13 + 26) = 0#32 := BitVec.shiftLeft_eq_zero (by decide)
  rw [z]
  show ((y ^^^ y <<< 13) ^^^ (y <<< 13 ^^^ y <<< 26)) ^^^ (y <<< 26 ^^^ 0#32) = y
  generalize y <<< 13 = b
  generalize y <<< 26 = c
  apply BitVec.eq_of_getLsbD_eq
  intro i hi
  simp only [BitVec.getLsbD_xor, BitVec.getLsbD_zero]
  cases y.getLsbD i <;> cases b.getLsbD i <;> cases c.getLsbD i <;> rfl
theorem un_nx (x : Int32) : un13 (un17 (un5 (nxC (nxB (nxA x))))) = x := by rw [un5_nxC, un17_nxB, un13_nxA]
theorem nx_ne (x : Int32) (h : ¬ x = 0) : ¬ nxC (nxB (nxA x)) = 0 := fun q => h (by
  have e := un_nx x
  rw [q] at e
  rw [← e]; decide)
end OwnXor


def sdA (x y : Int32) : Int64 := shl64 x.toInt64 (32 : Int32) ||| (y.toInt64 &&& (4294967295 : Int64))
def sdB (z : Int64) : Int64 := (z + (1 : Int64)) * (-7046029254386353131 : Int64)
def sdC (z : Int64) : Int64 := (z ^^^ ushr64 z (30 : Int32)) * (-4658895280553007687 : Int64)
def sdD (z : Int64) : Int64 := (z ^^^ ushr64 z (27 : Int32)) * (-7723592293110705685 : Int64)
def sdE (z : Int64) : Int32 := (z ^^^ ushr64 z (31 : Int32)).toInt32
def sd0 (x y : Int32) : Int32 := sdE (sdD (sdC (sdB (sdA x y))))
def sd (x y : Int32) : Int32 := if sd0 x y = 0 then 1 else sd0 x y
theorem sd_ne (x y : Int32) : ¬ sd x y = 0 := by
  unfold sd
  split
  · decide
  · assumption

theorem pn_rm1 : plainName "com/example/cordon_mutex/cordonmutex/bench/XorShift" = true := by first | (simp [plainName, overriddenIn]; done) | decide +kernel
theorem d1_0 : decode prog_56_method_4_code 0 = .ok (.iload_n 0, 1) := by decide +kernel
theorem d1_1 : decode prog_56_method_4_code 1 = .ok (.i2l, 1) := by decide +kernel
theorem d1_2 : decode prog_56_method_4_code 2 = .ok (.bipush 32, 2) := by decide +kernel
theorem d1_4 : decode prog_56_method_4_code 4 = .ok (.lshl, 1) := by decide +kernel
theorem d1_5 : decode prog_56_method_4_code 5 = .ok (.iload_n 1, 1) := by decide +kernel
theorem d1_6 : decode prog_56_method_4_code 6 = .ok (.i2l, 1) := by decide +kernel
theorem d1_7 : decode prog_56_method_4_code 7 = .ok (.ldc2_w 13, 3) := by decide +kernel
theorem d1_10 : decode prog_56_method_4_code 10 = .ok (.land, 1) := by decide +kernel
theorem d1_11 : decode prog_56_method_4_code 11 = .ok (.lor, 1) := by decide +kernel
theorem d1_12 : decode prog_56_method_4_code 12 = .ok (.lstore_n 2, 1) := by decide +kernel
theorem d1_13 : decode prog_56_method_4_code 13 = .ok (.lload_n 2, 1) := by decide +kernel
theorem d1_14 : decode prog_56_method_4_code 14 = .ok (.lconst 1, 1) := by decide +kernel
theorem d1_15 : decode prog_56_method_4_code 15 = .ok (.ladd, 1) := by decide +kernel
theorem d1_16 : decode prog_56_method_4_code 16 = .ok (.ldc2_w 15, 3) := by decide +kernel
theorem d1_19 : decode prog_56_method_4_code 19 = .ok (.lmul, 1) := by decide +kernel
theorem d1_20 : decode prog_56_method_4_code 20 = .ok (.lstore 4, 2) := by decide +kernel
theorem d1_22 : decode prog_56_method_4_code 22 = .ok (.lload 4, 2) := by decide +kernel
theorem d1_24 : decode prog_56_method_4_code 24 = .ok (.lload 4, 2) := by decide +kernel
theorem d1_26 : decode prog_56_method_4_code 26 = .ok (.bipush 30, 2) := by decide +kernel
theorem d1_28 : decode prog_56_method_4_code 28 = .ok (.lushr, 1) := by decide +kernel
theorem d1_29 : decode prog_56_method_4_code 29 = .ok (.lxor, 1) := by decide +kernel
theorem d1_30 : decode prog_56_method_4_code 30 = .ok (.ldc2_w 17, 3) := by decide +kernel
theorem d1_33 : decode prog_56_method_4_code 33 = .ok (.lmul, 1) := by decide +kernel
theorem d1_34 : decode prog_56_method_4_code 34 = .ok (.lstore 4, 2) := by decide +kernel
theorem d1_36 : decode prog_56_method_4_code 36 = .ok (.lload 4, 2) := by decide +kernel
theorem d1_38 : decode prog_56_method_4_code 38 = .ok (.lload 4, 2) := by decide +kernel
theorem d1_40 : decode prog_56_method_4_code 40 = .ok (.bipush 27, 2) := by decide +kernel
theorem d1_42 : decode prog_56_method_4_code 42 = .ok (.lushr, 1) := by decide +kernel
theorem d1_43 : decode prog_56_method_4_code 43 = .ok (.lxor, 1) := by decide +kernel
theorem d1_44 : decode prog_56_method_4_code 44 = .ok (.ldc2_w 19, 3) := by decide +kernel
theorem d1_47 : decode prog_56_method_4_code 47 = .ok (.lmul, 1) := by decide +kernel
theorem d1_48 : decode prog_56_method_4_code 48 = .ok (.lstore 4, 2) := by decide +kernel
theorem d1_50 : decode prog_56_method_4_code 50 = .ok (.lload 4, 2) := by decide +kernel
theorem d1_52 : decode prog_56_method_4_code 52 = .ok (.lload 4, 2) := by decide +kernel
theorem d1_54 : decode prog_56_method_4_code 54 = .ok (.bipush 31, 2) := by decide +kernel
theorem d1_56 : decode prog_56_method_4_code 56 = .ok (.lushr, 1) := by decide +kernel
theorem d1_57 : decode prog_56_method_4_code 57 = .ok (.lxor, 1) := by decide +kernel
theorem d1_58 : decode prog_56_method_4_code 58 = .ok (.l2i, 1) := by decide +kernel
theorem d1_59 : decode prog_56_method_4_code 59 = .ok (.istore 6, 2) := by decide +kernel
theorem d1_61 : decode prog_56_method_4_code 61 = .ok (.iload 6, 2) := by decide +kernel
theorem d1_63 : decode prog_56_method_4_code 63 = .ok (.ifCond .ne 7, 3) := by decide +kernel
theorem d1_66 : decode prog_56_method_4_code 66 = .ok (.iconst 1, 1) := by decide +kernel
theorem d1_67 : decode prog_56_method_4_code 67 = .ok (.goto 5, 3) := by decide +kernel
theorem d1_70 : decode prog_56_method_4_code 70 = .ok (.iload 6, 2) := by decide +kernel
theorem d1_72 : decode prog_56_method_4_code 72 = .ok (.ireturn, 1) := by decide +kernel
theorem ef_rm1 (m : MethodId) (q : Int32) (u : Int32) : entryFrame m #[(.int q), (.int u)] 7 = mkF m 0 #[.val (.int q), .val (.int u), .unset, .unset, .unset, .unset, .unset] [] := by first | (simp [entryFrame, mkF, argsToLocals, Value.category]; done) | rfl
set_option maxRecDepth 65536 in
set_option maxHeartbeats 40000000 in
theorem rm1 (l : Launch) (Z : State) (a0 : Array Value) (hw : ∀ d ∈ tables_1, d.before a0 Z = true) (wcs : List Jvm.Cond) (q : Int32) (u : Int32)  (h0 : Heap) (n0 : Nat) (Z0 : n0 ≤ h0.size)  : Met1 l (⟨"com/example/cordon_mutex/cordonmutex/bench/XorShift", "seed", "(II)I"⟩ : MethodName) prog_56_method_4_code 7 (some .int) wcs ({ frames := 0, cells := 0, slots := 0, locals := 0 } : Room) Z #[(.int q), (.int u)] h0 n0 (fun v hh => v = some (.int (sd q u)) ∧ hh = h0) := by
  refine Met1.of (L0 := #[.val (.int q), .val (.int u), .unset, .unset, .unset, .unset, .unset]) (plainFor_of_name pn_rm1) (fun m => ef_rm1 m q u) Z0 ?_
  intro p e s m below meth c st s0 hZ hown hret hlk hnm hml
  have s1 : Sit p l e _ s m _ below meth c _ st n0 0 0 _ 12 #[.val (.int q), .val (.int u), .unset, .unset, .unset, .unset, .unset] [(.long ((shl64 q.toInt64 (32 : Int32)) ||| (u.toInt64 &&& (4294967295 : Int64))))] := s0
    |>.iloadN d1_0 rfl rfl
    |>.i2l d1_1 rfl
    |>.bipush (32 : Int32) d1_2 rfl rfl
    |>.lshl d1_4 rfl
    |>.iloadN d1_5 rfl rfl
    |>.i2l d1_6 rfl
    |>.ldc2 hZ hown (wi hw 4 rfl) d1_7 rfl
    |>.land d1_10 rfl
    |>.lor d1_11 rfl
  obtain ⟨a, e_a, s2⟩ : ∃ a : Int64, a = ((shl64 q.toInt64 (32 : Int32)) ||| (u.toInt64 &&& (4294967295 : Int64))) ∧ Sit p l e _ s m _ below meth c _ st n0 0 0 _ 12 #[.val (.int q), .val (.int u), .unset, .unset, .unset, .unset, .unset] [(.long a)] := ⟨_, rfl, s1⟩
  have s3 : Sit p l e _ s m _ below meth c _ st n0 0 0 _ 20 #[.val (.int q), .val (.int u), .val (.long a), .second, .unset, .unset, .unset] [(.long ((a + (1 : Int64)) * (-7046029254386353131 : Int64)))] := s2
    |>.lstoreN #[.val (.int q), .val (.int u), .val (.long a), .second, .unset, .unset, .unset] d1_12 rfl rfl
    |>.lloadN d1_13 rfl rfl
    |>.lconst (1 : Int64) d1_14 rfl rfl
    |>.ladd d1_15 rfl
    |>.ldc2 hZ hown (wi hw 5 rfl) d1_16 rfl
    |>.lmul d1_19 rfl
  obtain ⟨b, e_b, s4⟩ : ∃ b : Int64, b = ((a + (1 : Int64)) * (-7046029254386353131 : Int64)) ∧ Sit p l e _ s m _ below meth c _ st n0 0 0 _ 20 #[.val (.int q), .val (.int u), .val (.long a), .second, .unset, .unset, .unset] [(.long b)] := ⟨_, rfl, s3⟩
  have s5 : Sit p l e _ s m _ below meth c _ st n0 0 0 _ 34 #[.val (.int q), .val (.int u), .val (.long a), .second, .val (.long b), .second, .unset] [(.long ((b ^^^ (ushr64 b (30 : Int32))) * (-4658895280553007687 : Int64)))] := s4
    |>.lstore #[.val (.int q), .val (.int u), .val (.long a), .second, .val (.long b), .second, .unset] d1_20 rfl rfl
    |>.lload d1_22 rfl rfl
    |>.lload d1_24 rfl rfl
    |>.bipush (30 : Int32) d1_26 rfl rfl
    |>.lushr d1_28 rfl
    |>.lxor d1_29 rfl
    |>.ldc2 hZ hown (wi hw 6 rfl) d1_30 rfl
    |>.lmul d1_33 rfl
  obtain ⟨d, e_d, s6⟩ : ∃ d : Int64, d = ((b ^^^ (ushr64 b (30 : Int32))) * (-4658895280553007687 : Int64)) ∧ Sit p l e _ s m _ below meth c _ st n0 0 0 _ 34 #[.val (.int q), .val (.int u), .val (.long a), .second, .val (.long b), .second, .unset] [(.long d)] := ⟨_, rfl, s5⟩
  have s7 : Sit p l e _ s m _ below meth c _ st n0 0 0 _ 48 #[.val (.int q), .val (.int u), .val (.long a), .second, .val (.long d), .second, .unset] [(.long ((d ^^^ (ushr64 d (27 : Int32))) * (-7723592293110705685 : Int64)))] := s6
    |>.lstore #[.val (.int q), .val (.int u), .val (.long a), .second, .val (.long d), .second, .unset] d1_34 rfl rfl
    |>.lload d1_36 rfl rfl
    |>.lload d1_38 rfl rfl
    |>.bipush (27 : Int32) d1_40 rfl rfl
    |>.lushr d1_42 rfl
    |>.lxor d1_43 rfl
    |>.ldc2 hZ hown (wi hw 7 rfl) d1_44 rfl
    |>.lmul d1_47 rfl
  obtain ⟨f, e_f, s8⟩ : ∃ f : Int64, f = ((d ^^^ (ushr64 d (27 : Int32))) * (-7723592293110705685 : Int64)) ∧ Sit p l e _ s m _ below meth c _ st n0 0 0 _ 48 #[.val (.int q), .val (.int u), .val (.long a), .second, .val (.long d), .second, .unset] [(.long f)] := ⟨_, rfl, s7⟩
  have s9 : Sit p l e _ s m _ below meth c _ st n0 0 0 _ 59 #[.val (.int q), .val (.int u), .val (.long a), .second, .val (.long f), .second, .unset] [(.int (f ^^^ (ushr64 f (31 : Int32))).toInt32)] := s8
    |>.lstore #[.val (.int q), .val (.int u), .val (.long a), .second, .val (.long f), .second, .unset] d1_48 rfl rfl
    |>.lload d1_50 rfl rfl
    |>.lload d1_52 rfl rfl
    |>.bipush (31 : Int32) d1_54 rfl rfl
    |>.lushr d1_56 rfl
    |>.lxor d1_57 rfl
    |>.l2i d1_58 rfl
  obtain ⟨g, e_g, s10⟩ : ∃ g : Int32, g = (f ^^^ (ushr64 f (31 : Int32))).toInt32 ∧ Sit p l e _ s m _ below meth c _ st n0 0 0 _ 59 #[.val (.int q), .val (.int u), .val (.long a), .second, .val (.long f), .second, .unset] [(.int g)] := ⟨_, rfl, s9⟩
  have s11 : Sit p l e _ s m _ below meth c _ st n0 0 0 _ 63 #[.val (.int q), .val (.int u), .val (.long a), .second, .val (.long f), .second, .val (.int g)] [(.int g)] := s10
    |>.istore #[.val (.int q), .val (.int u), .val (.long a), .second, .val (.long f), .second, .val (.int g)] d1_59 rfl rfl
    |>.iload d1_61 rfl rfl
  have eg : g = sd0 q u := by subst e_g e_f e_d e_b e_a; rfl
  by_cases c0 : ¬ g = 0
  · have s13 : Sit p l e _ s m _ below meth c _ st n0 0 0 _ 72 #[.val (.int q), .val (.int u), .val (.long a), .second, .val (.long f), .second, .val (.int g)] [(.int g)] := s11
      |>.ifY d1_63 (neT c0) (by decide) (by decide)
      |>.iload d1_70 rfl rfl
    exact s13.retI d1_72 hret hlk (fun hh q => ⟨by rw [sd, if_neg (eg ▸ c0), eg], q⟩)
  · have s12 : Sit p l e _ s m _ below meth c _ st n0 0 0 _ 72 #[.val (.int q), .val (.int u), .val (.long a), .second, .val (.long f), .second, .val (.int g)] [(.int (1 : Int32))] := s11
      |>.ifN d1_63 ((neF (Classical.not_not.mp c0))) rfl
      |>.iconst (1 : Int32) d1_66 rfl rfl
      |>.goto d1_67 (by decide) (by decide)
    exact s12.retI d1_72 hret hlk (fun hh q => ⟨by rw [sd, if_pos (eg ▸ Classical.not_not.mp c0)], q⟩)
theorem pn_rm2 : plainName "com/example/cordon_mutex/cordonmutex/bench/XorShift" = true := by first | (simp [plainName, overriddenIn]; done) | decide +kernel
theorem d2_0 : decode prog_56_method_2_code 0 = .ok (.iload_n 0, 1) := by decide +kernel
theorem d2_1 : decode prog_56_method_2_code 1 = .ok (.iload_n 0, 1) := by decide +kernel
theorem d2_2 : decode prog_56_method_2_code 2 = .ok (.bipush 13, 2) := by decide +kernel
theorem d2_4 : decode prog_56_method_2_code 4 = .ok (.ishl, 1) := by decide +kernel
theorem d2_5 : decode prog_56_method_2_code 5 = .ok (.ixor, 1) := by decide +kernel
theorem d2_6 : decode prog_56_method_2_code 6 = .ok (.istore_n 1, 1) := by decide +kernel
theorem d2_7 : decode prog_56_method_2_code 7 = .ok (.iload_n 1, 1) := by decide +kernel
theorem d2_8 : decode prog_56_method_2_code 8 = .ok (.iload_n 1, 1) := by decide +kernel
theorem d2_9 : decode prog_56_method_2_code 9 = .ok (.bipush 17, 2) := by decide +kernel
theorem d2_11 : decode prog_56_method_2_code 11 = .ok (.iushr, 1) := by decide +kernel
theorem d2_12 : decode prog_56_method_2_code 12 = .ok (.ixor, 1) := by decide +kernel
theorem d2_13 : decode prog_56_method_2_code 13 = .ok (.istore_n 1, 1) := by decide +kernel
theorem d2_14 : decode prog_56_method_2_code 14 = .ok (.iload_n 1, 1) := by decide +kernel
theorem d2_15 : decode prog_56_method_2_code 15 = .ok (.iload_n 1, 1) := by decide +kernel
theorem d2_16 : decode prog_56_method_2_code 16 = .ok (.iconst 5, 1) := by decide +kernel
theorem d2_17 : decode prog_56_method_2_code 17 = .ok (.ishl, 1) := by decide +kernel
theorem d2_18 : decode prog_56_method_2_code 18 = .ok (.ixor, 1) := by decide +kernel
theorem d2_19 : decode prog_56_method_2_code 19 = .ok (.ireturn, 1) := by decide +kernel
theorem ef_rm2 (m : MethodId) (q : Int32) : entryFrame m #[(.int q)] 2 = mkF m 0 #[.val (.int q), .unset] [] := by first | (simp [entryFrame, mkF, argsToLocals, Value.category]; done) | rfl
set_option maxRecDepth 65536 in
set_option maxHeartbeats 40000000 in
theorem rm2 (l : Launch) (Z : State) (a0 : Array Value) (hw : ∀ d ∈ tables_1, d.before a0 Z = true) (wcs : List Jvm.Cond) (q : Int32)  (h0 : Heap) (n0 : Nat) (Z0 : n0 ≤ h0.size)  : Met1 l (⟨"com/example/cordon_mutex/cordonmutex/bench/XorShift", "next", "(I)I"⟩ : MethodName) prog_56_method_2_code 2 (some .int) wcs ({ frames := 0, cells := 0, slots := 0, locals := 0 } : Room) Z #[(.int q)] h0 n0 (fun v hh => v = some (.int (nxC (nxB (nxA q)))) ∧ hh = h0) := by
  refine Met1.of (L0 := #[.val (.int q), .unset]) (plainFor_of_name pn_rm2) (fun m => ef_rm2 m q) Z0 ?_
  intro p e s m below meth c st s0 hZ hown hret hlk hnm hml
  have s1 : Sit p l e _ s m _ below meth c _ st n0 0 0 _ 6 #[.val (.int q), .unset] [(.int (q ^^^ (q <<< ((13 : Int32) &&& 31))))] := s0
    |>.iloadN d2_0 rfl rfl
    |>.iloadN d2_1 rfl rfl
    |>.bipush (13 : Int32) d2_2 rfl rfl
    |>.ishl d2_4 rfl
    |>.ixor d2_5 rfl
  obtain ⟨a, e_a, s2⟩ : ∃ a : Int32, a = (q ^^^ (q <<< ((13 : Int32) &&& 31))) ∧ Sit p l e _ s m _ below meth c _ st n0 0 0 _ 6 #[.val (.int q), .unset] [(.int a)] := ⟨_, rfl, s1⟩
  have s3 : Sit p l e _ s m _ below meth c _ st n0 0 0 _ 13 #[.val (.int q), .val (.int a)] [(.int (a ^^^ (ushr32 a (17 : Int32))))] := s2
    |>.istoreN #[.val (.int q), .val (.int a)] d2_6 rfl rfl
    |>.iloadN d2_7 rfl rfl
    |>.iloadN d2_8 rfl rfl
    |>.bipush (17 : Int32) d2_9 rfl rfl
    |>.iushr d2_11 rfl
    |>.ixor d2_12 rfl
  obtain ⟨b, e_b, s4⟩ : ∃ b : Int32, b = (a ^^^ (ushr32 a (17 : Int32))) ∧ Sit p l e _ s m _ below meth c _ st n0 0 0 _ 13 #[.val (.int q), .val (.int a)] [(.int b)] := ⟨_, rfl, s3⟩
  have s5 : Sit p l e _ s m _ below meth c _ st n0 0 0 _ 19 #[.val (.int q), .val (.int b)] [(.int (b ^^^ (b <<< ((5 : Int32) &&& 31))))] := s4
    |>.istoreN #[.val (.int q), .val (.int b)] d2_13 rfl rfl
    |>.iloadN d2_14 rfl rfl
    |>.iloadN d2_15 rfl rfl
    |>.iconst (5 : Int32) d2_16 rfl rfl
    |>.ishl d2_17 rfl
    |>.ixor d2_18 rfl
  subst e_b e_a
  exact s5.retI d2_19 hret hlk (fun hh q => ⟨rfl, q⟩)
theorem pd_0 : parseMethodDescriptor "(II)I" = some ⟨[.int, .int], some .int⟩ := by decide +kernel
theorem pd_1 : parseMethodDescriptor "(I)I" = some ⟨[.int], some .int⟩ := by decide +kernel
theorem pn_rm0 : plainName "com/example/cordon_mutex/cordonmutex/bench/XorShiftSeedPinLaw" = true := by first | (simp [plainName, overriddenIn]; done) | decide +kernel
theorem ef_rm0 (m : MethodId) (q : Int32) (u : Int32) : entryFrame m #[(.int q), (.int u)] maxLocals = mkF m 0 #[.val (.int q), .val (.int u), .unset, .unset] [] := by first | (simp [entryFrame, mkF, argsToLocals, Value.category, maxLocals]; done) | rfl
set_option maxRecDepth 65536 in
set_option maxHeartbeats 40000000 in
theorem rm0 (l : Launch) (Z : State) (a0 : Array Value) (hw : ∀ d ∈ tables_1, d.before a0 Z = true) (wcs : List Jvm.Cond) (q : Int32) (u : Int32)  (h0 : Heap) (n0 : Nat) (Z0 : n0 ≤ h0.size)  : Met1 l x code maxLocals ret wcs room_1 Z #[(.int q), (.int u)] h0 n0 (fun v hh => v = some (.int 1)) := by
  refine Met1.of (L0 := #[.val (.int q), .val (.int u), .unset, .unset]) (plainFor_of_name pn_rm0) (fun m => ef_rm0 m q u) Z0 ?_
  intro p e s m below meth c st s0 hZ hown hret hlk hnm hml
  have hown : s.vm.findClass "com/example/cordon_mutex/cordonmutex/bench/XorShiftSeedPinLaw" = some m.cls := hown
  have hret : meth.sig.returnType = some .boolean := hret
  have hml : c.maxLocals = 4 := hml
  have s1 : Sit p l e _ s m _ below meth c _ st n0 0 0 _ 2 #[.val (.int q), .val (.int u), .unset, .unset] [(.int u), (.int q)] := s0
    |>.iloadN at_0 rfl rfl
    |>.iloadN at_1 rfl rfl
  obtain ⟨r3, s2⟩ := Sit.callS (y := (⟨"com/example/cordon_mutex/cordonmutex/bench/XorShift", "seed", "(II)I"⟩ : MethodName)) (W := 0) (Q := fun v hh => (v = some (.int (sd q u))) ∧ (fun hh => hh = h0) hh) [(.int q), (.int u)] [] s1 hZ hown (wi hw 0 rfl) (wi hw 1 rfl) (wi hw 2 rfl) (wi hw 3 rfl) (by decide) (fun h1 hP hn => (rm1 l Z a0 hw [] q u h1 n0 hn).mono fun v hh q => ⟨q.1, q.2 ▸ hP⟩) hml rfl (lenOf pd_0 rfl) at_2 (Nat.le_of_eq rfl) (by decide) (by decide) (by decide) (by decide) (pc' := 5) rfl
  obtain ⟨_, er3, _⟩ := s2.facts
  subst er3
  have s4 : Sit p l e _ s m _ below meth c _ st n0 0 0 (fun hh => hh = h0) 5 #[.val (.int q), .val (.int u), .unset, .unset] [(.int (sd q u))] := s2.mono fun _ q => q.2
  have s5 : Sit p l e _ s m _ below meth c _ st n0 0 0 _ 8 #[.val (.int q), .val (.int u), .val (.int (sd q u)), .unset] [(.int u), (.int q)] := s4
    |>.istoreN #[.val (.int q), .val (.int u), .val (.int (sd q u)), .unset] at_5 rfl rfl
    |>.iloadN at_6 rfl rfl
    |>.iloadN at_7 rfl rfl
  obtain ⟨r7, s6⟩ := Sit.callS (y := (⟨"com/example/cordon_mutex/cordonmutex/bench/XorShift", "seed", "(II)I"⟩ : MethodName)) (W := 0) (Q := fun v hh => (v = some (.int (sd q u))) ∧ (fun hh => hh = h0) hh) [(.int q), (.int u)] [] s5 hZ hown (wi hw 0 rfl) (wi hw 1 rfl) (wi hw 2 rfl) (wi hw 3 rfl) (by decide) (fun h1 hP hn => (rm1 l Z a0 hw [] q u h1 n0 hn).mono fun v hh q => ⟨q.1, q.2 ▸ hP⟩) hml rfl (lenOf pd_0 rfl) at_8 (Nat.le_of_eq rfl) (by decide) (by decide) (by decide) (by decide) (pc' := 11) rfl
  obtain ⟨_, er7, _⟩ := s6.facts
  subst er7
  have s8 : Sit p l e _ s m _ below meth c _ st n0 0 0 (fun hh => hh = h0) 11 #[.val (.int q), .val (.int u), .val (.int (sd q u)), .unset] [(.int (sd q u))] := s6.mono fun _ q => q.2
  have s9 : Sit p l e _ s m _ below meth c _ st n0 0 0 _ 13 #[.val (.int q), .val (.int u), .val (.int (sd q u)), .val (.int (sd q u))] [(.int (sd q u))] := s8
    |>.istoreN #[.val (.int q), .val (.int u), .val (.int (sd q u)), .val (.int (sd q u))] at_11 rfl rfl
    |>.iloadN at_12 rfl rfl
  have s10 : Sit p l e _ s m _ below meth c _ st n0 0 0 _ 18 #[.val (.int q), .val (.int u), .val (.int (sd q u)), .val (.int (sd q u))] [(.int (sd q u)), (.int (sd q u))] := s9
    |>.ifN at_13 (eqF (sd_ne q u)) rfl
    |>.iloadN at_16 rfl rfl
    |>.iloadN at_17 rfl rfl
  have s11 : Sit p l e _ s m _ below meth c _ st n0 0 0 _ 22 #[.val (.int q), .val (.int u), .val (.int (sd q u)), .val (.int (sd q u))] [(.int (sd q u))] := s10
    |>.icmpN at_18 ((neF (Classical.not_not.mp (fun h => h rfl)))) rfl
    |>.iloadN at_21 rfl rfl
  obtain ⟨r13, s12⟩ := Sit.callS (y := (⟨"com/example/cordon_mutex/cordonmutex/bench/XorShift", "next", "(I)I"⟩ : MethodName)) (W := 0) (Q := fun v hh => (v = some (.int (nxC (nxB (nxA (sd q u)))))) ∧ (fun hh => hh = h0) hh) [(.int (sd q u))] [] s11 hZ hown (wi hw 8 rfl) (wi hw 9 rfl) (wi hw 2 rfl) (wi hw 10 rfl) (by decide) (fun h1 hP hn => (rm2 l Z a0 hw [] (sd q u) h1 n0 hn).mono fun v hh q => ⟨q.1, q.2 ▸ hP⟩) hml rfl (lenOf pd_1 rfl) at_22 (Nat.le_of_eq rfl) (by decide) (by decide) (by decide) (by decide) (pc' := 25) rfl
  obtain ⟨_, er13, _⟩ := s12.facts
  subst er13
  have s14 : Sit p l e _ s m _ below meth c _ st n0 0 0 (fun hh => hh = h0) 25 #[.val (.int q), .val (.int u), .val (.int (sd q u)), .val (.int (sd q u))] [(.int (nxC (nxB (nxA (sd q u)))))] := s12.mono fun _ q => q.2
  have s15 : Sit p l e _ s m _ below meth c _ st n0 0 0 _ 33 #[.val (.int q), .val (.int u), .val (.int (sd q u)), .val (.int (sd q u))] [(.int (1 : Int32))] := s14
    |>.ifN at_25 (eqF (nx_ne _ (sd_ne q u))) rfl
    |>.iconst (1 : Int32) at_28 rfl rfl
    |>.goto at_29 (by decide) (by decide)
  exact s15.retZ at_33 hret hlk (fun hh q => rfl)
set_option maxRecDepth 65536 in
set_option maxHeartbeats 40000000 in
theorem comes_1 {Post : Tables → Env → Array Value → State → Outcome → State → Prop} (hpost : ∀ tb e args s v u, (limb_1_1.after args s (.returned v) u = true ∧ limb_1_2.after args s (.returned v) u = true ∧ True) → FrameEnd s (.returned v) u (Jvm.fieldLocs frame_1_writes args s ++ Jvm.arrayLocs frame_1_arrays args s ++ Jvm.staticLocs frame_1_statics s) 0 0 → Post tb e args s (.returned v) u) :
    ArmFor flags0 classFile x code maxLocals ret World_1 tables_1 room_1 Calls_1 rest_1 Pre_1 Post := by
  intro l hfl _ _ p e ha hc hk s m args below hf hA hF happ hP
  obtain ⟨hcalls, hrest, hpre⟩ := hP
  obtain ⟨-, -, -, hnamed, -, -, -, hat⟩ := (Spec.applies_iff hf).mp happ
  obtain ⟨hg, hn⟩ := and_e (Cond.before_iff.mp (show (Jvm.Cond.and given_1 narrow_1).before args s = true from hpre))
  obtain ⟨g0, q0⟩ := and_e hg
  obtain ⟨g1, q1⟩ := and_e q0
  obtain ⟨w0, w1, rfl⟩ : ∃ w0 w1 : Value, args = #[w0, w1] := by
    have hs : args.size = 2 := by simpa [Cond.value, given_1] using g0
    obtain ⟨L⟩ := args
    match L, hs with
    | [w0, w1], _ => exact ⟨w0, w1, rfl⟩
  have hw := fun d (hd : d ∈ tables_1) => atoms_spec (ws := Jvm.Cond.code x code maxLocals ret :: tables_1) hat d (List.mem_cons_of_mem _ hd)
  obtain ⟨i0, ei0⟩ := is_v g1
  obtain rfl : w0 = (.int i0) := Option.some.inj ei0
  obtain ⟨i1, ei1⟩ := is_v q1
  obtain rfl : w1 = (.int i1) := Option.some.inj ei1
  obtain ⟨n, o, h1, h2, h3, _, L, rfl, ⟨N, rfl⟩, hq⟩ := rm0 l s _ hw tables_1 i0 i1 s.heap s.heap.size (Nat.le_refl _) p e ha hc hk s m _ below hf ((Spec.applies_iff_loose hf).mp happ).1 ⟨rfl, State.Warmed39.refl s, rfl⟩ trivial
  refine ⟨n, _, h1, h2, h3, hpost _ _ _ _ _ _ ⟨Cond.after_iff.mpr rfl, Cond.after_iff.mpr (eq_i res_at (Term.int_eval (1)) rfl), trivial⟩ ⟨hq.1, hq.2.1, (hq.2.2.sift fun y hy => Or.inr (N y hy)).mono (by decide) (by decide)⟩⟩
theorem main_1_1 : Claimed_1_1 := comes_1 fun _ _ _ _ _ _ h hF => ⟨h.1, hF⟩
theorem main_1_2 : Claimed_1_2 := comes_1 fun _ _ _ _ _ _ h hF => ⟨h.2.1, hF⟩
end Jvm.Pilot.@@N@@
namespace Jvm.Pilot.@@N@@
open Jvm Jvm.ClassFile Sem Op Lib Jvm.Free Jvm.Stand Jvm.Pilot.@@N@@.Jvm.D
/-! MADE BY PROGRAM (witnessworld.py) out of the Statement's table words and the real class files: 9 classes; the members and pool entries that the words name. The judged class is class 1, her method 1. -/
namespace start1
open Jvm.ClassFile
def u (s : String) : CpInfo := .utf8 (stringToUtf16 s)
/-- a pool by its gaps: so many unusable entries, then the entry; so many at the end -/
def gap : Nat → List CpInfo → List CpInfo
  | 0, r => r
  | n + 1, r => .unusable :: gap n r
def poolList (es : List (Nat × CpInfo)) (last : Nat) : List CpInfo := es.foldr (fun e r => gap e.1 (e.2 :: r)) (gap last [])
def pool (es : List (Nat × CpInfo)) (last : Nat) : Array CpInfo := ⟨poolList es last⟩
def fileOf (pool : Array CpInfo) (this : Nat) (attrs : Array Attribute := #[]) (ms : Array MethodInfo := #[]) (fl : Nat := 33) (sup : Nat := 0) (ifs : Array Nat := #[]) (fds : Array FieldInfo := #[]) : ClassFile where
  minorVersion := 0
  majorVersion := 65
  constantPool := pool
  accessFlags := fl
  thisClass := this
  superClass := sup
  interfaces := ifs
  fields := fds
  methods := ms
  attributes := attrs
def plain (name : String) (sup : Option ClassId) : Class where
  name := name
  kind := .ordinary
  loader := none
  accessFlags := 33
  super := sup
  interfaces := #[]
  cf := none
  fields := #[]
  methods := #[]
  instanceTypes := #[]
  staticTypes := #[]
  resolved := #[]
  callSites := []
  init := .initialized
  statics := none
  mirror := none

def pool0 : Array CpInfo := pool [(5, u "<init>"), (0, u "()V"), (1, .class_ 10), (1, u "java/lang/Object")] 113

def k0m0 : Method := { name := "<init>", desc := "()V", sig := { parameters := [], returnType := none }, accessFlags := 1, code := none }
/-- java/lang/Object -/
def k0 : Class := { plain "java/lang/Object" none with
  accessFlags := 33
  interfaces := #[]
  cf := some (fileOf pool0 8 #[] #[{ accessFlags := 1, nameIndex := 5, descriptorIndex := 6, attributes := #[] }] 33 0 #[] #[])
  fields := #[]
  methods := #[k0m0]
  instanceTypes := #[]
  staticTypes := #[]
  resolved := Array.replicate 124 none
  statics := none }

def pool1 : Array CpInfo := pool [(2, .class_ 4), (1, u "java/lang/Object"), (0, u "<init>"), (0, u "()V"), (0, .methodref 8 9), (0, .class_ 10), (0, .nameAndType 11 12), (0, u "com/example/cordon_mutex/cordonmutex/bench/XorShift"), (0, u "seed"), (0, u "(II)I"), (0, .methodref 8 14), (0, .nameAndType 15 16), (0, u "next"), (0, u "(I)I"), (0, .class_ 18), (0, u "com/example/cordon_mutex/cordonmutex/bench/XorShiftSeedPinLaw"), (2, u "law"), (0, u "(II)Z")] 3

def k1m0 : Method := { name := "<init>", desc := "()V", sig := { parameters := [], returnType := none }, accessFlags := 2, code := none }
def k1c1 : Code := { maxStack := 2, maxLocals := 4, code := code, exceptionTable := #[], attributes := #[] }
def k1m1 : Method := { name := "law", desc := "(II)Z", sig := { parameters := [.int, .int], returnType := some .boolean }, accessFlags := 9, code := some k1c1 }
/-- com/example/cordon_mutex/cordonmutex/bench/XorShiftSeedPinLaw -/
def k1 : Class := { plain "com/example/cordon_mutex/cordonmutex/bench/XorShiftSeedPinLaw" (some 0) with
  accessFlags := 49
  interfaces := #[]
  cf := some (fileOf pool1 17 #[] #[{ accessFlags := 2, nameIndex := 5, descriptorIndex := 6, attributes := #[] }, { accessFlags := 9, nameIndex := 21, descriptorIndex := 22, attributes := #[] }] 49 2 #[] #[])
  fields := #[]
  methods := #[k1m0, k1m1]
  instanceTypes := #[]
  staticTypes := #[]
  resolved := Array.replicate 26 none
  statics := none }

def pool2 : Array CpInfo := pool [(2, .class_ 4), (1, u "java/lang/Object"), (0, u "<init>"), (0, u "()V"), (1, .class_ 10), (1, u "com/example/cordon_mutex/cordonmutex/bench/XorShift"), (0, u "next"), (0, u "(I)I"), (0, .long 4294967295), (1, .long 11400714819323198485), (1, .long 13787848793156543929), (1, .long 10723151780598845931), (6, u "seed"), (0, u "(II)I")] 2

def k2m0 : Method := { name := "<init>", desc := "()V", sig := { parameters := [], returnType := none }, accessFlags := 2, code := none }
def k2c1 : Code := { maxStack := 3, maxLocals := 2, code := prog_56_method_2_code, exceptionTable := #[], attributes := #[] }
def k2m1 : Method := { name := "next", desc := "(I)I", sig := { parameters := [.int], returnType := some .int }, accessFlags := 8, code := some k2c1 }
def k2c2 : Code := { maxStack := 6, maxLocals := 7, code := prog_56_method_4_code, exceptionTable := #[], attributes := #[] }
def k2m2 : Method := { name := "seed", desc := "(II)I", sig := { parameters := [.int, .int], returnType := some .int }, accessFlags := 8, code := some k2c2 }
/-- com/example/cordon_mutex/cordonmutex/bench/XorShift -/
def k2 : Class := { plain "com/example/cordon_mutex/cordonmutex/bench/XorShift" (some 0) with
  accessFlags := 48
  interfaces := #[]
  cf := some (fileOf pool2 8 #[] #[{ accessFlags := 2, nameIndex := 5, descriptorIndex := 6, attributes := #[] }, { accessFlags := 8, nameIndex := 11, descriptorIndex := 12, attributes := #[] }, { accessFlags := 8, nameIndex := 26, descriptorIndex := 27, attributes := #[] }] 48 2 #[] #[])
  fields := #[]
  methods := #[k2m0, k2m1, k2m2]
  instanceTypes := #[]
  staticTypes := #[]
  resolved := Array.replicate 30 none
  statics := none }

def pool3 : Array CpInfo := pool [(1, u "java/lang/Cloneable"), (0, .class_ 1), (0, u "java/lang/Object"), (0, .class_ 3)] 3

/-- java/lang/Cloneable -/
def k3 : Class := { plain "java/lang/Cloneable" (some 0) with
  accessFlags := 1537
  interfaces := #[]
  cf := some (fileOf pool3 2 #[] #[] 1537 4 #[] #[])
  fields := #[]
  methods := #[]
  instanceTypes := #[]
  staticTypes := #[]
  resolved := Array.replicate 8 none
  statics := none }

def pool4 : Array CpInfo := pool [(1, u "java/io/Serializable"), (0, .class_ 1), (0, u "java/lang/Object"), (0, .class_ 3)] 3

/-- java/io/Serializable -/
def k4 : Class := { plain "java/io/Serializable" (some 0) with
  accessFlags := 1537
  interfaces := #[]
  cf := some (fileOf pool4 2 #[] #[] 1537 4 #[] #[])
  fields := #[]
  methods := #[]
  instanceTypes := #[]
  staticTypes := #[]
  resolved := Array.replicate 8 none
  statics := none }

/-- the primitive byte -/
def k5 : Class := { plain "byte" none with kind := .primitive 'B', accessFlags := 0x411 }
/-- [B -/
def k6 : Class := { plain "[B" (some 0) with kind := .array 5 .byte, interfaces := #[3, 4], accessFlags := 1041 }

/-- the primitive int -/
def k7 : Class := { plain "int" none with kind := .primitive 'I', accessFlags := 0x411 }
/-- [I -/
def k8 : Class := { plain "[I" (some 0) with kind := .array 7 .int, interfaces := #[3, 4], accessFlags := 1041 }

def heap : Heap := #[]
def classes : Array Class := #[k0, k1, k2, k3, k4, k5, k6, k7, k8]
def interned : List (Array UInt16 × Addr) := []
def slotsUsed : Nat := 0
def theMethod : MethodId := ⟨1, 1⟩
def args0 : Array Value := #[.int 5, .int 7]
def aboutOver (below : List Frame) : State where
  vm := { classes := classes, interned := interned.toArray }
  heap := heap
  slotsUsed := slotsUsed
  threads := #[{ frames := .invoking theMethod args0 :: below }]
def below0 : List Frame := [.native { method := ⟨0, 0⟩, args := #[] }]
def about1 : State := aboutOver below0
def p0 : Program := .bare "" "" ""
def e0 : Env := launch0.env 0 0 0
theorem w_frames : about1.frames = Frame.invoking theMethod args0 :: below0 := rfl
set_option maxRecDepth 65536 in
theorem w_args : argsFit about1.vm theMethod args0 = true := by decide +kernel
set_option maxRecDepth 65536 in
theorem w_heap : heapFits about1 = true := by decide +kernel
set_option maxRecDepth 65536 in
theorem w_runnable : about1.curStatus? = some .runnable := by decide +kernel
set_option maxRecDepth 65536 in
theorem w_alone : about1.alone = true := by decide +kernel
set_option maxRecDepth 65536 in
theorem w_named : about1.methodNamed? x = some theMethod := by decide +kernel
set_option maxRecDepth 65536 in
theorem w_hears : about1.hears theMethod below0 = true := by decide +kernel
set_option maxRecDepth 65536 in
theorem w_ripe : about1.ripe theMethod args0 below0 = true := by decide +kernel
theorem w_running : about1.status = .running := rfl
set_option maxRecDepth 65536 in
theorem w_room : about1.hasRoom e0.platform room_1 = true :=
  launch0.hasRoom_least _ room_1 (by decide +kernel) (by decide +kernel) (by decide +kernel) (by decide +kernel) (by decide +kernel) (by decide +kernel)
theorem allAtoms_all (ts : List Jvm.Cond) (a : Array Jvm.Value) (st : Jvm.State) : (allAtoms ts).before a st = ts.all (fun c => c.before a st) := by
  induction ts with
  | nil => rfl
  | cons c t ih =>
    show (Jvm.Cond.and c (allAtoms t)).before a st = _
    rw [Jvm.Cond.before_and, ih, List.all_cons]
def words1 : List Jvm.Cond := Jvm.Cond.code x code maxLocals ret :: tables_1
/-- a 'code' word, met by the world's own term for the bytes: nothing is compared byte by byte -/
theorem code_word {y : MethodName} {bytes : ByteArray} {mx : Nat} {rt : Option FieldType} {a : Array Value} {s : State} {m : MethodId} {meth : Method} {c : Code} (h1 : s.methodNamed? y = some m) (h2 : s.vm.method? m = some meth) (h3 : meth.code = some c) (h4 : c.code = bytes)
    (h5 : (c.maxLocals == mx && c.exceptionTable.isEmpty && decide (c.maxStack ≤ mostOperands) && decide (meth.sig.returnType = rt) && !meth.locks && decide (parseMethodDescriptor y.desc = some meth.sig)) = true) : (Jvm.Cond.code y bytes mx rt).before a s = true := by
  simp only [Bool.and_eq_true, beq_iff_eq, Bool.not_eq_true', decide_eq_true_eq] at h5
  obtain ⟨⟨⟨⟨⟨g1, g2⟩, g3⟩, g4⟩, g5⟩, g6⟩ := h5
  simp [Cond.before, Cond.holds, Cond.value, h1, h2, h3, h4, g1, g2, g3, g4, g5, g6]
def isCode : Jvm.Cond → Bool
  | .code _ _ _ _ => true
  | _ => false
theorem all_split {L : List Jvm.Cond} {P : Jvm.Cond → Bool} (h1 : L.all (fun c => isCode c || P c) = true) (h2 : ∀ c ∈ L.filter isCode, P c = true) : L.all P = true := by
  refine List.all_eq_true.mpr fun c hc => ?_
  have h := List.all_eq_true.mp h1 c hc
  rcases Bool.eq_false_or_eq_true (isCode c) with hi | hi
  · exact h2 c (List.mem_filter.mpr ⟨hc, hi⟩)
  · simpa [hi] using h
set_option maxRecDepth 65536 in
theorem w_c0 : (Jvm.Cond.code x code maxLocals ret).before args0 about1 = true := code_word (m := ⟨1, 1⟩) (meth := k1m1) (c := k1c1) (by decide +kernel) rfl rfl rfl (by decide +kernel)
set_option maxRecDepth 65536 in
theorem w_c1 : (Jvm.Cond.code ({ cls := "com/example/cordon_mutex/cordonmutex/bench/XorShift", name := "seed", desc := "(II)I" } : Jvm.MethodName) prog_56_method_4_code (7 : Nat) (Option.some Jvm.ClassFile.FieldType.int)).before args0 about1 = true := code_word (m := ⟨2, 2⟩) (meth := k2m2) (c := k2c2) (by decide +kernel) rfl rfl rfl (by decide +kernel)
set_option maxRecDepth 65536 in
theorem w_c2 : (Jvm.Cond.code ({ cls := "com/example/cordon_mutex/cordonmutex/bench/XorShift", name := "next", desc := "(I)I" } : Jvm.MethodName) prog_56_method_2_code (2 : Nat) (Option.some Jvm.ClassFile.FieldType.int)).before args0 about1 = true := code_word (m := ⟨2, 1⟩) (meth := k2m1) (c := k2c1) (by decide +kernel) rfl rfl rfl (by decide +kernel)
def codes1 : List Jvm.Cond := [Jvm.Cond.code x code maxLocals ret, Jvm.Cond.code ({ cls := "com/example/cordon_mutex/cordonmutex/bench/XorShift", name := "seed", desc := "(II)I" } : Jvm.MethodName) prog_56_method_4_code (7 : Nat) (Option.some Jvm.ClassFile.FieldType.int), Jvm.Cond.code ({ cls := "com/example/cordon_mutex/cordonmutex/bench/XorShift", name := "next", desc := "(I)I" } : Jvm.MethodName) prog_56_method_2_code (2 : Nat) (Option.some Jvm.ClassFile.FieldType.int)]
set_option maxRecDepth 65536 in
theorem codes_eq : words1.filter isCode = codes1 := rfl
theorem w_codes : ∀ c ∈ words1.filter isCode, c.before args0 about1 = true := by
  rw [codes_eq]
  intro c hc
  simp only [codes1, List.mem_cons, List.not_mem_nil, or_false] at hc
  rcases hc with rfl | rfl | rfl
  · exact w_c0
  · exact w_c1
  · exact w_c2
set_option maxRecDepth 65536 in
theorem w_t1 : words1.all (fun c => isCode c || c.before args0 about1) = true := by decide +kernel
theorem w_tables : (allAtoms (Jvm.Cond.code x code maxLocals ret :: tables_1)).before args0 about1 = true := by
  rw [allAtoms_all]
  show words1.all (fun c => c.before args0 about1) = true
  refine all_split ?_ w_codes
  rw [w_t1]
set_option maxRecDepth 65536 in
theorem w_case : (Jvm.Cond.and given_1 narrow_1).before args0 about1 = true := by decide +kernel
theorem w_applies : (headSpec (Jvm.Cond.code x code maxLocals ret :: tables_1) room_1).applies x e0.platform about1 = true :=
  (Spec.applies_iff w_frames).mpr ⟨w_running, w_runnable, w_alone, w_named, w_hears, w_ripe, w_room, w_tables⟩
theorem atStart : AtStart classFile x code maxLocals ret World_1 tables_1 room_1 Calls_1 rest_1 Pre_1 launch0 p0 e0 about1 theMethod args0 below0 :=
  ⟨lists_1, trivial, launch0.admits_env _ _ _, launch0.least_env, fairChoices_fair.cas, fairChoices_fair.clock, w_frames, w_args, w_heap, w_applies, trivial, trivial, w_case⟩
end start1
theorem witness_1 : WitnessClaimed_1 := ⟨start1.p0, start1.e0, start1.about1, start1.theMethod, start1.args0, start1.below0, start1.atStart⟩
end Jvm.Pilot.@@N@@
