import JvmDerived
import JvmDerived.Pilot.@@N@@Statement
import JvmDerived.Pilot.@@N@@Code
set_option linter.unusedVariables false
set_option linter.unusedSimpArgs false
namespace Jvm.RoadKit
open Sem ClassFile Op Lib Jvm.Stand Jvm.Free Jvm.LawKit
section New
variable {p : Program} {l : Launch} {e : Env} {R : Room} {s : State} {m : MethodId} {args : Array Value} {below : List Frame} {meth : Method} {c : Code} {T : State} {locs : List Loc} {cells slots : Nat}
theorem retI (X : Stand p l e R s m args below meth c T locs cells slots) (hx : p.tables.exec = Jvm.exec) {pc : Nat} {Ls : Array Slot} {z : Int32} {rest : List Value} (hret : meth.sig.returnType = some .int) (hd : decode c.code pc = .ok (.ireturn, 1)) {fs : List Frame}
    (hl : ∀ (f : JFrame) (acts : List Action), f.method = m → f.locked = none → f.entered = [] → (doReturn e (T.setTop f) acts (some (.int z))).1 = T.setFrames fs) : Steps p.tables e below (T.setTop (mkF m pc Ls (.int z :: rest))) (T.setFrames fs) := by
  have hm' : T.vm.method? m = some meth := X.method'
  have hn : narrow .int (.int z) = .int z := rfl
  show Steps p.tables e below (T.setTop { method := m, pc := pc, locals := Ls, stack := _ :: rest, locked := none }) _
  jvm_step X.here [X.here.top, hx, hd, hm', hret, hn]
  first | (intro acts; rw [hl _ acts rfl rfl rfl]) | rw [hl _ _ rfl rfl rfl]
  exact Steps.refl _
end New
end Jvm.RoadKit
namespace Jvm.Pilot.@@N@@
open Jvm Jvm.ClassFile Sem Op Lib Jvm.Free Jvm.Stand Jvm.LawKit Jvm.RoadKit Bundle Jvm.Pilot.@@N@@.Jvm.D

theorem wi {Z : State} {a0 : Array Value} (hw : ∀ d ∈ tables_1, d.before a0 Z = true) (i : Nat) {d : Jvm.Cond} (h : tables_1[i]? = some d) : d.before a0 Z = true := hw d (List.mem_of_getElem? h)
section OwnKit
variable {p : Program} {l : Launch} {e : Env} {R : Room} {s : State} {m : MethodId} {args : Array Value} {below : List Frame} {meth : Method} {c : Code} {bs : ByteArray} {st : State} {n0 cells slots : Nat} {P P' : Heap → Prop} {pc pc' : Nat} {L L' : Array Slot} {S S' : List Value} {Z : State} {a0 : Array Value} {own : String}
/-- where a walk stands: some state T reached from st, with what is known of its heap -/
def Sit (p : Program) (l : Launch) (e : Env) (R : Room) (s : State) (m : MethodId) (args : Array Value) (below : List Frame) (meth : Method) (c : Code) (bs : ByteArray) (st : State) (n0 cells slots : Nat) (P : Heap → Prop) (pc : Nat) (L : Array Slot) (S : List Value) : Prop :=
  ∃ (T : State) (locs : List Loc) (k n : Nat), Stand p l e R s m args below meth c T locs k n ∧ k ≤ cells ∧ n ≤ slots ∧ Fr n0 locs ∧ n0 ≤ s.heap.size ∧ P T.heap ∧ p.tables.exec = Jvm.exec ∧ c.code = bs ∧ ∀ t, Steps p.tables e below (T.setTop (mkF m pc L S)) t → Steps p.tables e below st t
theorem Sit.go (h : Sit p l e R s m args below meth c bs st n0 cells slots P pc L S)
    (f : ∀ T locs k n, Stand p l e R s m args below meth c T locs k n → p.tables.exec = Jvm.exec → c.code = bs → P T.heap → ∀ t, Steps p.tables e below (T.setTop (mkF m pc' L' S')) t → Steps p.tables e below (T.setTop (mkF m pc L S)) t) :
    Sit p l e R s m args below meth c bs st n0 cells slots P pc' L' S' := by
  obtain ⟨T, locs, k, n, X, q1, q2, q3, q4, q5, hx, hby, q⟩ := h
  exact ⟨T, locs, k, n, X, q1, q2, q3, q4, q5, hx, hby, fun t z => q t (f T locs k n X hx hby q5 t z)⟩
theorem Sit.mono (h : Sit p l e R s m args below meth c bs st n0 cells slots P pc L S) (f : ∀ hh, P hh → P' hh) : Sit p l e R s m args below meth c bs st n0 cells slots P' pc L S := by
  obtain ⟨T, locs, k, n, X, q1, q2, q3, q4, q5, r⟩ := h
  exact ⟨T, locs, k, n, X, q1, q2, q3, q4, f _ q5, r⟩
theorem Sit.bound {cells' slots' : Nat} (h : Sit p l e R s m args below meth c bs st n0 cells slots P pc L S) (h1 : cells ≤ cells') (h2 : slots ≤ slots') : Sit p l e R s m args below meth c bs st n0 cells' slots' P pc L S := by
  obtain ⟨T, locs, k, n, X, q1, q2, r⟩ := h
  exact ⟨T, locs, k, n, X, Nat.le_trans q1 h1, Nat.le_trans q2 h2, r⟩
theorem Sit.facts (h : Sit p l e R s m args below meth c bs st n0 cells slots P pc L S) : ∃ hh, P hh := by
  obtain ⟨T, locs, k, n, X, q1, q2, q3, q4, q5, r⟩ := h
  exact ⟨_, q5⟩
theorem Sit.ex {α : Type} {Q : α → Heap → Prop} (h : Sit p l e R s m args below meth c bs st n0 cells slots (fun hh => ∃ x, Q x hh) pc L S) : ∃ x, Sit p l e R s m args below meth c bs st n0 cells slots (Q x) pc L S := by
  obtain ⟨T, locs, k, n, X, q1, q2, q3, q4, ⟨x, q5⟩, r⟩ := h
  exact ⟨x, T, locs, k, n, X, q1, q2, q3, q4, q5, r⟩
theorem Sit.size (h : Sit p l e R s m args below meth c bs st n0 cells slots P pc L S) : Sit p l e R s m args below meth c bs st n0 cells slots (fun hh => P hh ∧ n0 ≤ hh.size) pc L S := by
  obtain ⟨T, locs, k, n, X, q1, q2, q3, q4, q5, r⟩ := h
  exact ⟨T, locs, k, n, X, q1, q2, q3, q4, ⟨q5, Nat.le_trans q4 X.same.2.1⟩, r⟩
/-! plain steps -/
theorem Sit.iload {k : Nat} {v : Int32} (h : Sit p l e R s m args below meth c bs st n0 cells slots P pc L S) (hd : decode bs pc = .ok (.iload k, 2)) (hl : L[k]? = some (.val (.int v))) (hp : pc + 2 = pc') : Sit p l e R s m args below meth c bs st n0 cells slots P pc' L (.int v :: S) := by
  subst hp; exact h.go fun T _ _ _ X hx hby _ t z => XS.iload X.here hx rfl (hb hby hd) hl z
theorem Sit.iloadN {k : Fin 4} {v : Int32} (h : Sit p l e R s m args below meth c bs st n0 cells slots P pc L S) (hd : decode bs pc = .ok (.iload_n k, 1)) (hl : L[k.val]? = some (.val (.int v))) (hp : pc + 1 = pc') : Sit p l e R s m args below meth c bs st n0 cells slots P pc' L (.int v :: S) := by
  subst hp; exact h.go fun T _ _ _ X hx hby _ t z => XS.iloadN X.here hx rfl (hb hby hd) hl z
theorem Sit.lload {k : Nat} {v : Int64} (h : Sit p l e R s m args below meth c bs st n0 cells slots P pc L S) (hd : decode bs pc = .ok (.lload k, 2)) (hl : L[k]? = some (.val (.long v))) (hp : pc + 2 = pc') : Sit p l e R s m args below meth c bs st n0 cells slots P pc' L (.long v :: S) := by
  subst hp; exact h.go fun T _ _ _ X hx hby _ t z => XS.lload X.here hx rfl (hb hby hd) hl z
theorem Sit.lloadN {k : Fin 4} {v : Int64} (h : Sit p l e R s m args below meth c bs st n0 cells slots P pc L S) (hd : decode bs pc = .ok (.lload_n k, 1)) (hl : L[k.val]? = some (.val (.long v))) (hp : pc + 1 = pc') : Sit p l e R s m args below meth c bs st n0 cells slots P pc' L (.long v :: S) := by
  subst hp; exact h.go fun T _ _ _ X hx hby _ t z => XS.lloadN X.here hx rfl (hb hby hd) hl z
theorem Sit.aload {k : Nat} {v : Addr} (h : Sit p l e R s m args below meth c bs st n0 cells slots P pc L S) (hd : decode bs pc = .ok (.aload k, 2)) (hl : L[k]? = some (.val (.ref v))) (hp : pc + 2 = pc') : Sit p l e R s m args below meth c bs st n0 cells slots P pc' L (.ref v :: S) := by
  subst hp; exact h.go fun T _ _ _ X hx hby _ t z => XS.aload X.here hx rfl (hb hby hd) hl rfl z
theorem Sit.aloadN {k : Fin 4} {v : Addr} (h : Sit p l e R s m args below meth c bs st n0 cells slots P pc L S) (hd : decode bs pc = .ok (.aload_n k, 1)) (hl : L[k.val]? = some (.val (.ref v))) (hp : pc + 1 = pc') : Sit p l e R s m args below meth c bs st n0 cells slots P pc' L (.ref v :: S) := by
  subst hp; exact h.go fun T _ _ _ X hx hby _ t z => XS.aloadN X.here hx rfl (hb hby hd) hl rfl z
theorem Sit.istore {k : Nat} {v : Int32} (L' : Array Slot) (h : Sit p l e R s m args below meth c bs st n0 cells slots P pc L (.int v :: S)) (hd : decode bs pc = .ok (.istore k, 2)) (hl : storeLocals L k (.int v) = some L') (hp : pc + 2 = pc') : Sit p l e R s m args below meth c bs st n0 cells slots P pc' L' S := by
  subst hp; exact h.go fun T _ _ _ X hx hby _ t z => XS.istore X.here hx rfl (hb hby hd) rfl hl z
theorem Sit.istoreN {k : Fin 4} {v : Int32} (L' : Array Slot) (h : Sit p l e R s m args below meth c bs st n0 cells slots P pc L (.int v :: S)) (hd : decode bs pc = .ok (.istore_n k, 1)) (hl : storeLocals L k.val (.int v) = some L') (hp : pc + 1 = pc') : Sit p l e R s m args below meth c bs st n0 cells slots P pc' L' S := by
  subst hp; exact h.go fun T _ _ _ X hx hby _ t z => XS.istoreN X.here hx rfl (hb hby hd) rfl hl z
theorem Sit.lstore {k : Nat} {v : Int64} (L' : Array Slot) (h : Sit p l e R s m args below meth c bs st n0 cells slots P pc L (.long v :: S)) (hd : decode bs pc = .ok (.lstore k, 2)) (hl : storeLocals L k (.long v) = some L') (hp : pc + 2 = pc') : Sit p l e R s m args below meth c bs st n0 cells slots P pc' L' S := by
  subst hp; exact h.go fun T _ _ _ X hx hby _ t z => XS.lstore X.here hx rfl (hb hby hd) rfl hl z
theorem Sit.lstoreN {k : Fin 4} {v : Int64} (L' : Array Slot) (h : Sit p l e R s m args below meth c bs st n0 cells slots P pc L (.long v :: S)) (hd : decode bs pc = .ok (.lstore_n k, 1)) (hl : storeLocals L k.val (.long v) = some L') (hp : pc + 1 = pc') : Sit p l e R s m args below meth c bs st n0 cells slots P pc' L' S := by
  subst hp; exact h.go fun T _ _ _ X hx hby _ t z => XS.lstoreN X.here hx rfl (hb hby hd) rfl hl z
theorem Sit.astore {k : Nat} {v : Addr} (L' : Array Slot) (h : Sit p l e R s m args below meth c bs st n0 cells slots P pc L (.ref v :: S)) (hd : decode bs pc = .ok (.astore k, 2)) (hl : storeLocals L k (.ref v) = some L') (hp : pc + 2 = pc') : Sit p l e R s m args below meth c bs st n0 cells slots P pc' L' S := by
  subst hp; exact h.go fun T _ _ _ X hx hby _ t z => XS.astore X.here hx rfl (hb hby hd) rfl rfl hl z
theorem Sit.astoreN {k : Fin 4} {v : Addr} (L' : Array Slot) (h : Sit p l e R s m args below meth c bs st n0 cells slots P pc L (.ref v :: S)) (hd : decode bs pc = .ok (.astore_n k, 1)) (hl : storeLocals L k.val (.ref v) = some L') (hp : pc + 1 = pc') : Sit p l e R s m args below meth c bs st n0 cells slots P pc' L' S := by
  subst hp; exact h.go fun T _ _ _ X hx hby _ t z => XS.astoreN X.here hx rfl (hb hby hd) rfl rfl hl z
theorem Sit.iconst {i : Int} (v : Int32) (h : Sit p l e R s m args below meth c bs st n0 cells slots P pc L S) (hd : decode bs pc = .ok (.iconst i, 1)) (hv : Int32.ofInt i = v) (hp : pc + 1 = pc') : Sit p l e R s m args below meth c bs st n0 cells slots P pc' L (.int v :: S) := by
  subst hp hv; exact h.go fun T _ _ _ X hx hby _ t z => XS.iconst X.here hx rfl (hb hby hd) z
theorem Sit.bipush {i : Int} (v : Int32) (h : Sit p l e R s m args below meth c bs st n0 cells slots P pc L S) (hd : decode bs pc = .ok (.bipush i, 2)) (hv : (Int8.ofInt i).toInt32 = v) (hp : pc + 2 = pc') : Sit p l e R s m args below meth c bs st n0 cells slots P pc' L (.int v :: S) := by
  subst hp hv; exact h.go fun T _ _ _ X hx hby _ t z => XS.bipush X.here hx rfl (hb hby hd) z
theorem Sit.sipush {i : Int} (v : Int32) (h : Sit p l e R s m args below meth c bs st n0 cells slots P pc L S) (hd : decode bs pc = .ok (.sipush i, 3)) (hv : (Int16.ofInt i).toInt32 = v) (hp : pc + 3 = pc') : Sit p l e R s m args below meth c bs st n0 cells slots P pc' L (.int v :: S) := by
  subst hp hv; exact h.go fun T _ _ _ X hx hby _ t z => XS.sipush X.here hx rfl (hb hby hd) z
theorem Sit.lconst {k : Fin 2} (v : Int64) (h : Sit p l e R s m args below meth c bs st n0 cells slots P pc L S) (hd : decode bs pc = .ok (.lconst k, 1)) (hv : Int64.ofNat k = v) (hp : pc + 1 = pc') : Sit p l e R s m args below meth c bs st n0 cells slots P pc' L (.long v :: S) := by
  subst hp hv; exact h.go fun T _ _ _ X hx hby _ t z => XS.lconst X.here hx rfl (hb hby hd) z
theorem Sit.ldc {index : Nat} {v : Int32} (h : Sit p l e R s m args below meth c bs st n0 cells slots P pc L S) (hZ : Z.Warmed39 s.vm) (hown : s.vm.findClass own = some m.cls) (w : (Cond.constant own index v).before a0 Z = true) (hd : decode bs pc = .ok (.ldc index, 2)) (hp : pc + 2 = pc') : Sit p l e R s m args below meth c bs st n0 cells slots P pc' L (.int v :: S) := by
  subst hp; exact h.go fun T _ _ _ X hx hby _ t z => X.ldcInt hx hown (mvT hZ w) (g := mkF m pc L S) rfl (hb hby hd) t z
theorem Sit.ldcw {index : Nat} {v : Int32} (h : Sit p l e R s m args below meth c bs st n0 cells slots P pc L S) (hZ : Z.Warmed39 s.vm) (hown : s.vm.findClass own = some m.cls) (w : (Cond.constant own index v).before a0 Z = true) (hd : decode bs pc = .ok (.ldc_w index, 3)) (hp : pc + 3 = pc') : Sit p l e R s m args below meth c bs st n0 cells slots P pc' L (.int v :: S) := by
  subst hp; exact h.go fun T _ _ _ X hx hby _ t z => X.ldcwInt hx hown (mvT hZ w) (g := mkF m pc L S) rfl (hb hby hd) t z
theorem Sit.ldc2 {index : Nat} {v : Int64} (h : Sit p l e R s m args below meth c bs st n0 cells slots P pc L S) (hZ : Z.Warmed39 s.vm) (hown : s.vm.findClass own = some m.cls) (w : (Cond.constantLong own index v).before a0 Z = true) (hd : decode bs pc = .ok (.ldc2_w index, 3)) (hp : pc + 3 = pc') : Sit p l e R s m args below meth c bs st n0 cells slots P pc' L (.long v :: S) := by
  subst hp; exact h.go fun T _ _ _ X hx hby _ t z => X.ldc2Long hx hown (mvT hZ w) (g := mkF m pc L S) rfl (hb hby hd) t z
/-! Java's shifts on longs and >>> on ints -/
def ushr32 (x y : Int32) : Int32 := (x.toUInt32 >>> (y &&& 31).toUInt32).toInt32
def shl64 (x : Int64) (y : Int32) : Int64 := x <<< (y &&& 0x3f).toInt64
def ushr64 (x : Int64) (y : Int32) : Int64 := (x.toUInt64 >>> (y &&& 0x3f).toInt64.toUInt64).toInt64
def lcmp3 (x y : Int64) : Int32 := if x > y then 1 else if x = y then 0 else -1
theorem Sit.iadd {x : Int32} {y : Int32} (h : Sit p l e R s m args below meth c bs st n0 cells slots P pc L (.int y :: .int x :: S)) (hd : decode bs pc = .ok (.iadd, 1)) (hp : pc + 1 = pc') : Sit p l e R s m args below meth c bs st n0 cells slots P pc' L (.int (x + y) :: S) := by
  subst hp; exact h.go fun T _ _ _ X hx hby _ t z => XS.iadd X.here hx rfl (hb hby hd) rfl z
theorem Sit.isub {x : Int32} {y : Int32} (h : Sit p l e R s m args below meth c bs st n0 cells slots P pc L (.int y :: .int x :: S)) (hd : decode bs pc = .ok (.isub, 1)) (hp : pc + 1 = pc') : Sit p l e R s m args below meth c bs st n0 cells slots P pc' L (.int (x - y) :: S) := by
  subst hp; exact h.go fun T _ _ _ X hx hby _ t z => XS.isub X.here hx rfl (hb hby hd) rfl z
theorem Sit.imul {x : Int32} {y : Int32} (h : Sit p l e R s m args below meth c bs st n0 cells slots P pc L (.int y :: .int x :: S)) (hd : decode bs pc = .ok (.imul, 1)) (hp : pc + 1 = pc') : Sit p l e R s m args below meth c bs st n0 cells slots P pc' L (.int (x * y) :: S) := by
  subst hp; exact h.go fun T _ _ _ X hx hby _ t z => XS.imul X.here hx rfl (hb hby hd) rfl z
theorem Sit.iand {x : Int32} {y : Int32} (h : Sit p l e R s m args below meth c bs st n0 cells slots P pc L (.int y :: .int x :: S)) (hd : decode bs pc = .ok (.iand, 1)) (hp : pc + 1 = pc') : Sit p l e R s m args below meth c bs st n0 cells slots P pc' L (.int (x &&& y) :: S) := by
  subst hp; exact h.go fun T _ _ _ X hx hby _ t z => XS.iand X.here hx rfl (hb hby hd) rfl z
theorem Sit.ior {x : Int32} {y : Int32} (h : Sit p l e R s m args below meth c bs st n0 cells slots P pc L (.int y :: .int x :: S)) (hd : decode bs pc = .ok (.ior, 1)) (hp : pc + 1 = pc') : Sit p l e R s m args below meth c bs st n0 cells slots P pc' L (.int (x ||| y) :: S) := by
  subst hp; exact h.go fun T _ _ _ X hx hby _ t z => XS.ior X.here hx rfl (hb hby hd) rfl z
theorem Sit.ixor {x : Int32} {y : Int32} (h : Sit p l e R s m args below meth c bs st n0 cells slots P pc L (.int y :: .int x :: S)) (hd : decode bs pc = .ok (.ixor, 1)) (hp : pc + 1 = pc') : Sit p l e R s m args below meth c bs st n0 cells slots P pc' L (.int (x ^^^ y) :: S) := by
  subst hp; exact h.go fun T _ _ _ X hx hby _ t z => XS.ixor X.here hx rfl (hb hby hd) rfl z
theorem Sit.ishl {x : Int32} {y : Int32} (h : Sit p l e R s m args below meth c bs st n0 cells slots P pc L (.int y :: .int x :: S)) (hd : decode bs pc = .ok (.ishl, 1)) (hp : pc + 1 = pc') : Sit p l e R s m args below meth c bs st n0 cells slots P pc' L (.int (x <<< (y &&& 31)) :: S) := by
  subst hp; exact h.go fun T _ _ _ X hx hby _ t z => XS.ishl X.here hx rfl (hb hby hd) rfl z
theorem Sit.ishr {x : Int32} {y : Int32} (h : Sit p l e R s m args below meth c bs st n0 cells slots P pc L (.int y :: .int x :: S)) (hd : decode bs pc = .ok (.ishr, 1)) (hp : pc + 1 = pc') : Sit p l e R s m args below meth c bs st n0 cells slots P pc' L (.int (x >>> (y &&& 31)) :: S) := by
  subst hp; exact h.go fun T _ _ _ X hx hby _ t z => XS.ishr X.here hx rfl (hb hby hd) rfl z
theorem Sit.iushr {x : Int32} {y : Int32} (h : Sit p l e R s m args below meth c bs st n0 cells slots P pc L (.int y :: .int x :: S)) (hd : decode bs pc = .ok (.iushr, 1)) (hp : pc + 1 = pc') : Sit p l e R s m args below meth c bs st n0 cells slots P pc' L (.int (ushr32 x y) :: S) := by
  subst hp; exact h.go fun T _ _ _ X hx hby _ t z => XS.iushr X.here hx rfl (hb hby hd) rfl z
theorem Sit.ladd {x : Int64} {y : Int64} (h : Sit p l e R s m args below meth c bs st n0 cells slots P pc L (.long y :: .long x :: S)) (hd : decode bs pc = .ok (.ladd, 1)) (hp : pc + 1 = pc') : Sit p l e R s m args below meth c bs st n0 cells slots P pc' L (.long (x + y) :: S) := by
  subst hp; exact h.go fun T _ _ _ X hx hby _ t z => XS.ladd X.here hx rfl (hb hby hd) rfl z
theorem Sit.lsub {x : Int64} {y : Int64} (h : Sit p l e R s m args below meth c bs st n0 cells slots P pc L (.long y :: .long x :: S)) (hd : decode bs pc = .ok (.lsub, 1)) (hp : pc + 1 = pc') : Sit p l e R s m args below meth c bs st n0 cells slots P pc' L (.long (x - y) :: S) := by
  subst hp; exact h.go fun T _ _ _ X hx hby _ t z => XS.lsub X.here hx rfl (hb hby hd) rfl z
theorem Sit.lmul {x : Int64} {y : Int64} (h : Sit p l e R s m args below meth c bs st n0 cells slots P pc L (.long y :: .long x :: S)) (hd : decode bs pc = .ok (.lmul, 1)) (hp : pc + 1 = pc') : Sit p l e R s m args below meth c bs st n0 cells slots P pc' L (.long (x * y) :: S) := by
  subst hp; exact h.go fun T _ _ _ X hx hby _ t z => XS.lmul X.here hx rfl (hb hby hd) rfl z
theorem Sit.land {x : Int64} {y : Int64} (h : Sit p l e R s m args below meth c bs st n0 cells slots P pc L (.long y :: .long x :: S)) (hd : decode bs pc = .ok (.land, 1)) (hp : pc + 1 = pc') : Sit p l e R s m args below meth c bs st n0 cells slots P pc' L (.long (x &&& y) :: S) := by
  subst hp; exact h.go fun T _ _ _ X hx hby _ t z => XS.land X.here hx rfl (hb hby hd) rfl z
theorem Sit.lor {x : Int64} {y : Int64} (h : Sit p l e R s m args below meth c bs st n0 cells slots P pc L (.long y :: .long x :: S)) (hd : decode bs pc = .ok (.lor, 1)) (hp : pc + 1 = pc') : Sit p l e R s m args below meth c bs st n0 cells slots P pc' L (.long (x ||| y) :: S) := by
  subst hp; exact h.go fun T _ _ _ X hx hby _ t z => XS.lor X.here hx rfl (hb hby hd) rfl z
theorem Sit.lxor {x : Int64} {y : Int64} (h : Sit p l e R s m args below meth c bs st n0 cells slots P pc L (.long y :: .long x :: S)) (hd : decode bs pc = .ok (.lxor, 1)) (hp : pc + 1 = pc') : Sit p l e R s m args below meth c bs st n0 cells slots P pc' L (.long (x ^^^ y) :: S) := by
  subst hp; exact h.go fun T _ _ _ X hx hby _ t z => XS.lxor X.here hx rfl (hb hby hd) rfl z
theorem Sit.lshl {x : Int64} {y : Int32} (h : Sit p l e R s m args below meth c bs st n0 cells slots P pc L (.int y :: .long x :: S)) (hd : decode bs pc = .ok (.lshl, 1)) (hp : pc + 1 = pc') : Sit p l e R s m args below meth c bs st n0 cells slots P pc' L (.long (shl64 x y) :: S) := by
  subst hp; exact h.go fun T _ _ _ X hx hby _ t z => XS.lshl X.here hx rfl (hb hby hd) rfl z
theorem Sit.lushr {x : Int64} {y : Int32} (h : Sit p l e R s m args below meth c bs st n0 cells slots P pc L (.int y :: .long x :: S)) (hd : decode bs pc = .ok (.lushr, 1)) (hp : pc + 1 = pc') : Sit p l e R s m args below meth c bs st n0 cells slots P pc' L (.long (ushr64 x y) :: S) := by
  subst hp; exact h.go fun T _ _ _ X hx hby _ t z => XS.lushr X.here hx rfl (hb hby hd) rfl z
theorem Sit.lcmp {x : Int64} {y : Int64} (h : Sit p l e R s m args below meth c bs st n0 cells slots P pc L (.long y :: .long x :: S)) (hd : decode bs pc = .ok (.lcmp, 1)) (hp : pc + 1 = pc') : Sit p l e R s m args below meth c bs st n0 cells slots P pc' L (.int (lcmp3 x y) :: S) := by
  subst hp; exact h.go fun T _ _ _ X hx hby _ t z => XS.lcmp X.here hx rfl (hb hby hd) rfl z
theorem Sit.i2l {x : Int32} (h : Sit p l e R s m args below meth c bs st n0 cells slots P pc L (.int x :: S)) (hd : decode bs pc = .ok (.i2l, 1)) (hp : pc + 1 = pc') : Sit p l e R s m args below meth c bs st n0 cells slots P pc' L (.long (x.toInt64) :: S) := by
  subst hp; exact h.go fun T _ _ _ X hx hby _ t z => XS.i2l X.here hx rfl (hb hby hd) rfl z
theorem Sit.l2i {x : Int64} (h : Sit p l e R s m args below meth c bs st n0 cells slots P pc L (.long x :: S)) (hd : decode bs pc = .ok (.l2i, 1)) (hp : pc + 1 = pc') : Sit p l e R s m args below meth c bs st n0 cells slots P pc' L (.int (x.toInt32) :: S) := by
  subst hp; exact h.go fun T _ _ _ X hx hby _ t z => XS.l2i X.here hx rfl (hb hby hd) rfl z
theorem Sit.i2b {x : Int32} (h : Sit p l e R s m args below meth c bs st n0 cells slots P pc L (.int x :: S)) (hd : decode bs pc = .ok (.i2b, 1)) (hp : pc + 1 = pc') : Sit p l e R s m args below meth c bs st n0 cells slots P pc' L (.int (x.toInt8.toInt32) :: S) := by
  subst hp; exact h.go fun T _ _ _ X hx hby _ t z => XS.i2b X.here hx rfl (hb hby hd) rfl z
theorem Sit.ineg {x : Int32} (h : Sit p l e R s m args below meth c bs st n0 cells slots P pc L (.int x :: S)) (hd : decode bs pc = .ok (.ineg, 1)) (hp : pc + 1 = pc') : Sit p l e R s m args below meth c bs st n0 cells slots P pc' L (.int (-x) :: S) := by
  subst hp; exact h.go fun T _ _ _ X hx hby _ t z => XS.ineg X.here hx rfl (hb hby hd) rfl z
theorem Sit.idiv {x y : Int32} (h : Sit p l e R s m args below meth c bs st n0 cells slots P pc L (.int y :: .int x :: S)) (hd : decode bs pc = .ok (.idiv, 1)) (hy : y ≠ 0) (hp : pc + 1 = pc') : Sit p l e R s m args below meth c bs st n0 cells slots P pc' L (.int (x / y) :: S) := by
  subst hp; exact h.go fun T _ _ _ X hx hby _ t z => XS.idiv X.here hx rfl (hb hby hd) rfl hy z
theorem Sit.irem {x y : Int32} (h : Sit p l e R s m args below meth c bs st n0 cells slots P pc L (.int y :: .int x :: S)) (hd : decode bs pc = .ok (.irem, 1)) (hy : y ≠ 0) (hp : pc + 1 = pc') : Sit p l e R s m args below meth c bs st n0 cells slots P pc' L (.int (x % y) :: S) := by
  subst hp; exact h.go fun T _ _ _ X hx hby _ t z => iremM X hx rfl (hb hby hd) rfl hy z
theorem Sit.lrem {x y : Int64} (h : Sit p l e R s m args below meth c bs st n0 cells slots P pc L (.long y :: .long x :: S)) (hd : decode bs pc = .ok (.lrem, 1)) (hy : y ≠ 0) (hp : pc + 1 = pc') : Sit p l e R s m args below meth c bs st n0 cells slots P pc' L (.long (x % y) :: S) := by
  subst hp; rw [← lrem_mod]; exact h.go fun T _ _ _ X hx hby _ t z => XS.lrem X.here hx rfl (hb hby hd) rfl hy z
theorem Sit.iinc {k : Nat} {i : Int} {x : Int32} (v : Int32) (L' : Array Slot) (h : Sit p l e R s m args below meth c bs st n0 cells slots P pc L S) (hd : decode bs pc = .ok (.iinc k i, 3)) (hl : L[k]? = some (.val (.int x))) (hv : x + Int32.ofInt i = v) (hl' : storeLocals L k (.int v) = some L') (hp : pc + 3 = pc') : Sit p l e R s m args below meth c bs st n0 cells slots P pc' L' S := by
  subst hp hv; exact h.go fun T _ _ _ X hx hby _ t z => XS.iinc X.here hx rfl (hb hby hd) hl hl' z
theorem Sit.dup {x : Value} (h : Sit p l e R s m args below meth c bs st n0 cells slots P pc L (x :: S)) (hd : decode bs pc = .ok (.dup, 1)) (hc : x.category = 1) (hp : pc + 1 = pc') : Sit p l e R s m args below meth c bs st n0 cells slots P pc' L (x :: x :: S) := by
  subst hp; exact h.go fun T _ _ _ X hx hby _ t z => XS.dup X.here hx rfl (hb hby hd) rfl hc z
theorem Sit.dupX1 {x y : Value} (h : Sit p l e R s m args below meth c bs st n0 cells slots P pc L (x :: y :: S)) (hd : decode bs pc = .ok (.dup_x1, 1)) (hc : x.category = 1) (hc' : y.category = 1) (hp : pc + 1 = pc') : Sit p l e R s m args below meth c bs st n0 cells slots P pc' L (x :: y :: x :: S) := by
  subst hp; exact h.go fun T _ _ _ X hx hby _ t z => XS.dupX1 X.here hx rfl (hb hby hd) rfl hc hc' z
theorem Sit.dup2 {x y : Value} (h : Sit p l e R s m args below meth c bs st n0 cells slots P pc L (x :: y :: S)) (hd : decode bs pc = .ok (.dup2, 1)) (hc : x.category = 1) (hc' : y.category = 1) (hp : pc + 1 = pc') : Sit p l e R s m args below meth c bs st n0 cells slots P pc' L (x :: y :: x :: y :: S) := by
  subst hp; exact h.go fun T _ _ _ X hx hby _ t z => Jvm.Free.XT.dup2 X.here hx rfl (hb hby hd) rfl hc hc' z
theorem Sit.pop {x : Value} (h : Sit p l e R s m args below meth c bs st n0 cells slots P pc L (x :: S)) (hd : decode bs pc = .ok (.pop, 1)) (hc : x.category = 1) (hp : pc + 1 = pc') : Sit p l e R s m args below meth c bs st n0 cells slots P pc' L S := by
  subst hp; exact h.go fun T _ _ _ X hx hby _ t z => XS.pop X.here hx rfl (hb hby hd) rfl hc z
theorem Sit.goto {o : Int} (h : Sit p l e R s m args below meth c bs st n0 cells slots P pc L S) (hd : decode bs pc = .ok (.goto o, 3)) (ho : 0 ≤ (pc : Int) + o) (hp : ((pc : Int) + o).toNat = pc') : Sit p l e R s m args below meth c bs st n0 cells slots P pc' L S :=
  h.go fun T _ _ _ X hx hby _ t z => XS.goto X.here hx rfl (pc0 := pc) rfl (hb hby hd) ho hp z
theorem Sit.ifY {cd : ClassFile.Cond} {x : Int32} {o : Int} (h : Sit p l e R s m args below meth c bs st n0 cells slots P pc L (.int x :: S)) (hd : decode bs pc = .ok (.ifCond cd o, 3)) (hc : if_icmp.holds cd x 0 = true) (ho : 0 ≤ (pc : Int) + o) (hp : ((pc : Int) + o).toNat = pc') : Sit p l e R s m args below meth c bs st n0 cells slots P pc' L S :=
  h.go fun T _ _ _ X hx hby _ t z => XS.ifYes X.here hx rfl (pc0 := pc) rfl (hb hby hd) rfl ((if0 _ _).trans hc) ho hp z
theorem Sit.ifN {cd : ClassFile.Cond} {x : Int32} {o : Int} (h : Sit p l e R s m args below meth c bs st n0 cells slots P pc L (.int x :: S)) (hd : decode bs pc = .ok (.ifCond cd o, 3)) (hc : if_icmp.holds cd x 0 = false) (hp : pc + 3 = pc') : Sit p l e R s m args below meth c bs st n0 cells slots P pc' L S := by
  subst hp; exact h.go fun T _ _ _ X hx hby _ t z => XS.ifNo X.here hx rfl (hb hby hd) rfl ((if0 _ _).trans hc) z
theorem Sit.icmpY {cd : ClassFile.Cond} {x y : Int32} {o : Int} (h : Sit p l e R s m args below meth c bs st n0 cells slots P pc L (.int y :: .int x :: S)) (hd : decode bs pc = .ok (.if_icmp cd o, 3)) (hc : if_icmp.holds cd x y = true) (ho : 0 ≤ (pc : Int) + o) (hp : ((pc : Int) + o).toNat = pc') : Sit p l e R s m args below meth c bs st n0 cells slots P pc' L S :=
  h.go fun T _ _ _ X hx hby _ t z => XS.icmpYes X.here hx rfl (pc0 := pc) rfl (hb hby hd) rfl hc ho hp z
theorem Sit.icmpN {cd : ClassFile.Cond} {x y : Int32} {o : Int} (h : Sit p l e R s m args below meth c bs st n0 cells slots P pc L (.int y :: .int x :: S)) (hd : decode bs pc = .ok (.if_icmp cd o, 3)) (hc : if_icmp.holds cd x y = false) (hp : pc + 3 = pc') : Sit p l e R s m args below meth c bs st n0 cells slots P pc' L S := by
  subst hp; exact h.go fun T _ _ _ X hx hby _ t z => XS.icmpNo X.here hx rfl (hb hby hd) rfl hc z
/-! comparisons as facts on whole numbers -/
def cmpP : ClassFile.Cond → Int32 → Int32 → Prop
  | .eq, x, y => x.toInt = y.toInt
  | .ne, x, y => x.toInt ≠ y.toInt
  | .lt, x, y => x.toInt < y.toInt
  | .ge, x, y => y.toInt ≤ x.toInt
  | .gt, x, y => y.toInt < x.toInt
  | .le, x, y => x.toInt ≤ y.toInt
theorem cmpP_holds (cd : ClassFile.Cond) (x y : Int32) : if_icmp.holds cd x y = true ↔ cmpP cd x y := by
  cases cd <;> simp [if_icmp.holds, cmpP, Int32.lt_iff_toInt_lt, Int32.le_iff_toInt_le, Int32.toInt_inj]
theorem cmpT {cd : ClassFile.Cond} {x y : Int32} (h : cmpP cd x y) : if_icmp.holds cd x y = true := (cmpP_holds cd x y).mpr h
theorem cmpF {cd : ClassFile.Cond} {x y : Int32} (h : ¬ cmpP cd x y) : if_icmp.holds cd x y = false := by
  rw [← Bool.not_eq_true, cmpP_holds]; exact h
def cmpZ : ClassFile.Cond → Int32 → Prop
  | .eq, x => x.toInt = 0
  | .ne, x => x.toInt ≠ 0
  | .lt, x => x.toInt < 0
  | .ge, x => 0 ≤ x.toInt
  | .gt, x => 0 < x.toInt
  | .le, x => x.toInt ≤ 0
theorem cmpT0 {cd : ClassFile.Cond} {x : Int32} (h : cmpZ cd x) : if_icmp.holds cd x 0 = true := cmpT (by cases cd <;> exact h)
theorem cmpF0 {cd : ClassFile.Cond} {x : Int32} (h : ¬ cmpZ cd x) : if_icmp.holds cd x 0 = false := cmpF (by cases cd <;> exact h)
def cmpJ : ClassFile.Cond → Int64 → Int64 → Prop
  | .eq, x, y => x = y
  | .ne, x, y => ¬ x = y
  | .lt, x, y => x.toInt < y.toInt
  | .ge, x, y => y.toInt ≤ x.toInt
  | .gt, x, y => y.toInt < x.toInt
  | .le, x, y => x.toInt ≤ y.toInt
theorem lc_iff (cd : ClassFile.Cond) (x y : Int64) : if_icmp.holds cd (lcmp3 x y) 0 = true ↔ cmpJ cd x y := by
  rw [cmpP_holds]
  obtain ⟨h1, h2, h3⟩ := c_lcmp x y
  have e : lcmp3 x y = lcmpW x y := rfl
  rw [e]
  have z : (0 : Int32).toInt = 0 := rfl
  have q : x = y ↔ x.toInt = y.toInt := Int64.toInt_inj.symm
  rcases Int.lt_trichotomy x.toInt y.toInt with h | h | h
  · have := h1 h; cases cd <;> simp only [cmpP, cmpJ, z, q] <;> omega
  · have := h2 h; cases cd <;> simp only [cmpP, cmpJ, z, q] <;> omega
  · have := h3 h; cases cd <;> simp only [cmpP, cmpJ, z, q] <;> omega
theorem lcT {cd : ClassFile.Cond} {x y : Int64} (h : cmpJ cd x y) : if_icmp.holds cd (lcmp3 x y) 0 = true := (lc_iff cd x y).mpr h
theorem lcF {cd : ClassFile.Cond} {x y : Int64} (h : ¬ cmpJ cd x y) : if_icmp.holds cd (lcmp3 x y) 0 = false := by
  rw [← Bool.not_eq_true, lc_iff]; exact h
theorem eqT {x y : Int32} (h : x = y) : if_icmp.holds .eq x y = true := (teq h).1
theorem eqF {x y : Int32} (h : ¬ x = y) : if_icmp.holds .eq x y = false := (feq h).1
theorem neT {x y : Int32} (h : ¬ x = y) : if_icmp.holds .ne x y = true := (feq h).2
theorem neF {x y : Int32} (h : x = y) : if_icmp.holds .ne x y = false := (teq h).2
/-! leaving -/
def Out (p : Program) (e : Env) (below : List Frame) (s st : State) (n0 cells slots : Nat) (Q : Option Value → Heap → Prop) : Prop :=
  ∃ s₂ o, Steps p.tables e below st s₂ ∧ s₂.status = .running ∧ Ended s₂ below o ∧ ∃ v L, o = .returned v ∧ (Fr n0 L ∧ Q v s₂.heap) ∧ FrameEnd s o s₂ L cells slots
theorem Out.mk {T : State} {locs : List Loc} {k n : Nat} {v : Option Value} {Q : Option Value → Heap → Prop} (X : Stand p l e R s m args below meth c T locs k n) (q1 : k ≤ cells) (q2 : n ≤ slots) (q3 : Fr n0 locs) (hQ : Q v T.heap) (hv : meth.sig.returnType = none → v = none) (hlk : meth.locks = false)
    (hst : ∀ fs : List Frame, (∀ (f : JFrame) (acts : List Action), f.method = m → f.locked = none → f.entered = [] → (doReturn e (T.setTop f) acts v).1 = T.setFrames fs) → Steps p.tables e below st (T.setFrames fs)) : Out p e below s st n0 cells slots Q := by
  obtain ⟨fs, hr, hrun, hended, hW, hsame⟩ := X.leave (v := v) hv hlk
  exact ⟨_, _, hst fs hr, hrun, hended, _, _, rfl, ⟨q3, hQ⟩, ⟨_, rfl⟩, hW, hsame.mono q1 q2⟩
theorem Sit.retI {z : Int32} {Q : Option Value → Heap → Prop} (h : Sit p l e R s m args below meth c bs st n0 cells slots P pc L (.int z :: S)) (hd : decode bs pc = .ok (.ireturn, 1)) (hret : meth.sig.returnType = some .int) (hlk : meth.locks = false) (hQ : ∀ hh, P hh → Q (some (.int z)) hh) : Out p e below s st n0 cells slots Q := by
  obtain ⟨T, locs, k, n, X, q1, q2, q3, q4, q5, hx, hby, q⟩ := h
  exact Out.mk X q1 q2 q3 (hQ _ q5) (fun h => by rw [hret] at h; cases h) hlk fun fs hr => q _ (Jvm.RoadKit.retI X hx hret (hb hby hd) hr)
theorem Sit.retZ {z : Int32} {Q : Option Value → Heap → Prop} (h : Sit p l e R s m args below meth c bs st n0 cells slots P pc L (.int z :: S)) (hd : decode bs pc = .ok (.ireturn, 1)) (hret : meth.sig.returnType = some .boolean) (hlk : meth.locks = false) (hQ : ∀ hh, P hh → Q (some (.int (z &&& 1))) hh) : Out p e below s st n0 cells slots Q := by
  obtain ⟨T, locs, k, n, X, q1, q2, q3, q4, q5, hx, hby, q⟩ := h
  exact Out.mk X q1 q2 q3 (hQ _ q5) (fun h => by rw [hret] at h; cases h) hlk fun fs hr => q _ (retN X hx (t := .boolean) hret (by simp) (hb hby hd) hr)
theorem Sit.retJ {z : Int64} {Q : Option Value → Heap → Prop} (h : Sit p l e R s m args below meth c bs st n0 cells slots P pc L [.long z]) (hd : decode bs pc = .ok (.lreturn, 1)) (hret : meth.sig.returnType = some .long) (hlk : meth.locks = false) (hQ : ∀ hh, P hh → Q (some (.long z)) hh) : Out p e below s st n0 cells slots Q := by
  obtain ⟨T, locs, k, n, X, q1, q2, q3, q4, q5, hx, hby, q⟩ := h
  exact Out.mk X q1 q2 q3 (hQ _ q5) (fun h => by rw [hret] at h; cases h) hlk fun fs hr => q _ (X.lreturnOut hx hret (hb hby hd) hr)
theorem Sit.retV {Q : Option Value → Heap → Prop} (h : Sit p l e R s m args below meth c bs st n0 cells slots P pc L []) (hd : decode bs pc = .ok (.return_, 1)) (hret : meth.sig.returnType = none) (hlk : meth.locks = false) (hQ : ∀ hh, P hh → Q none hh) : Out p e below s st n0 cells slots Q := by
  obtain ⟨T, locs, k, n, X, q1, q2, q3, q4, q5, hx, hby, q⟩ := h
  exact Out.mk X q1 q2 q3 (hQ _ q5) (fun _ => rfl) hlk fun fs hr => q _ (X.returnOut hx hret (hb hby hd) hr)
theorem Sit.retA {z : Addr} {t : FieldType} {Q : Option Value → Heap → Prop} (h : Sit p l e R s m args below meth c bs st n0 cells slots P pc L [.ref z]) (hd : decode bs pc = .ok (.areturn, 1)) (hret : meth.sig.returnType = some t) (ht : t.isReference = true) (hlk : meth.locks = false) (hQ : ∀ hh, P hh → Q (some (.ref z)) hh) : Out p e below s st n0 cells slots Q := by
  obtain ⟨T, locs, k, n, X, q1, q2, q3, q4, q5, hx, hby, q⟩ := h
  exact Out.mk X q1 q2 q3 (hQ _ q5) (fun h => by rw [hret] at h; cases h) hlk fun fs hr => q _ (X.areturnOut hx rfl hret ht (hb hby hd) hr)
/-! a method's contract -/
abbrev Met1 (l : Launch) (y : MethodName) (bytes : ByteArray) (maxL : Nat) (ret : Option FieldType) (ws : List Jvm.Cond) (rm : Room) (Z : State) (as : Array Value) (h0 : Heap) (n0 : Nat) (Q : Option Value → Heap → Prop) : Prop :=
  MetFree l y (head1 (Jvm.Cond.code y bytes maxL ret :: ws) rm) (fun a U => a = as ∧ Z.Warmed39 U.vm ∧ U.heap = h0) (fun _ _ _ _ _ => True) (fun _ U o U' => ∃ v L, o = .returned v ∧ (Fr n0 L ∧ Q v U'.heap) ∧ FrameEnd U o U' L rm.cells rm.slots)
theorem Met1.of {y : MethodName} {bytes : ByteArray} {maxL : Nat} {ret : Option FieldType} {ws : List Jvm.Cond} {rm : Room} {as : Array Value} {h0 : Heap} {Q : Option Value → Heap → Prop} {L0 : Array Slot} (hpn : plainFor y = true) (hef : ∀ m, entryFrame m as maxL = mkF m 0 L0 []) (Z0 : n0 ≤ h0.size)
    (body : ∀ p e s m below meth c st, Sit p l e rm s m as below meth c bytes st n0 0 0 (fun h => h = h0) 0 L0 [] → Z.Warmed39 s.vm → s.vm.findClass y.cls = some m.cls → meth.sig.returnType = ret → meth.locks = false → meth.name = y.name → c.maxLocals = maxL → Out p e below s st n0 rm.cells rm.slots Q) : Met1 l y bytes maxL ret ws rm Z as h0 n0 Q := by
  refine MetFree.of_bodySF hpn hisR ?_
  intro p e s m args below meth c s₁ Bd hml0 hP hK
  obtain ⟨rfl, hZ, hh⟩ := hP
  have e0 : s₁.heap = h0 := by rw [← hh, Bd.state]; rfl
  exact body p e s m below meth c _ ⟨s₁, [], 0, 0, Stand.of_body Bd, Nat.le_refl _, Nat.le_refl _, Fr.nil n0, by rw [hh]; exact Z0, e0, Bd.exec, Bd.bytes, fun t k => castTop (hef m) k⟩ hZ (findClass_of_methodNamed Bd.named) Bd.returns Bd.notSynchronized (name_of_methodNamed Bd.named Bd.method).1 hml0
theorem Met1.mono {y : MethodName} {bytes : ByteArray} {maxL : Nat} {ret : Option FieldType} {ws : List Jvm.Cond} {rm : Room} {as : Array Value} {h0 : Heap} {Q Q' : Option Value → Heap → Prop} (h : Met1 l y bytes maxL ret ws rm Z as h0 n0 Q) (f : ∀ v hh, Q v hh → Q' v hh) : Met1 l y bytes maxL ret ws rm Z as h0 n0 Q' := by
  intro p e ha hc hk s m args below hf happ hP hK
  obtain ⟨n, o, h1, h2, h3, v, L, h4, ⟨h5, h6⟩, h7⟩ := h p e ha hc hk s m args below hf happ hP hK
  exact ⟨n, o, h1, h2, h3, v, L, h4, ⟨h5, f _ _ h6⟩, h7⟩
/-! a static call by its contract -/
theorem Sit.callS {index : Nat} {y : MethodName} {bytes : ByteArray} {maxL maxO : Nat} {ret : Option FieldType} {rm : Room} {Q : Option Value → Heap → Prop} {W : Nat} (argsL rest : List Value) (h : Sit p l e R s m args below meth c bs st n0 cells slots P pc L (argsL.reverse ++ rest)) (hZ : Z.Warmed39 s.vm) (hown : s.vm.findClass own = some m.cls)
    (w1 : (Cond.methodLink own index y).before a0 Z = true) (w2 : (Cond.static y).before a0 Z = true) (w3 : (Cond.initialized y.cls).before a0 Z = true) (w4 : (Cond.code y bytes maxL ret).before a0 Z = true) (hy : y.cls ≠ "java/lang/invoke/MethodHandle" ∧ y.cls ≠ "java/lang/invoke/VarHandle")
    (hM : ∀ h0, P h0 → n0 ≤ h0.size → Met1 l y bytes maxL ret [] rm Z argsL.toArray h0 n0 Q) (hml : c.maxLocals = maxO) (hsz : L.size = maxO) (hlen : ∀ sig, parseMethodDescriptor y.desc = some sig → argsL.length = sig.parameters.length) (hd : decode bs pc = .ok (.invokestatic index, 3)) (hW : 2 * 0 + (rest.map fun v => v.category).sum ≤ W)
    (hf : rm.frames + 1 ≤ R.frames) (hl : W + (maxL + 11) + rm.locals ≤ R.locals) (hcl : cells + rm.cells ≤ R.cells) (hsl : slots + rm.slots ≤ R.slots) (hp : pc + 3 = pc') :
    ∃ v : Option Value, Sit p l e R s m args below meth c bs st n0 (cells + rm.cells) (slots + rm.slots) (fun hh => Q v hh) pc' L (v.toList ++ rest) := by
  subst hp
  obtain ⟨T, locs, k, n, X, q1, q2, q3, q4, q5, hx, hby, q⟩ := h
  obtain ⟨v, _, ⟨T2, L2, k2, n2⟩, -, X2, ⟨Lc2, ⟨hN2, hQ2⟩, l2, y2, z2⟩, st2⟩ := Jvm.LawKit.callS X hx (y := y) hown (mvT hZ w1) (mvT hZ w2) (mvT hZ w3) (mvT hZ w4) hy (backOf (W := W) (Q := fun v hh L => Fr n0 L ∧ Q v hh) (hM T.heap q5 (Nat.le_trans q4 X.same.2.1)) hZ w4 w3 hf hl) (g := mkF m pc L (argsL.reverse ++ rest)) rfl (by rw [hml]; exact hsz) (argsL := argsL) (rest := rest) hlen rfl hW (hb hby hd) (fun _ _ => ⟨rfl, rfl, Nat.le_trans (Nat.add_le_add_right q1 _) hcl, Nat.le_trans (Nat.add_le_add_right q2 _) hsl⟩)
  dsimp only [Pt.U, Pt.locs, Pt.cells, Pt.slots] at X2 l2 y2 z2 st2 hQ2
  subst l2 y2 z2
  exact ⟨v, T2, _, _, _, X2, Nat.add_le_add_right q1 _, Nat.add_le_add_right q2 _, Fr.app q3 hN2, q4, hQ2, hx, hby, fun t z => q t (st2 t z)⟩
end OwnKit


def nat (x : Int64) : Nat := x.toInt.toNat
def gF (x y : Int64) : Int64 := Int64.ofNat (Nat.gcd (nat x) (nat y))
theorem nat_eq {x : Int64} (h : 0 ≤ x.toInt) : x.toInt = (nat x : Int) := by unfold nat; omega
theorem nat_lt (x : Int64) : nat x < 2 ^ 63 := by have := rng64 x; unfold nat; omega
theorem nat_rem {x y : Int64} (hx : 0 ≤ x.toInt) (hy : 0 ≤ y.toInt) : nat (x % y) = nat x % nat y ∧ 0 ≤ (x % y).toInt := by
  have e : (x % y).toInt = ((nat x % nat y : Nat) : Int) := by
    rw [Int64.toInt_mod, Int.tmod_eq_emod_of_nonneg hx, nat_eq hx, nat_eq hy]; rfl
  constructor
  · show (x % y).toInt.toNat = _
    rw [e]; rfl
  · rw [e]; exact Int.natCast_nonneg _
theorem nat_zero {x : Int64} (hx : 0 ≤ x.toInt) (h : nat x = 0) : x = 0 := by
  apply Int64.toInt_inj.mp
  rw [nat_eq hx, h]; rfl
theorem of_nat {x : Int64} (hx : 0 ≤ x.toInt) : Int64.ofNat (nat x) = x := by
  apply Int64.toInt_inj.mp
  rw [Int64.toInt_ofNat_of_lt (nat_lt x), ← nat_eq hx]
theorem gcd_lt (x y : Int64) : Nat.gcd (nat x) (nat y) < 2 ^ 63 := by
  rcases Nat.eq_zero_or_pos (nat x) with h | h
  · rw [h, Nat.gcd_zero_left]; exact nat_lt y
  · exact Nat.lt_of_le_of_lt (Nat.le_of_dvd h (Nat.gcd_dvd_left _ _)) (nat_lt x)
theorem gF_int (x y : Int64) : (gF x y).toInt = (Nat.gcd (nat x) (nat y) : Int) := Int64.toInt_ofNat_of_lt (gcd_lt x y)
theorem gF_nat (x y : Int64) : nat (gF x y) = Nat.gcd (nat x) (nat y) := by unfold nat; rw [gF_int]; rfl
theorem gF_step {x y : Int64} (hx : 0 ≤ x.toInt) (hy : 0 ≤ y.toInt) : gF y (x % y) = gF x y := by
  unfold gF
  rw [(nat_rem hx hy).1, Nat.gcd_comm (nat x), Nat.gcd_rec (nat y) (nat x), Nat.gcd_comm]
theorem gF_zero {x : Int64} (hx : 0 ≤ x.toInt) : gF x 0 = x := by
  have e : nat 0 = 0 := rfl
  unfold gF
  rw [e, Nat.gcd_zero_right, of_nat hx]
theorem gF_pos {x y : Int64} (hx : 0 ≤ x.toInt) (hy : 0 ≤ y.toInt) (h : ¬ (x = 0 ∧ y = 0)) : 0 < (gF x y).toInt := by
  rw [gF_int]
  have : 0 < Nat.gcd (nat x) (nat y) := by
    rcases Nat.eq_zero_or_pos (Nat.gcd (nat x) (nat y)) with q | q
    · exact absurd ⟨nat_zero hx (Nat.eq_zero_of_gcd_eq_zero_left q), nat_zero hy (Nat.eq_zero_of_gcd_eq_zero_right q)⟩ h
    · exact q
  omega
theorem rem_zero {x y : Int64} (hx : 0 ≤ x.toInt) (hy : 0 ≤ y.toInt) (h : nat y ∣ nat x) : x % y = 0 := by
  have q := nat_rem hx hy
  exact nat_zero q.2 (by rw [q.1]; exact Nat.mod_eq_zero_of_dvd h)
theorem dvd_of {x y : Int64} (hx : 0 ≤ x.toInt) (hy : 0 ≤ y.toInt) (h : x % y = 0) : nat y ∣ nat x := by
  have q := (nat_rem hx hy).1
  rw [h] at q
  exact Nat.dvd_of_mod_eq_zero q.symm
theorem mask63 (x : Int64) : 0 ≤ (x &&& (9223372036854775807 : Int64)).toInt := by
  rw [c_maskL x _ 63 (by decide) (by decide)]
  have : (0 : Int) < ((2 ^ 63 : Nat) : Int) := by decide
  exact Int.emod_nonneg _ (by omega)
theorem mask31 (x : Int64) : 0 ≤ (x &&& (2147483647 : Int64)).toInt ∧ (x &&& (2147483647 : Int64)).toInt < 2147483648 := by
  rw [c_maskL x _ 31 (by decide) (by decide)]
  have e : ((2 ^ 31 : Nat) : Int) = 2147483648 := rfl
  rw [e]; omega
theorem kpos (x : Int64) : 0 < ((x &&& (2147483647 : Int64)) + (1 : Int64)).toInt ∧ ((x &&& (2147483647 : Int64)) + (1 : Int64)).toInt ≤ 2147483648 := by
  have h := mask31 x
  have q := c_ladd (x &&& (2147483647 : Int64)) (1 : Int64)
  have r := rng64 ((x &&& (2147483647 : Int64)) + (1 : Int64))
  have e : (1 : Int64).toInt = 1 := rfl
  rw [e] at q
  omega
theorem kmul {x y : Int64} (hx : 0 < x.toInt ∧ x.toInt ≤ 2147483648) (hy : 0 ≤ y.toInt ∧ y.toInt < 2147483648) : 0 ≤ (x * y).toInt := by
  have q := c_lmul x y
  have r := rng64 (x * y)
  have h1 : 0 ≤ x.toInt * y.toInt := Int.mul_nonneg (by omega) hy.1
  have h2 : x.toInt * y.toInt ≤ 2147483648 * 2147483648 := Int.mul_le_mul hx.2 (by omega) hy.1 (by decide)
  omega

theorem pn_rm1 : plainName "com/example/rondo/rondo/Cycle" = true := by first | (simp [plainName, overriddenIn]; done) | decide +kernel
theorem d1_0 : decode prog_1_method_3_code 0 = .ok (.lload_n 0, 1) := by decide +kernel
theorem d1_1 : decode prog_1_method_3_code 1 = .ok (.lstore 4, 2) := by decide +kernel
theorem d1_3 : decode prog_1_method_3_code 3 = .ok (.lload_n 2, 1) := by decide +kernel
theorem d1_4 : decode prog_1_method_3_code 4 = .ok (.lstore 6, 2) := by decide +kernel
theorem d1_6 : decode prog_1_method_3_code 6 = .ok (.lload 6, 2) := by decide +kernel
theorem d1_8 : decode prog_1_method_3_code 8 = .ok (.lconst 0, 1) := by decide +kernel
theorem d1_9 : decode prog_1_method_3_code 9 = .ok (.lcmp, 1) := by decide +kernel
theorem d1_10 : decode prog_1_method_3_code 10 = .ok (.ifCond .eq 21, 3) := by decide +kernel
theorem d1_13 : decode prog_1_method_3_code 13 = .ok (.lload 4, 2) := by decide +kernel
theorem d1_15 : decode prog_1_method_3_code 15 = .ok (.lload 6, 2) := by decide +kernel
theorem d1_17 : decode prog_1_method_3_code 17 = .ok (.lrem, 1) := by decide +kernel
theorem d1_18 : decode prog_1_method_3_code 18 = .ok (.lstore 8, 2) := by decide +kernel
theorem d1_20 : decode prog_1_method_3_code 20 = .ok (.lload 6, 2) := by decide +kernel
theorem d1_22 : decode prog_1_method_3_code 22 = .ok (.lstore 4, 2) := by decide +kernel
theorem d1_24 : decode prog_1_method_3_code 24 = .ok (.lload 8, 2) := by decide +kernel
theorem d1_26 : decode prog_1_method_3_code 26 = .ok (.lstore 6, 2) := by decide +kernel
theorem d1_28 : decode prog_1_method_3_code 28 = .ok (.goto (-22), 3) := by decide +kernel
theorem d1_31 : decode prog_1_method_3_code 31 = .ok (.lload 4, 2) := by decide +kernel
theorem d1_33 : decode prog_1_method_3_code 33 = .ok (.lreturn, 1) := by decide +kernel
theorem ef_rm1 (m : MethodId) (a : Int64) (b : Int64) : entryFrame m #[(.long a), (.long b)] 10 = mkF m 0 #[.val (.long a), .second, .val (.long b), .second, .unset, .unset, .unset, .unset, .unset, .unset] [] := by first | (simp [entryFrame, mkF, argsToLocals, Value.category]; done) | rfl
set_option maxRecDepth 65536 in
set_option maxHeartbeats 40000000 in
theorem rm1 (l : Launch) (Z : State) (a0 : Array Value) (hw : ∀ d ∈ tables_1, d.before a0 Z = true) (wcs : List Jvm.Cond) (a : Int64) (b : Int64)  (h0 : Heap) (n0 : Nat) (Z0 : n0 ≤ h0.size) (ha : 0 ≤ a.toInt) (hbb : 0 ≤ b.toInt) : Met1 l (⟨"com/example/rondo/rondo/Cycle", "gcd", "(JJ)J"⟩ : MethodName) prog_1_method_3_code 10 (some .long) wcs ({ frames := 0, cells := 0, slots := 0, locals := 0 } : Room) Z #[(.long a), (.long b)] h0 n0 (fun v hh => v = some (.long (gF a b)) ∧ hh = h0) := by
  refine Met1.of (L0 := #[.val (.long a), .second, .val (.long b), .second, .unset, .unset, .unset, .unset, .unset, .unset]) (plainFor_of_name pn_rm1) (fun m => ef_rm1 m a b) Z0 ?_
  intro p e s m below meth c st s0 hZ hown hret hlk hnm hml
  have s1 : Sit p l e _ s m _ below meth c _ st n0 0 0 _ 6 #[.val (.long a), .second, .val (.long b), .second, .val (.long a), .second, .val (.long b), .second, .unset, .unset] [] := s0
    |>.lloadN d1_0 rfl rfl
    |>.lstore #[.val (.long a), .second, .val (.long b), .second, .val (.long a), .second, .unset, .unset, .unset, .unset] d1_1 rfl rfl
    |>.lloadN d1_3 rfl rfl
    |>.lstore #[.val (.long a), .second, .val (.long b), .second, .val (.long a), .second, .val (.long b), .second, .unset, .unset] d1_4 rfl rfl
  have fin : ∀ x y z : Int64, 0 ≤ x.toInt → y = 0 → gF x y = gF a b → Sit p l e ({ frames := 0, cells := 0, slots := 0, locals := 0 } : Room) s m #[(.long a), (.long b)] below meth c prog_1_method_3_code st n0 0 0 (fun hh => hh = h0) 6 #[.val (.long a), .second, .val (.long b), .second, .val (.long x), .second, .val (.long y), .second, .val (.long z), .second] [] → Out p e below s st n0 0 0 (fun v hh => v = some (.long (gF a b)) ∧ hh = h0) := by
    intro x y z hx hy hg q0
    subst hy
    have s2 : Sit p l e _ s m _ below meth c _ st n0 0 0 _ 10 #[.val (.long a), .second, .val (.long b), .second, .val (.long x), .second, .val (.long (0 : Int64)), .second, .val (.long z), .second] [(.int (lcmp3 (0 : Int64) (0 : Int64)))] := q0
      |>.lload d1_6 rfl rfl
      |>.lconst (0 : Int64) d1_8 rfl rfl
      |>.lcmp d1_9 rfl
    have s3 : Sit p l e _ s m _ below meth c _ st n0 0 0 _ 33 #[.val (.long a), .second, .val (.long b), .second, .val (.long x), .second, .val (.long (0 : Int64)), .second, .val (.long z), .second] [(.long x)] := s2
      |>.ifY d1_10 (lcT (cd := .eq) (rfl)) (by decide) (by decide)
      |>.lload d1_31 rfl rfl
    exact s3.retJ d1_33 hret hlk (fun hh q => ⟨by rw [← hg, gF_zero hx], q⟩)
  have loop : ∀ (n : Nat) (x y z : Int64), 0 ≤ x.toInt → 0 ≤ y.toInt → nat y ≤ n → gF x y = gF a b → Sit p l e ({ frames := 0, cells := 0, slots := 0, locals := 0 } : Room) s m #[(.long a), (.long b)] below meth c prog_1_method_3_code st n0 0 0 (fun hh => hh = h0) 6 #[.val (.long a), .second, .val (.long b), .second, .val (.long x), .second, .val (.long y), .second, .val (.long z), .second] [] → Out p e below s st n0 0 0 (fun v hh => v = some (.long (gF a b)) ∧ hh = h0) := by
    intro n
    induction n with
    | zero => exact fun x y z hx hy hn hg q0 => fin x y z hx (nat_zero hy (Nat.le_zero.mp hn)) hg q0
    | succ n ih =>
      intro x y z hx hy hn hg q0
      by_cases cy : y = 0
      · exact fin x y z hx cy hg q0
      · have s4 : Sit p l e _ s m _ below meth c _ st n0 0 0 _ 10 #[.val (.long a), .second, .val (.long b), .second, .val (.long x), .second, .val (.long y), .second, .val (.long z), .second] [(.int (lcmp3 y (0 : Int64)))] := q0
          |>.lload d1_6 rfl rfl
          |>.lconst (0 : Int64) d1_8 rfl rfl
          |>.lcmp d1_9 rfl
        have s5 : Sit p l e _ s m _ below meth c _ st n0 0 0 _ 17 #[.val (.long a), .second, .val (.long b), .second, .val (.long x), .second, .val (.long y), .second, .val (.long z), .second] [(.long y), (.long x)] := s4
          |>.ifN d1_10 (lcF (cd := .eq) (cy)) rfl
          |>.lload d1_13 rfl rfl
          |>.lload d1_15 rfl rfl
        have s6 : Sit p l e _ s m _ below meth c _ st n0 0 0 _ 6 #[.val (.long a), .second, .val (.long b), .second, .val (.long y), .second, .val (.long (x % y)), .second, .val (.long (x % y)), .second] [] := s5
          |>.lrem d1_17 (cy) rfl
          |>.lstore #[.val (.long a), .second, .val (.long b), .second, .val (.long x), .second, .val (.long y), .second, .val (.long (x % y)), .second] d1_18 rfl rfl
          |>.lload d1_20 rfl rfl
          |>.lstore #[.val (.long a), .second, .val (.long b), .second, .val (.long y), .second, .val (.long y), .second, .val (.long (x % y)), .second] d1_22 rfl rfl
          |>.lload d1_24 rfl rfl
          |>.lstore #[.val (.long a), .second, .val (.long b), .second, .val (.long y), .second, .val (.long (x % y)), .second, .val (.long (x % y)), .second] d1_26 rfl rfl
          |>.goto d1_28 (by decide) (by decide)
        have q := nat_rem hx hy
        have p0 : 0 < nat y := Nat.pos_of_ne_zero fun h => cy (nat_zero hy h)
        exact ih _ _ _ hy q.2 (by rw [q.1]; have := Nat.mod_lt (nat x) p0; omega) ((gF_step hx hy).trans hg) s6
  by_cases cb : b = 0
  · have s7 : Sit p l e _ s m _ below meth c _ st n0 0 0 _ 10 #[.val (.long a), .second, .val (.long b), .second, .val (.long a), .second, .val (.long b), .second, .unset, .unset] [(.int (lcmp3 b (0 : Int64)))] := s1
      |>.lload d1_6 rfl rfl
      |>.lconst (0 : Int64) d1_8 rfl rfl
      |>.lcmp d1_9 rfl
    have s8 : Sit p l e _ s m _ below meth c _ st n0 0 0 _ 33 #[.val (.long a), .second, .val (.long b), .second, .val (.long a), .second, .val (.long b), .second, .unset, .unset] [(.long a)] := s7
      |>.ifY d1_10 (lcT (cd := .eq) (cb)) (by decide) (by decide)
      |>.lload d1_31 rfl rfl
    exact s8.retJ d1_33 hret hlk (fun hh q => ⟨by rw [cb, gF_zero ha], q⟩)
  · have s9 : Sit p l e _ s m _ below meth c _ st n0 0 0 _ 10 #[.val (.long a), .second, .val (.long b), .second, .val (.long a), .second, .val (.long b), .second, .unset, .unset] [(.int (lcmp3 b (0 : Int64)))] := s1
      |>.lload d1_6 rfl rfl
      |>.lconst (0 : Int64) d1_8 rfl rfl
      |>.lcmp d1_9 rfl
    have s10 : Sit p l e _ s m _ below meth c _ st n0 0 0 _ 17 #[.val (.long a), .second, .val (.long b), .second, .val (.long a), .second, .val (.long b), .second, .unset, .unset] [(.long b), (.long a)] := s9
      |>.ifN d1_10 (lcF (cd := .eq) (cb)) rfl
      |>.lload d1_13 rfl rfl
      |>.lload d1_15 rfl rfl
    have s11 : Sit p l e _ s m _ below meth c _ st n0 0 0 _ 6 #[.val (.long a), .second, .val (.long b), .second, .val (.long b), .second, .val (.long (a % b)), .second, .val (.long (a % b)), .second] [] := s10
      |>.lrem d1_17 (cb) rfl
      |>.lstore #[.val (.long a), .second, .val (.long b), .second, .val (.long a), .second, .val (.long b), .second, .val (.long (a % b)), .second] d1_18 rfl rfl
      |>.lload d1_20 rfl rfl
      |>.lstore #[.val (.long a), .second, .val (.long b), .second, .val (.long b), .second, .val (.long b), .second, .val (.long (a % b)), .second] d1_22 rfl rfl
      |>.lload d1_24 rfl rfl
      |>.lstore #[.val (.long a), .second, .val (.long b), .second, .val (.long b), .second, .val (.long (a % b)), .second, .val (.long (a % b)), .second] d1_26 rfl rfl
      |>.goto d1_28 (by decide) (by decide)
    exact loop _ _ _ _ hbb (nat_rem ha hbb).2 (Nat.le_refl _) (gF_step ha hbb) s11
theorem pd_0 : parseMethodDescriptor "(JJ)J" = some ⟨[.long, .long], some .long⟩ := by decide +kernel
theorem pn_rm0 : plainName "com/example/rondo/rondo/CycleGcdPinLaw" = true := by first | (simp [plainName, overriddenIn]; done) | decide +kernel
theorem ef_rm0 (m : MethodId) (u0 : Int64) (u1 : Int64) (u2 : Int64) (fl : Int32) : entryFrame m #[(.long u0), (.long u1), (.long u2), (.int fl)] maxLocals = mkF m 0 #[.val (.long u0), .second, .val (.long u1), .second, .val (.long u2), .second, .val (.int fl), .unset, .unset, .unset, .unset, .unset, .unset, .unset, .unset] [] := by first | (simp [entryFrame, mkF, argsToLocals, Value.category, maxLocals]; done) | rfl
set_option maxRecDepth 65536 in
set_option maxHeartbeats 40000000 in
theorem rm0 (l : Launch) (Z : State) (a0 : Array Value) (hw : ∀ d ∈ tables_1, d.before a0 Z = true) (wcs : List Jvm.Cond) (u0 : Int64) (u1 : Int64) (u2 : Int64) (fl : Int32)  (h0 : Heap) (n0 : Nat) (Z0 : n0 ≤ h0.size)  : Met1 l x code maxLocals ret wcs room_1 Z #[(.long u0), (.long u1), (.long u2), (.int fl)] h0 n0 (fun v hh => v = some (.int 1)) := by
  refine Met1.of (L0 := #[.val (.long u0), .second, .val (.long u1), .second, .val (.long u2), .second, .val (.int fl), .unset, .unset, .unset, .unset, .unset, .unset, .unset, .unset]) (plainFor_of_name pn_rm0) (fun m => ef_rm0 m u0 u1 u2 fl) Z0 ?_
  intro p e s m below meth c st s0 hZ hown hret hlk hnm hml
  have hown : s.vm.findClass "com/example/rondo/rondo/CycleGcdPinLaw" = some m.cls := hown
  have hret : meth.sig.returnType = some .boolean := hret
  have hml : c.maxLocals = 15 := hml
  have s1 : Sit p l e _ s m _ below meth c _ st n0 0 0 _ 4 #[.val (.long u0), .second, .val (.long u1), .second, .val (.long u2), .second, .val (.int fl), .unset, .unset, .unset, .unset, .unset, .unset, .unset, .unset] [(.int (fl &&& (1 : Int32)))] := s0
    |>.iload at_0 rfl rfl
    |>.iconst (1 : Int32) at_2 rfl rfl
    |>.iand at_3 rfl
  by_cases c0 : (fl &&& (1 : Int32)) = 0
  · have s2 : Sit p l e _ s m _ below meth c _ st n0 0 0 _ 66 #[.val (.long u0), .second, .val (.long u1), .second, .val (.long u2), .second, .val (.int fl), .val (.long (u0 &&& (9223372036854775807 : Int64))), .second, .val (.long (u1 &&& (9223372036854775807 : Int64))), .second, .val (.long (u2 &&& (9223372036854775807 : Int64))), .second, .unset, .unset] [] := s1
      |>.ifY at_4 (eqT c0) (by decide) (by decide)
      |>.lloadN at_44 rfl rfl
      |>.ldc2 hZ hown (wi hw 0 rfl) at_45 rfl
      |>.land at_48 rfl
      |>.lstore #[.val (.long u0), .second, .val (.long u1), .second, .val (.long u2), .second, .val (.int fl), .val (.long (u0 &&& (9223372036854775807 : Int64))), .second, .unset, .unset, .unset, .unset, .unset, .unset] at_49 rfl rfl
      |>.lloadN at_51 rfl rfl
      |>.ldc2 hZ hown (wi hw 0 rfl) at_52 rfl
      |>.land at_55 rfl
      |>.lstore #[.val (.long u0), .second, .val (.long u1), .second, .val (.long u2), .second, .val (.int fl), .val (.long (u0 &&& (9223372036854775807 : Int64))), .second, .val (.long (u1 &&& (9223372036854775807 : Int64))), .second, .unset, .unset, .unset, .unset] at_56 rfl rfl
      |>.lload at_58 rfl rfl
      |>.ldc2 hZ hown (wi hw 0 rfl) at_60 rfl
      |>.land at_63 rfl
      |>.lstore #[.val (.long u0), .second, .val (.long u1), .second, .val (.long u2), .second, .val (.int fl), .val (.long (u0 &&& (9223372036854775807 : Int64))), .second, .val (.long (u1 &&& (9223372036854775807 : Int64))), .second, .val (.long (u2 &&& (9223372036854775807 : Int64))), .second, .unset, .unset] at_64 rfl rfl
    obtain ⟨A, e_A, s3⟩ : ∃ A : Int64, A = (u0 &&& (9223372036854775807 : Int64)) ∧ Sit p l e _ s m _ below meth c _ st n0 0 0 _ 66 #[.val (.long u0), .second, .val (.long u1), .second, .val (.long u2), .second, .val (.int fl), .val (.long A), .second, .val (.long (u1 &&& (9223372036854775807 : Int64))), .second, .val (.long (u2 &&& (9223372036854775807 : Int64))), .second, .unset, .unset] [] := ⟨_, rfl, s2⟩
    obtain ⟨B, e_B, s4⟩ : ∃ B : Int64, B = (u1 &&& (9223372036854775807 : Int64)) ∧ Sit p l e _ s m _ below meth c _ st n0 0 0 _ 66 #[.val (.long u0), .second, .val (.long u1), .second, .val (.long u2), .second, .val (.int fl), .val (.long A), .second, .val (.long B), .second, .val (.long (u2 &&& (9223372036854775807 : Int64))), .second, .unset, .unset] [] := ⟨_, rfl, s3⟩
    obtain ⟨D, e_D, s5⟩ : ∃ D : Int64, D = (u2 &&& (9223372036854775807 : Int64)) ∧ Sit p l e _ s m _ below meth c _ st n0 0 0 _ 66 #[.val (.long u0), .second, .val (.long u1), .second, .val (.long u2), .second, .val (.int fl), .val (.long A), .second, .val (.long B), .second, .val (.long D), .second, .unset, .unset] [] := ⟨_, rfl, s4⟩
    have hA : 0 ≤ A.toInt := by rw [e_A]; exact mask63 _
    have hB : 0 ≤ B.toInt := by rw [e_B]; exact mask63 _
    have hD : 0 ≤ D.toInt := by rw [e_D]; exact mask63 _
    have s6 : Sit p l e _ s m _ below meth c _ st n0 0 0 _ 70 #[.val (.long u0), .second, .val (.long u1), .second, .val (.long u2), .second, .val (.int fl), .val (.long A), .second, .val (.long B), .second, .val (.long D), .second, .unset, .unset] [(.int (lcmp3 A (0 : Int64)))] := s5
      |>.lload at_66 rfl rfl
      |>.lconst (0 : Int64) at_68 rfl rfl
      |>.lcmp at_69 rfl
    by_cases c1 : ¬ A = (0 : Int64)
    · have s7 : Sit p l e _ s m _ below meth c _ st n0 0 0 _ 86 #[.val (.long u0), .second, .val (.long u1), .second, .val (.long u2), .second, .val (.int fl), .val (.long A), .second, .val (.long B), .second, .val (.long D), .second, .unset, .unset] [(.long B), (.long A)] := s6
        |>.ifY at_70 (lcT (cd := .ne) c1) (by decide) (by decide)
        |>.lload at_82 rfl rfl
        |>.lload at_84 rfl rfl
      obtain ⟨r9, s8⟩ := Sit.callS (y := (⟨"com/example/rondo/rondo/Cycle", "gcd", "(JJ)J"⟩ : MethodName)) (W := 0) (Q := fun v hh => (v = some (.long (gF A B))) ∧ (fun hh => hh = h0) hh) [(.long A), (.long B)] [] s7 hZ hown (wi hw 1 rfl) (wi hw 2 rfl) (wi hw 3 rfl) (wi hw 4 rfl) (by decide) (fun h1 hP hn => (rm1 l Z a0 hw [] A B h1 n0 hn hA hB).mono fun v hh q => ⟨q.1, q.2 ▸ hP⟩) hml rfl (lenOf pd_0 rfl) at_86 (Nat.le_of_eq rfl) (by decide) (by decide) (by decide) (by decide) (pc' := 89) rfl
      obtain ⟨_, er9, _⟩ := s8.facts
      subst er9
      have s10 : Sit p l e _ s m _ below meth c _ st n0 0 0 (fun hh => hh = h0) 89 #[.val (.long u0), .second, .val (.long u1), .second, .val (.long u2), .second, .val (.int fl), .val (.long A), .second, .val (.long B), .second, .val (.long D), .second, .unset, .unset] [(.long (gF A B))] := s8.mono fun _ q => q.2
      have s11 : Sit p l e _ s m _ below meth c _ st n0 0 0 _ 95 #[.val (.long u0), .second, .val (.long u1), .second, .val (.long u2), .second, .val (.int fl), .val (.long A), .second, .val (.long B), .second, .val (.long D), .second, .val (.long (gF A B)), .second] [(.int (lcmp3 (gF A B) (0 : Int64)))] := s10
        |>.lstore #[.val (.long u0), .second, .val (.long u1), .second, .val (.long u2), .second, .val (.int fl), .val (.long A), .second, .val (.long B), .second, .val (.long D), .second, .val (.long (gF A B)), .second] at_89 rfl rfl
        |>.lload at_91 rfl rfl
        |>.lconst (0 : Int64) at_93 rfl rfl
        |>.lcmp at_94 rfl
      have gp : 0 < (gF A B).toInt := gF_pos hA hB (fun h => c1 h.1)
      have gz : gF A B ≠ 0 := fun h => by rw [h] at gp; exact absurd gp (by decide)
      have gg : 0 ≤ (gF A B).toInt := by omega
      have s12 : Sit p l e _ s m _ below meth c _ st n0 0 0 _ 104 #[.val (.long u0), .second, .val (.long u1), .second, .val (.long u2), .second, .val (.int fl), .val (.long A), .second, .val (.long B), .second, .val (.long D), .second, .val (.long (gF A B)), .second] [(.long (gF A B)), (.long A)] := s11
        |>.ifY at_95 (lcT (cd := .gt) (gp)) (by decide) (by decide)
        |>.lload at_100 rfl rfl
        |>.lload at_102 rfl rfl
      have s13 : Sit p l e _ s m _ below meth c _ st n0 0 0 _ 107 #[.val (.long u0), .second, .val (.long u1), .second, .val (.long u2), .second, .val (.int fl), .val (.long A), .second, .val (.long B), .second, .val (.long D), .second, .val (.long (gF A B)), .second] [(.int (lcmp3 (A % (gF A B)) (0 : Int64)))] := s12
        |>.lrem at_104 (gz) rfl
        |>.lconst (0 : Int64) at_105 rfl rfl
        |>.lcmp at_106 rfl
      have s14 : Sit p l e _ s m _ below meth c _ st n0 0 0 _ 114 #[.val (.long u0), .second, .val (.long u1), .second, .val (.long u2), .second, .val (.int fl), .val (.long A), .second, .val (.long B), .second, .val (.long D), .second, .val (.long (gF A B)), .second] [(.long (gF A B)), (.long B)] := s13
        |>.ifN at_107 (lcF (cd := .ne) (fun h => h (rem_zero hA gg (by rw [gF_nat]; exact Nat.gcd_dvd_left _ _)))) rfl
        |>.lload at_110 rfl rfl
        |>.lload at_112 rfl rfl
      have s15 : Sit p l e _ s m _ below meth c _ st n0 0 0 _ 117 #[.val (.long u0), .second, .val (.long u1), .second, .val (.long u2), .second, .val (.int fl), .val (.long A), .second, .val (.long B), .second, .val (.long D), .second, .val (.long (gF A B)), .second] [(.int (lcmp3 (B % (gF A B)) (0 : Int64)))] := s14
        |>.lrem at_114 (gz) rfl
        |>.lconst (0 : Int64) at_115 rfl rfl
        |>.lcmp at_116 rfl
      have s16 : Sit p l e _ s m _ below meth c _ st n0 0 0 _ 126 #[.val (.long u0), .second, .val (.long u1), .second, .val (.long u2), .second, .val (.int fl), .val (.long A), .second, .val (.long B), .second, .val (.long D), .second, .val (.long (gF A B)), .second] [(.int (lcmp3 D (0 : Int64)))] := s15
        |>.ifY at_117 (lcT (cd := .eq) (rem_zero hB gg (by rw [gF_nat]; exact Nat.gcd_dvd_right _ _))) (by decide) (by decide)
        |>.lload at_122 rfl rfl
        |>.lconst (0 : Int64) at_124 rfl rfl
        |>.lcmp at_125 rfl
      by_cases c2 : D = (0 : Int64)
      · have s17 : Sit p l e _ s m _ below meth c _ st n0 0 0 _ 162 #[.val (.long u0), .second, .val (.long u1), .second, .val (.long u2), .second, .val (.int fl), .val (.long A), .second, .val (.long B), .second, .val (.long D), .second, .val (.long (gF A B)), .second] [(.int (1 : Int32))] := s16
          |>.ifY at_126 (lcT (cd := .eq) c2) (by decide) (by decide)
          |>.iconst (1 : Int32) at_161 rfl rfl
        exact s17.retZ at_162 hret hlk (fun hh q => rfl)
      · have s18 : Sit p l e _ s m _ below meth c _ st n0 0 0 _ 133 #[.val (.long u0), .second, .val (.long u1), .second, .val (.long u2), .second, .val (.int fl), .val (.long A), .second, .val (.long B), .second, .val (.long D), .second, .val (.long (gF A B)), .second] [(.long D), (.long A)] := s16
          |>.ifN at_126 (lcF (cd := .eq) c2) rfl
          |>.lload at_129 rfl rfl
          |>.lload at_131 rfl rfl
        have s19 : Sit p l e _ s m _ below meth c _ st n0 0 0 _ 136 #[.val (.long u0), .second, .val (.long u1), .second, .val (.long u2), .second, .val (.int fl), .val (.long A), .second, .val (.long B), .second, .val (.long D), .second, .val (.long (gF A B)), .second] [(.int (lcmp3 (A % D) (0 : Int64)))] := s18
          |>.lrem at_133 (c2) rfl
          |>.lconst (0 : Int64) at_134 rfl rfl
          |>.lcmp at_135 rfl
        by_cases c3 : ¬ (A % D) = (0 : Int64)
        · have s20 : Sit p l e _ s m _ below meth c _ st n0 0 0 _ 162 #[.val (.long u0), .second, .val (.long u1), .second, .val (.long u2), .second, .val (.int fl), .val (.long A), .second, .val (.long B), .second, .val (.long D), .second, .val (.long (gF A B)), .second] [(.int (1 : Int32))] := s19
            |>.ifY at_136 (lcT (cd := .ne) c3) (by decide) (by decide)
            |>.iconst (1 : Int32) at_161 rfl rfl
          exact s20.retZ at_162 hret hlk (fun hh q => rfl)
        · have s21 : Sit p l e _ s m _ below meth c _ st n0 0 0 _ 143 #[.val (.long u0), .second, .val (.long u1), .second, .val (.long u2), .second, .val (.int fl), .val (.long A), .second, .val (.long B), .second, .val (.long D), .second, .val (.long (gF A B)), .second] [(.long D), (.long B)] := s19
            |>.ifN at_136 (lcF (cd := .ne) c3) rfl
            |>.lload at_139 rfl rfl
            |>.lload at_141 rfl rfl
          have s22 : Sit p l e _ s m _ below meth c _ st n0 0 0 _ 146 #[.val (.long u0), .second, .val (.long u1), .second, .val (.long u2), .second, .val (.int fl), .val (.long A), .second, .val (.long B), .second, .val (.long D), .second, .val (.long (gF A B)), .second] [(.int (lcmp3 (B % D) (0 : Int64)))] := s21
            |>.lrem at_143 (c2) rfl
            |>.lconst (0 : Int64) at_144 rfl rfl
            |>.lcmp at_145 rfl
          by_cases c4 : ¬ (B % D) = (0 : Int64)
          · have s23 : Sit p l e _ s m _ below meth c _ st n0 0 0 _ 162 #[.val (.long u0), .second, .val (.long u1), .second, .val (.long u2), .second, .val (.int fl), .val (.long A), .second, .val (.long B), .second, .val (.long D), .second, .val (.long (gF A B)), .second] [(.int (1 : Int32))] := s22
              |>.ifY at_146 (lcT (cd := .ne) c4) (by decide) (by decide)
              |>.iconst (1 : Int32) at_161 rfl rfl
            exact s23.retZ at_162 hret hlk (fun hh q => rfl)
          · have s24 : Sit p l e _ s m _ below meth c _ st n0 0 0 _ 153 #[.val (.long u0), .second, .val (.long u1), .second, .val (.long u2), .second, .val (.int fl), .val (.long A), .second, .val (.long B), .second, .val (.long D), .second, .val (.long (gF A B)), .second] [(.long D), (.long (gF A B))] := s22
              |>.ifN at_146 (lcF (cd := .ne) c4) rfl
              |>.lload at_149 rfl rfl
              |>.lload at_151 rfl rfl
            have s25 : Sit p l e _ s m _ below meth c _ st n0 0 0 _ 156 #[.val (.long u0), .second, .val (.long u1), .second, .val (.long u2), .second, .val (.int fl), .val (.long A), .second, .val (.long B), .second, .val (.long D), .second, .val (.long (gF A B)), .second] [(.int (lcmp3 ((gF A B) % D) (0 : Int64)))] := s24
              |>.lrem at_153 (c2) rfl
              |>.lconst (0 : Int64) at_154 rfl rfl
              |>.lcmp at_155 rfl
            have s26 : Sit p l e _ s m _ below meth c _ st n0 0 0 _ 162 #[.val (.long u0), .second, .val (.long u1), .second, .val (.long u2), .second, .val (.int fl), .val (.long A), .second, .val (.long B), .second, .val (.long D), .second, .val (.long (gF A B)), .second] [(.int (1 : Int32))] := s25
              |>.ifY at_156 (lcT (cd := .eq) (rem_zero gg hD (by rw [gF_nat]; exact Nat.dvd_gcd (dvd_of hA hD (Classical.not_not.mp c3)) (dvd_of hB hD (Classical.not_not.mp c4))))) (by decide) (by decide)
              |>.iconst (1 : Int32) at_161 rfl rfl
            exact s26.retZ at_162 hret hlk (fun hh q => rfl)
    · have s27 : Sit p l e _ s m _ below meth c _ st n0 0 0 _ 77 #[.val (.long u0), .second, .val (.long u1), .second, .val (.long u2), .second, .val (.int fl), .val (.long A), .second, .val (.long B), .second, .val (.long D), .second, .unset, .unset] [(.int (lcmp3 B (0 : Int64)))] := s6
        |>.ifN at_70 (lcF (cd := .ne) c1) rfl
        |>.lload at_73 rfl rfl
        |>.lconst (0 : Int64) at_75 rfl rfl
        |>.lcmp at_76 rfl
      by_cases c5 : ¬ B = (0 : Int64)
      · have s28 : Sit p l e _ s m _ below meth c _ st n0 0 0 _ 86 #[.val (.long u0), .second, .val (.long u1), .second, .val (.long u2), .second, .val (.int fl), .val (.long A), .second, .val (.long B), .second, .val (.long D), .second, .unset, .unset] [(.long B), (.long A)] := s27
          |>.ifY at_77 (lcT (cd := .ne) c5) (by decide) (by decide)
          |>.lload at_82 rfl rfl
          |>.lload at_84 rfl rfl
        obtain ⟨r30, s29⟩ := Sit.callS (y := (⟨"com/example/rondo/rondo/Cycle", "gcd", "(JJ)J"⟩ : MethodName)) (W := 0) (Q := fun v hh => (v = some (.long (gF A B))) ∧ (fun hh => hh = h0) hh) [(.long A), (.long B)] [] s28 hZ hown (wi hw 1 rfl) (wi hw 2 rfl) (wi hw 3 rfl) (wi hw 4 rfl) (by decide) (fun h1 hP hn => (rm1 l Z a0 hw [] A B h1 n0 hn hA hB).mono fun v hh q => ⟨q.1, q.2 ▸ hP⟩) hml rfl (lenOf pd_0 rfl) at_86 (Nat.le_of_eq rfl) (by decide) (by decide) (by decide) (by decide) (pc' := 89) rfl
        obtain ⟨_, er30, _⟩ := s29.facts
        subst er30
        have s31 : Sit p l e _ s m _ below meth c _ st n0 0 0 (fun hh => hh = h0) 89 #[.val (.long u0), .second, .val (.long u1), .second, .val (.long u2), .second, .val (.int fl), .val (.long A), .second, .val (.long B), .second, .val (.long D), .second, .unset, .unset] [(.long (gF A B))] := s29.mono fun _ q => q.2
        have s32 : Sit p l e _ s m _ below meth c _ st n0 0 0 _ 95 #[.val (.long u0), .second, .val (.long u1), .second, .val (.long u2), .second, .val (.int fl), .val (.long A), .second, .val (.long B), .second, .val (.long D), .second, .val (.long (gF A B)), .second] [(.int (lcmp3 (gF A B) (0 : Int64)))] := s31
          |>.lstore #[.val (.long u0), .second, .val (.long u1), .second, .val (.long u2), .second, .val (.int fl), .val (.long A), .second, .val (.long B), .second, .val (.long D), .second, .val (.long (gF A B)), .second] at_89 rfl rfl
          |>.lload at_91 rfl rfl
          |>.lconst (0 : Int64) at_93 rfl rfl
          |>.lcmp at_94 rfl
        have gp : 0 < (gF A B).toInt := gF_pos hA hB (fun h => c5 h.2)
        have gz : gF A B ≠ 0 := fun h => by rw [h] at gp; exact absurd gp (by decide)
        have gg : 0 ≤ (gF A B).toInt := by omega
        have s33 : Sit p l e _ s m _ below meth c _ st n0 0 0 _ 104 #[.val (.long u0), .second, .val (.long u1), .second, .val (.long u2), .second, .val (.int fl), .val (.long A), .second, .val (.long B), .second, .val (.long D), .second, .val (.long (gF A B)), .second] [(.long (gF A B)), (.long A)] := s32
          |>.ifY at_95 (lcT (cd := .gt) (gp)) (by decide) (by decide)
          |>.lload at_100 rfl rfl
          |>.lload at_102 rfl rfl
        have s34 : Sit p l e _ s m _ below meth c _ st n0 0 0 _ 107 #[.val (.long u0), .second, .val (.long u1), .second, .val (.long u2), .second, .val (.int fl), .val (.long A), .second, .val (.long B), .second, .val (.long D), .second, .val (.long (gF A B)), .second] [(.int (lcmp3 (A % (gF A B)) (0 : Int64)))] := s33
          |>.lrem at_104 (gz) rfl
          |>.lconst (0 : Int64) at_105 rfl rfl
          |>.lcmp at_106 rfl
        have s35 : Sit p l e _ s m _ below meth c _ st n0 0 0 _ 114 #[.val (.long u0), .second, .val (.long u1), .second, .val (.long u2), .second, .val (.int fl), .val (.long A), .second, .val (.long B), .second, .val (.long D), .second, .val (.long (gF A B)), .second] [(.long (gF A B)), (.long B)] := s34
          |>.ifN at_107 (lcF (cd := .ne) (fun h => h (rem_zero hA gg (by rw [gF_nat]; exact Nat.gcd_dvd_left _ _)))) rfl
          |>.lload at_110 rfl rfl
          |>.lload at_112 rfl rfl
        have s36 : Sit p l e _ s m _ below meth c _ st n0 0 0 _ 117 #[.val (.long u0), .second, .val (.long u1), .second, .val (.long u2), .second, .val (.int fl), .val (.long A), .second, .val (.long B), .second, .val (.long D), .second, .val (.long (gF A B)), .second] [(.int (lcmp3 (B % (gF A B)) (0 : Int64)))] := s35
          |>.lrem at_114 (gz) rfl
          |>.lconst (0 : Int64) at_115 rfl rfl
          |>.lcmp at_116 rfl
        have s37 : Sit p l e _ s m _ below meth c _ st n0 0 0 _ 126 #[.val (.long u0), .second, .val (.long u1), .second, .val (.long u2), .second, .val (.int fl), .val (.long A), .second, .val (.long B), .second, .val (.long D), .second, .val (.long (gF A B)), .second] [(.int (lcmp3 D (0 : Int64)))] := s36
          |>.ifY at_117 (lcT (cd := .eq) (rem_zero hB gg (by rw [gF_nat]; exact Nat.gcd_dvd_right _ _))) (by decide) (by decide)
          |>.lload at_122 rfl rfl
          |>.lconst (0 : Int64) at_124 rfl rfl
          |>.lcmp at_125 rfl
        by_cases c2 : D = (0 : Int64)
        · have s38 : Sit p l e _ s m _ below meth c _ st n0 0 0 _ 162 #[.val (.long u0), .second, .val (.long u1), .second, .val (.long u2), .second, .val (.int fl), .val (.long A), .second, .val (.long B), .second, .val (.long D), .second, .val (.long (gF A B)), .second] [(.int (1 : Int32))] := s37
            |>.ifY at_126 (lcT (cd := .eq) c2) (by decide) (by decide)
            |>.iconst (1 : Int32) at_161 rfl rfl
          exact s38.retZ at_162 hret hlk (fun hh q => rfl)
        · have s39 : Sit p l e _ s m _ below meth c _ st n0 0 0 _ 133 #[.val (.long u0), .second, .val (.long u1), .second, .val (.long u2), .second, .val (.int fl), .val (.long A), .second, .val (.long B), .second, .val (.long D), .second, .val (.long (gF A B)), .second] [(.long D), (.long A)] := s37
            |>.ifN at_126 (lcF (cd := .eq) c2) rfl
            |>.lload at_129 rfl rfl
            |>.lload at_131 rfl rfl
          have s40 : Sit p l e _ s m _ below meth c _ st n0 0 0 _ 136 #[.val (.long u0), .second, .val (.long u1), .second, .val (.long u2), .second, .val (.int fl), .val (.long A), .second, .val (.long B), .second, .val (.long D), .second, .val (.long (gF A B)), .second] [(.int (lcmp3 (A % D) (0 : Int64)))] := s39
            |>.lrem at_133 (c2) rfl
            |>.lconst (0 : Int64) at_134 rfl rfl
            |>.lcmp at_135 rfl
          by_cases c3 : ¬ (A % D) = (0 : Int64)
          · have s41 : Sit p l e _ s m _ below meth c _ st n0 0 0 _ 162 #[.val (.long u0), .second, .val (.long u1), .second, .val (.long u2), .second, .val (.int fl), .val (.long A), .second, .val (.long B), .second, .val (.long D), .second, .val (.long (gF A B)), .second] [(.int (1 : Int32))] := s40
              |>.ifY at_136 (lcT (cd := .ne) c3) (by decide) (by decide)
              |>.iconst (1 : Int32) at_161 rfl rfl
            exact s41.retZ at_162 hret hlk (fun hh q => rfl)
          · have s42 : Sit p l e _ s m _ below meth c _ st n0 0 0 _ 143 #[.val (.long u0), .second, .val (.long u1), .second, .val (.long u2), .second, .val (.int fl), .val (.long A), .second, .val (.long B), .second, .val (.long D), .second, .val (.long (gF A B)), .second] [(.long D), (.long B)] := s40
              |>.ifN at_136 (lcF (cd := .ne) c3) rfl
              |>.lload at_139 rfl rfl
              |>.lload at_141 rfl rfl
            have s43 : Sit p l e _ s m _ below meth c _ st n0 0 0 _ 146 #[.val (.long u0), .second, .val (.long u1), .second, .val (.long u2), .second, .val (.int fl), .val (.long A), .second, .val (.long B), .second, .val (.long D), .second, .val (.long (gF A B)), .second] [(.int (lcmp3 (B % D) (0 : Int64)))] := s42
              |>.lrem at_143 (c2) rfl
              |>.lconst (0 : Int64) at_144 rfl rfl
              |>.lcmp at_145 rfl
            by_cases c4 : ¬ (B % D) = (0 : Int64)
            · have s44 : Sit p l e _ s m _ below meth c _ st n0 0 0 _ 162 #[.val (.long u0), .second, .val (.long u1), .second, .val (.long u2), .second, .val (.int fl), .val (.long A), .second, .val (.long B), .second, .val (.long D), .second, .val (.long (gF A B)), .second] [(.int (1 : Int32))] := s43
                |>.ifY at_146 (lcT (cd := .ne) c4) (by decide) (by decide)
                |>.iconst (1 : Int32) at_161 rfl rfl
              exact s44.retZ at_162 hret hlk (fun hh q => rfl)
            · have s45 : Sit p l e _ s m _ below meth c _ st n0 0 0 _ 153 #[.val (.long u0), .second, .val (.long u1), .second, .val (.long u2), .second, .val (.int fl), .val (.long A), .second, .val (.long B), .second, .val (.long D), .second, .val (.long (gF A B)), .second] [(.long D), (.long (gF A B))] := s43
                |>.ifN at_146 (lcF (cd := .ne) c4) rfl
                |>.lload at_149 rfl rfl
                |>.lload at_151 rfl rfl
              have s46 : Sit p l e _ s m _ below meth c _ st n0 0 0 _ 156 #[.val (.long u0), .second, .val (.long u1), .second, .val (.long u2), .second, .val (.int fl), .val (.long A), .second, .val (.long B), .second, .val (.long D), .second, .val (.long (gF A B)), .second] [(.int (lcmp3 ((gF A B) % D) (0 : Int64)))] := s45
                |>.lrem at_153 (c2) rfl
                |>.lconst (0 : Int64) at_154 rfl rfl
                |>.lcmp at_155 rfl
              have s47 : Sit p l e _ s m _ below meth c _ st n0 0 0 _ 162 #[.val (.long u0), .second, .val (.long u1), .second, .val (.long u2), .second, .val (.int fl), .val (.long A), .second, .val (.long B), .second, .val (.long D), .second, .val (.long (gF A B)), .second] [(.int (1 : Int32))] := s46
                |>.ifY at_156 (lcT (cd := .eq) (rem_zero gg hD (by rw [gF_nat]; exact Nat.dvd_gcd (dvd_of hA hD (Classical.not_not.mp c3)) (dvd_of hB hD (Classical.not_not.mp c4))))) (by decide) (by decide)
                |>.iconst (1 : Int32) at_161 rfl rfl
              exact s47.retZ at_162 hret hlk (fun hh q => rfl)
      · have s48 : Sit p l e _ s m _ below meth c _ st n0 0 0 _ 81 #[.val (.long u0), .second, .val (.long u1), .second, .val (.long u2), .second, .val (.int fl), .val (.long A), .second, .val (.long B), .second, .val (.long D), .second, .unset, .unset] [(.int (1 : Int32))] := s27
          |>.ifN at_77 (lcF (cd := .ne) c5) rfl
          |>.iconst (1 : Int32) at_80 rfl rfl
        exact s48.retZ at_81 hret hlk (fun hh q => rfl)
  · have s49 : Sit p l e _ s m _ below meth c _ st n0 0 0 _ 15 #[.val (.long u0), .second, .val (.long u1), .second, .val (.long u2), .second, .val (.int fl), .unset, .unset, .unset, .unset, .unset, .unset, .unset, .unset] [(.long ((u2 &&& (2147483647 : Int64)) + (1 : Int64)))] := s1
      |>.ifN at_4 (eqF c0) rfl
      |>.lload at_7 rfl rfl
      |>.ldc2 hZ hown (wi hw 5 rfl) at_9 rfl
      |>.land at_12 rfl
      |>.lconst (1 : Int64) at_13 rfl rfl
      |>.ladd at_14 rfl
    obtain ⟨K, e_K, s50⟩ : ∃ K : Int64, K = ((u2 &&& (2147483647 : Int64)) + (1 : Int64)) ∧ Sit p l e _ s m _ below meth c _ st n0 0 0 _ 15 #[.val (.long u0), .second, .val (.long u1), .second, .val (.long u2), .second, .val (.int fl), .unset, .unset, .unset, .unset, .unset, .unset, .unset, .unset] [(.long K)] := ⟨_, rfl, s49⟩
    have s51 : Sit p l e _ s m _ below meth c _ st n0 0 0 _ 66 #[.val (.long u0), .second, .val (.long u1), .second, .val (.long u2), .second, .val (.int fl), .val (.long (K * (u0 &&& (2147483647 : Int64)))), .second, .val (.long (K * (u1 &&& (2147483647 : Int64)))), .second, .val (.long K), .second, .val (.long K), .second] [] := s50
      |>.lstore #[.val (.long u0), .second, .val (.long u1), .second, .val (.long u2), .second, .val (.int fl), .unset, .unset, .unset, .unset, .unset, .unset, .val (.long K), .second] at_15 rfl rfl
      |>.lload at_17 rfl rfl
      |>.lloadN at_19 rfl rfl
      |>.ldc2 hZ hown (wi hw 5 rfl) at_20 rfl
      |>.land at_23 rfl
      |>.lmul at_24 rfl
      |>.lstore #[.val (.long u0), .second, .val (.long u1), .second, .val (.long u2), .second, .val (.int fl), .val (.long (K * (u0 &&& (2147483647 : Int64)))), .second, .unset, .unset, .unset, .unset, .val (.long K), .second] at_25 rfl rfl
      |>.lload at_27 rfl rfl
      |>.lloadN at_29 rfl rfl
      |>.ldc2 hZ hown (wi hw 5 rfl) at_30 rfl
      |>.land at_33 rfl
      |>.lmul at_34 rfl
      |>.lstore #[.val (.long u0), .second, .val (.long u1), .second, .val (.long u2), .second, .val (.int fl), .val (.long (K * (u0 &&& (2147483647 : Int64)))), .second, .val (.long (K * (u1 &&& (2147483647 : Int64)))), .second, .unset, .unset, .val (.long K), .second] at_35 rfl rfl
      |>.lload at_37 rfl rfl
      |>.lstore #[.val (.long u0), .second, .val (.long u1), .second, .val (.long u2), .second, .val (.int fl), .val (.long (K * (u0 &&& (2147483647 : Int64)))), .second, .val (.long (K * (u1 &&& (2147483647 : Int64)))), .second, .val (.long K), .second, .val (.long K), .second] at_39 rfl rfl
      |>.goto at_41 (by decide) (by decide)
    obtain ⟨A, e_A, s52⟩ : ∃ A : Int64, A = (K * (u0 &&& (2147483647 : Int64))) ∧ Sit p l e _ s m _ below meth c _ st n0 0 0 _ 66 #[.val (.long u0), .second, .val (.long u1), .second, .val (.long u2), .second, .val (.int fl), .val (.long A), .second, .val (.long (K * (u1 &&& (2147483647 : Int64)))), .second, .val (.long K), .second, .val (.long K), .second] [] := ⟨_, rfl, s51⟩
    obtain ⟨B, e_B, s53⟩ : ∃ B : Int64, B = (K * (u1 &&& (2147483647 : Int64))) ∧ Sit p l e _ s m _ below meth c _ st n0 0 0 _ 66 #[.val (.long u0), .second, .val (.long u1), .second, .val (.long u2), .second, .val (.int fl), .val (.long A), .second, .val (.long B), .second, .val (.long K), .second, .val (.long K), .second] [] := ⟨_, rfl, s52⟩
    have hK := kpos u2
    rw [← e_K] at hK
    have hA : 0 ≤ A.toInt := by rw [e_A]; exact kmul hK (mask31 _)
    have hB : 0 ≤ B.toInt := by rw [e_B]; exact kmul hK (mask31 _)
    obtain ⟨D, e_D⟩ : ∃ D, D = K := ⟨_, rfl⟩
    have hD : 0 ≤ D.toInt := by rw [e_D]; omega
    have s54 : Sit p l e room_1 s m #[(.long u0), (.long u1), (.long u2), (.int fl)] below meth c code st n0 0 0 (fun hh => hh = h0) 66 #[.val (.long u0), .second, .val (.long u1), .second, .val (.long u2), .second, .val (.int fl), .val (.long A), .second, .val (.long B), .second, .val (.long D), .second, .val (.long K), .second] [] := by rw [e_D]; exact s53
    have s55 : Sit p l e _ s m _ below meth c _ st n0 0 0 _ 70 #[.val (.long u0), .second, .val (.long u1), .second, .val (.long u2), .second, .val (.int fl), .val (.long A), .second, .val (.long B), .second, .val (.long D), .second, .val (.long K), .second] [(.int (lcmp3 A (0 : Int64)))] := s54
      |>.lload at_66 rfl rfl
      |>.lconst (0 : Int64) at_68 rfl rfl
      |>.lcmp at_69 rfl
    by_cases c1 : ¬ A = (0 : Int64)
    · have s56 : Sit p l e _ s m _ below meth c _ st n0 0 0 _ 86 #[.val (.long u0), .second, .val (.long u1), .second, .val (.long u2), .second, .val (.int fl), .val (.long A), .second, .val (.long B), .second, .val (.long D), .second, .val (.long K), .second] [(.long B), (.long A)] := s55
        |>.ifY at_70 (lcT (cd := .ne) c1) (by decide) (by decide)
        |>.lload at_82 rfl rfl
        |>.lload at_84 rfl rfl
      obtain ⟨r58, s57⟩ := Sit.callS (y := (⟨"com/example/rondo/rondo/Cycle", "gcd", "(JJ)J"⟩ : MethodName)) (W := 0) (Q := fun v hh => (v = some (.long (gF A B))) ∧ (fun hh => hh = h0) hh) [(.long A), (.long B)] [] s56 hZ hown (wi hw 1 rfl) (wi hw 2 rfl) (wi hw 3 rfl) (wi hw 4 rfl) (by decide) (fun h1 hP hn => (rm1 l Z a0 hw [] A B h1 n0 hn hA hB).mono fun v hh q => ⟨q.1, q.2 ▸ hP⟩) hml rfl (lenOf pd_0 rfl) at_86 (Nat.le_of_eq rfl) (by decide) (by decide) (by decide) (by decide) (pc' := 89) rfl
      obtain ⟨_, er58, _⟩ := s57.facts
      subst er58
      have s59 : Sit p l e _ s m _ below meth c _ st n0 0 0 (fun hh => hh = h0) 89 #[.val (.long u0), .second, .val (.long u1), .second, .val (.long u2), .second, .val (.int fl), .val (.long A), .second, .val (.long B), .second, .val (.long D), .second, .val (.long K), .second] [(.long (gF A B))] := s57.mono fun _ q => q.2
      have s60 : Sit p l e _ s m _ below meth c _ st n0 0 0 _ 95 #[.val (.long u0), .second, .val (.long u1), .second, .val (.long u2), .second, .val (.int fl), .val (.long A), .second, .val (.long B), .second, .val (.long D), .second, .val (.long (gF A B)), .second] [(.int (lcmp3 (gF A B) (0 : Int64)))] := s59
        |>.lstore #[.val (.long u0), .second, .val (.long u1), .second, .val (.long u2), .second, .val (.int fl), .val (.long A), .second, .val (.long B), .second, .val (.long D), .second, .val (.long (gF A B)), .second] at_89 rfl rfl
        |>.lload at_91 rfl rfl
        |>.lconst (0 : Int64) at_93 rfl rfl
        |>.lcmp at_94 rfl
      have gp : 0 < (gF A B).toInt := gF_pos hA hB (fun h => c1 h.1)
      have gz : gF A B ≠ 0 := fun h => by rw [h] at gp; exact absurd gp (by decide)
      have gg : 0 ≤ (gF A B).toInt := by omega
      have s61 : Sit p l e _ s m _ below meth c _ st n0 0 0 _ 104 #[.val (.long u0), .second, .val (.long u1), .second, .val (.long u2), .second, .val (.int fl), .val (.long A), .second, .val (.long B), .second, .val (.long D), .second, .val (.long (gF A B)), .second] [(.long (gF A B)), (.long A)] := s60
        |>.ifY at_95 (lcT (cd := .gt) (gp)) (by decide) (by decide)
        |>.lload at_100 rfl rfl
        |>.lload at_102 rfl rfl
      have s62 : Sit p l e _ s m _ below meth c _ st n0 0 0 _ 107 #[.val (.long u0), .second, .val (.long u1), .second, .val (.long u2), .second, .val (.int fl), .val (.long A), .second, .val (.long B), .second, .val (.long D), .second, .val (.long (gF A B)), .second] [(.int (lcmp3 (A % (gF A B)) (0 : Int64)))] := s61
        |>.lrem at_104 (gz) rfl
        |>.lconst (0 : Int64) at_105 rfl rfl
        |>.lcmp at_106 rfl
      have s63 : Sit p l e _ s m _ below meth c _ st n0 0 0 _ 114 #[.val (.long u0), .second, .val (.long u1), .second, .val (.long u2), .second, .val (.int fl), .val (.long A), .second, .val (.long B), .second, .val (.long D), .second, .val (.long (gF A B)), .second] [(.long (gF A B)), (.long B)] := s62
        |>.ifN at_107 (lcF (cd := .ne) (fun h => h (rem_zero hA gg (by rw [gF_nat]; exact Nat.gcd_dvd_left _ _)))) rfl
        |>.lload at_110 rfl rfl
        |>.lload at_112 rfl rfl
      have s64 : Sit p l e _ s m _ below meth c _ st n0 0 0 _ 117 #[.val (.long u0), .second, .val (.long u1), .second, .val (.long u2), .second, .val (.int fl), .val (.long A), .second, .val (.long B), .second, .val (.long D), .second, .val (.long (gF A B)), .second] [(.int (lcmp3 (B % (gF A B)) (0 : Int64)))] := s63
        |>.lrem at_114 (gz) rfl
        |>.lconst (0 : Int64) at_115 rfl rfl
        |>.lcmp at_116 rfl
      have s65 : Sit p l e _ s m _ below meth c _ st n0 0 0 _ 126 #[.val (.long u0), .second, .val (.long u1), .second, .val (.long u2), .second, .val (.int fl), .val (.long A), .second, .val (.long B), .second, .val (.long D), .second, .val (.long (gF A B)), .second] [(.int (lcmp3 D (0 : Int64)))] := s64
        |>.ifY at_117 (lcT (cd := .eq) (rem_zero hB gg (by rw [gF_nat]; exact Nat.gcd_dvd_right _ _))) (by decide) (by decide)
        |>.lload at_122 rfl rfl
        |>.lconst (0 : Int64) at_124 rfl rfl
        |>.lcmp at_125 rfl
      by_cases c2 : D = (0 : Int64)
      · have s66 : Sit p l e _ s m _ below meth c _ st n0 0 0 _ 162 #[.val (.long u0), .second, .val (.long u1), .second, .val (.long u2), .second, .val (.int fl), .val (.long A), .second, .val (.long B), .second, .val (.long D), .second, .val (.long (gF A B)), .second] [(.int (1 : Int32))] := s65
          |>.ifY at_126 (lcT (cd := .eq) c2) (by decide) (by decide)
          |>.iconst (1 : Int32) at_161 rfl rfl
        exact s66.retZ at_162 hret hlk (fun hh q => rfl)
      · have s67 : Sit p l e _ s m _ below meth c _ st n0 0 0 _ 133 #[.val (.long u0), .second, .val (.long u1), .second, .val (.long u2), .second, .val (.int fl), .val (.long A), .second, .val (.long B), .second, .val (.long D), .second, .val (.long (gF A B)), .second] [(.long D), (.long A)] := s65
          |>.ifN at_126 (lcF (cd := .eq) c2) rfl
          |>.lload at_129 rfl rfl
          |>.lload at_131 rfl rfl
        have s68 : Sit p l e _ s m _ below meth c _ st n0 0 0 _ 136 #[.val (.long u0), .second, .val (.long u1), .second, .val (.long u2), .second, .val (.int fl), .val (.long A), .second, .val (.long B), .second, .val (.long D), .second, .val (.long (gF A B)), .second] [(.int (lcmp3 (A % D) (0 : Int64)))] := s67
          |>.lrem at_133 (c2) rfl
          |>.lconst (0 : Int64) at_134 rfl rfl
          |>.lcmp at_135 rfl
        by_cases c3 : ¬ (A % D) = (0 : Int64)
        · have s69 : Sit p l e _ s m _ below meth c _ st n0 0 0 _ 162 #[.val (.long u0), .second, .val (.long u1), .second, .val (.long u2), .second, .val (.int fl), .val (.long A), .second, .val (.long B), .second, .val (.long D), .second, .val (.long (gF A B)), .second] [(.int (1 : Int32))] := s68
            |>.ifY at_136 (lcT (cd := .ne) c3) (by decide) (by decide)
            |>.iconst (1 : Int32) at_161 rfl rfl
          exact s69.retZ at_162 hret hlk (fun hh q => rfl)
        · have s70 : Sit p l e _ s m _ below meth c _ st n0 0 0 _ 143 #[.val (.long u0), .second, .val (.long u1), .second, .val (.long u2), .second, .val (.int fl), .val (.long A), .second, .val (.long B), .second, .val (.long D), .second, .val (.long (gF A B)), .second] [(.long D), (.long B)] := s68
            |>.ifN at_136 (lcF (cd := .ne) c3) rfl
            |>.lload at_139 rfl rfl
            |>.lload at_141 rfl rfl
          have s71 : Sit p l e _ s m _ below meth c _ st n0 0 0 _ 146 #[.val (.long u0), .second, .val (.long u1), .second, .val (.long u2), .second, .val (.int fl), .val (.long A), .second, .val (.long B), .second, .val (.long D), .second, .val (.long (gF A B)), .second] [(.int (lcmp3 (B % D) (0 : Int64)))] := s70
            |>.lrem at_143 (c2) rfl
            |>.lconst (0 : Int64) at_144 rfl rfl
            |>.lcmp at_145 rfl
          by_cases c4 : ¬ (B % D) = (0 : Int64)
          · have s72 : Sit p l e _ s m _ below meth c _ st n0 0 0 _ 162 #[.val (.long u0), .second, .val (.long u1), .second, .val (.long u2), .second, .val (.int fl), .val (.long A), .second, .val (.long B), .second, .val (.long D), .second, .val (.long (gF A B)), .second] [(.int (1 : Int32))] := s71
              |>.ifY at_146 (lcT (cd := .ne) c4) (by decide) (by decide)
              |>.iconst (1 : Int32) at_161 rfl rfl
            exact s72.retZ at_162 hret hlk (fun hh q => rfl)
          · have s73 : Sit p l e _ s m _ below meth c _ st n0 0 0 _ 153 #[.val (.long u0), .second, .val (.long u1), .second, .val (.long u2), .second, .val (.int fl), .val (.long A), .second, .val (.long B), .second, .val (.long D), .second, .val (.long (gF A B)), .second] [(.long D), (.long (gF A B))] := s71
              |>.ifN at_146 (lcF (cd := .ne) c4) rfl
              |>.lload at_149 rfl rfl
              |>.lload at_151 rfl rfl
            have s74 : Sit p l e _ s m _ below meth c _ st n0 0 0 _ 156 #[.val (.long u0), .second, .val (.long u1), .second, .val (.long u2), .second, .val (.int fl), .val (.long A), .second, .val (.long B), .second, .val (.long D), .second, .val (.long (gF A B)), .second] [(.int (lcmp3 ((gF A B) % D) (0 : Int64)))] := s73
              |>.lrem at_153 (c2) rfl
              |>.lconst (0 : Int64) at_154 rfl rfl
              |>.lcmp at_155 rfl
            have s75 : Sit p l e _ s m _ below meth c _ st n0 0 0 _ 162 #[.val (.long u0), .second, .val (.long u1), .second, .val (.long u2), .second, .val (.int fl), .val (.long A), .second, .val (.long B), .second, .val (.long D), .second, .val (.long (gF A B)), .second] [(.int (1 : Int32))] := s74
              |>.ifY at_156 (lcT (cd := .eq) (rem_zero gg hD (by rw [gF_nat]; exact Nat.dvd_gcd (dvd_of hA hD (Classical.not_not.mp c3)) (dvd_of hB hD (Classical.not_not.mp c4))))) (by decide) (by decide)
              |>.iconst (1 : Int32) at_161 rfl rfl
            exact s75.retZ at_162 hret hlk (fun hh q => rfl)
    · have s76 : Sit p l e _ s m _ below meth c _ st n0 0 0 _ 77 #[.val (.long u0), .second, .val (.long u1), .second, .val (.long u2), .second, .val (.int fl), .val (.long A), .second, .val (.long B), .second, .val (.long D), .second, .val (.long K), .second] [(.int (lcmp3 B (0 : Int64)))] := s55
        |>.ifN at_70 (lcF (cd := .ne) c1) rfl
        |>.lload at_73 rfl rfl
        |>.lconst (0 : Int64) at_75 rfl rfl
        |>.lcmp at_76 rfl
      by_cases c5 : ¬ B = (0 : Int64)
      · have s77 : Sit p l e _ s m _ below meth c _ st n0 0 0 _ 86 #[.val (.long u0), .second, .val (.long u1), .second, .val (.long u2), .second, .val (.int fl), .val (.long A), .second, .val (.long B), .second, .val (.long D), .second, .val (.long K), .second] [(.long B), (.long A)] := s76
          |>.ifY at_77 (lcT (cd := .ne) c5) (by decide) (by decide)
          |>.lload at_82 rfl rfl
          |>.lload at_84 rfl rfl
        obtain ⟨r79, s78⟩ := Sit.callS (y := (⟨"com/example/rondo/rondo/Cycle", "gcd", "(JJ)J"⟩ : MethodName)) (W := 0) (Q := fun v hh => (v = some (.long (gF A B))) ∧ (fun hh => hh = h0) hh) [(.long A), (.long B)] [] s77 hZ hown (wi hw 1 rfl) (wi hw 2 rfl) (wi hw 3 rfl) (wi hw 4 rfl) (by decide) (fun h1 hP hn => (rm1 l Z a0 hw [] A B h1 n0 hn hA hB).mono fun v hh q => ⟨q.1, q.2 ▸ hP⟩) hml rfl (lenOf pd_0 rfl) at_86 (Nat.le_of_eq rfl) (by decide) (by decide) (by decide) (by decide) (pc' := 89) rfl
        obtain ⟨_, er79, _⟩ := s78.facts
        subst er79
        have s80 : Sit p l e _ s m _ below meth c _ st n0 0 0 (fun hh => hh = h0) 89 #[.val (.long u0), .second, .val (.long u1), .second, .val (.long u2), .second, .val (.int fl), .val (.long A), .second, .val (.long B), .second, .val (.long D), .second, .val (.long K), .second] [(.long (gF A B))] := s78.mono fun _ q => q.2
        have s81 : Sit p l e _ s m _ below meth c _ st n0 0 0 _ 95 #[.val (.long u0), .second, .val (.long u1), .second, .val (.long u2), .second, .val (.int fl), .val (.long A), .second, .val (.long B), .second, .val (.long D), .second, .val (.long (gF A B)), .second] [(.int (lcmp3 (gF A B) (0 : Int64)))] := s80
          |>.lstore #[.val (.long u0), .second, .val (.long u1), .second, .val (.long u2), .second, .val (.int fl), .val (.long A), .second, .val (.long B), .second, .val (.long D), .second, .val (.long (gF A B)), .second] at_89 rfl rfl
          |>.lload at_91 rfl rfl
          |>.lconst (0 : Int64) at_93 rfl rfl
          |>.lcmp at_94 rfl
        have gp : 0 < (gF A B).toInt := gF_pos hA hB (fun h => c5 h.2)
        have gz : gF A B ≠ 0 := fun h => by rw [h] at gp; exact absurd gp (by decide)
        have gg : 0 ≤ (gF A B).toInt := by omega
        have s82 : Sit p l e _ s m _ below meth c _ st n0 0 0 _ 104 #[.val (.long u0), .second, .val (.long u1), .second, .val (.long u2), .second, .val (.int fl), .val (.long A), .second, .val (.long B), .second, .val (.long D), .second, .val (.long (gF A B)), .second] [(.long (gF A B)), (.long A)] := s81
          |>.ifY at_95 (lcT (cd := .gt) (gp)) (by decide) (by decide)
          |>.lload at_100 rfl rfl
          |>.lload at_102 rfl rfl
        have s83 : Sit p l e _ s m _ below meth c _ st n0 0 0 _ 107 #[.val (.long u0), .second, .val (.long u1), .second, .val (.long u2), .second, .val (.int fl), .val (.long A), .second, .val (.long B), .second, .val (.long D), .second, .val (.long (gF A B)), .second] [(.int (lcmp3 (A % (gF A B)) (0 : Int64)))] := s82
          |>.lrem at_104 (gz) rfl
          |>.lconst (0 : Int64) at_105 rfl rfl
          |>.lcmp at_106 rfl
        have s84 : Sit p l e _ s m _ below meth c _ st n0 0 0 _ 114 #[.val (.long u0), .second, .val (.long u1), .second, .val (.long u2), .second, .val (.int fl), .val (.long A), .second, .val (.long B), .second, .val (.long D), .second, .val (.long (gF A B)), .second] [(.long (gF A B)), (.long B)] := s83
          |>.ifN at_107 (lcF (cd := .ne) (fun h => h (rem_zero hA gg (by rw [gF_nat]; exact Nat.gcd_dvd_left _ _)))) rfl
          |>.lload at_110 rfl rfl
          |>.lload at_112 rfl rfl
        have s85 : Sit p l e _ s m _ below meth c _ st n0 0 0 _ 117 #[.val (.long u0), .second, .val (.long u1), .second, .val (.long u2), .second, .val (.int fl), .val (.long A), .second, .val (.long B), .second, .val (.long D), .second, .val (.long (gF A B)), .second] [(.int (lcmp3 (B % (gF A B)) (0 : Int64)))] := s84
          |>.lrem at_114 (gz) rfl
          |>.lconst (0 : Int64) at_115 rfl rfl
          |>.lcmp at_116 rfl
        have s86 : Sit p l e _ s m _ below meth c _ st n0 0 0 _ 126 #[.val (.long u0), .second, .val (.long u1), .second, .val (.long u2), .second, .val (.int fl), .val (.long A), .second, .val (.long B), .second, .val (.long D), .second, .val (.long (gF A B)), .second] [(.int (lcmp3 D (0 : Int64)))] := s85
          |>.ifY at_117 (lcT (cd := .eq) (rem_zero hB gg (by rw [gF_nat]; exact Nat.gcd_dvd_right _ _))) (by decide) (by decide)
          |>.lload at_122 rfl rfl
          |>.lconst (0 : Int64) at_124 rfl rfl
          |>.lcmp at_125 rfl
        by_cases c2 : D = (0 : Int64)
        · have s87 : Sit p l e _ s m _ below meth c _ st n0 0 0 _ 162 #[.val (.long u0), .second, .val (.long u1), .second, .val (.long u2), .second, .val (.int fl), .val (.long A), .second, .val (.long B), .second, .val (.long D), .second, .val (.long (gF A B)), .second] [(.int (1 : Int32))] := s86
            |>.ifY at_126 (lcT (cd := .eq) c2) (by decide) (by decide)
            |>.iconst (1 : Int32) at_161 rfl rfl
          exact s87.retZ at_162 hret hlk (fun hh q => rfl)
        · have s88 : Sit p l e _ s m _ below meth c _ st n0 0 0 _ 133 #[.val (.long u0), .second, .val (.long u1), .second, .val (.long u2), .second, .val (.int fl), .val (.long A), .second, .val (.long B), .second, .val (.long D), .second, .val (.long (gF A B)), .second] [(.long D), (.long A)] := s86
            |>.ifN at_126 (lcF (cd := .eq) c2) rfl
            |>.lload at_129 rfl rfl
            |>.lload at_131 rfl rfl
          have s89 : Sit p l e _ s m _ below meth c _ st n0 0 0 _ 136 #[.val (.long u0), .second, .val (.long u1), .second, .val (.long u2), .second, .val (.int fl), .val (.long A), .second, .val (.long B), .second, .val (.long D), .second, .val (.long (gF A B)), .second] [(.int (lcmp3 (A % D) (0 : Int64)))] := s88
            |>.lrem at_133 (c2) rfl
            |>.lconst (0 : Int64) at_134 rfl rfl
            |>.lcmp at_135 rfl
          by_cases c3 : ¬ (A % D) = (0 : Int64)
          · have s90 : Sit p l e _ s m _ below meth c _ st n0 0 0 _ 162 #[.val (.long u0), .second, .val (.long u1), .second, .val (.long u2), .second, .val (.int fl), .val (.long A), .second, .val (.long B), .second, .val (.long D), .second, .val (.long (gF A B)), .second] [(.int (1 : Int32))] := s89
              |>.ifY at_136 (lcT (cd := .ne) c3) (by decide) (by decide)
              |>.iconst (1 : Int32) at_161 rfl rfl
            exact s90.retZ at_162 hret hlk (fun hh q => rfl)
          · have s91 : Sit p l e _ s m _ below meth c _ st n0 0 0 _ 143 #[.val (.long u0), .second, .val (.long u1), .second, .val (.long u2), .second, .val (.int fl), .val (.long A), .second, .val (.long B), .second, .val (.long D), .second, .val (.long (gF A B)), .second] [(.long D), (.long B)] := s89
              |>.ifN at_136 (lcF (cd := .ne) c3) rfl
              |>.lload at_139 rfl rfl
              |>.lload at_141 rfl rfl
            have s92 : Sit p l e _ s m _ below meth c _ st n0 0 0 _ 146 #[.val (.long u0), .second, .val (.long u1), .second, .val (.long u2), .second, .val (.int fl), .val (.long A), .second, .val (.long B), .second, .val (.long D), .second, .val (.long (gF A B)), .second] [(.int (lcmp3 (B % D) (0 : Int64)))] := s91
              |>.lrem at_143 (c2) rfl
              |>.lconst (0 : Int64) at_144 rfl rfl
              |>.lcmp at_145 rfl
            by_cases c4 : ¬ (B % D) = (0 : Int64)
            · have s93 : Sit p l e _ s m _ below meth c _ st n0 0 0 _ 162 #[.val (.long u0), .second, .val (.long u1), .second, .val (.long u2), .second, .val (.int fl), .val (.long A), .second, .val (.long B), .second, .val (.long D), .second, .val (.long (gF A B)), .second] [(.int (1 : Int32))] := s92
                |>.ifY at_146 (lcT (cd := .ne) c4) (by decide) (by decide)
                |>.iconst (1 : Int32) at_161 rfl rfl
              exact s93.retZ at_162 hret hlk (fun hh q => rfl)
            · have s94 : Sit p l e _ s m _ below meth c _ st n0 0 0 _ 153 #[.val (.long u0), .second, .val (.long u1), .second, .val (.long u2), .second, .val (.int fl), .val (.long A), .second, .val (.long B), .second, .val (.long D), .second, .val (.long (gF A B)), .second] [(.long D), (.long (gF A B))] := s92
                |>.ifN at_146 (lcF (cd := .ne) c4) rfl
                |>.lload at_149 rfl rfl
                |>.lload at_151 rfl rfl
              have s95 : Sit p l e _ s m _ below meth c _ st n0 0 0 _ 156 #[.val (.long u0), .second, .val (.long u1), .second, .val (.long u2), .second, .val (.int fl), .val (.long A), .second, .val (.long B), .second, .val (.long D), .second, .val (.long (gF A B)), .second] [(.int (lcmp3 ((gF A B) % D) (0 : Int64)))] := s94
                |>.lrem at_153 (c2) rfl
                |>.lconst (0 : Int64) at_154 rfl rfl
                |>.lcmp at_155 rfl
              have s96 : Sit p l e _ s m _ below meth c _ st n0 0 0 _ 162 #[.val (.long u0), .second, .val (.long u1), .second, .val (.long u2), .second, .val (.int fl), .val (.long A), .second, .val (.long B), .second, .val (.long D), .second, .val (.long (gF A B)), .second] [(.int (1 : Int32))] := s95
                |>.ifY at_156 (lcT (cd := .eq) (rem_zero gg hD (by rw [gF_nat]; exact Nat.dvd_gcd (dvd_of hA hD (Classical.not_not.mp c3)) (dvd_of hB hD (Classical.not_not.mp c4))))) (by decide) (by decide)
                |>.iconst (1 : Int32) at_161 rfl rfl
              exact s96.retZ at_162 hret hlk (fun hh q => rfl)
      · have s97 : Sit p l e _ s m _ below meth c _ st n0 0 0 _ 81 #[.val (.long u0), .second, .val (.long u1), .second, .val (.long u2), .second, .val (.int fl), .val (.long A), .second, .val (.long B), .second, .val (.long D), .second, .val (.long K), .second] [(.int (1 : Int32))] := s76
          |>.ifN at_77 (lcF (cd := .ne) c5) rfl
          |>.iconst (1 : Int32) at_80 rfl rfl
        exact s97.retZ at_81 hret hlk (fun hh q => rfl)
set_option maxRecDepth 65536 in
set_option maxHeartbeats 40000000 in
theorem comes_1 {Post : Tables → Env → Array Value → State → Outcome → State → Prop} (hpost : ∀ tb e args s v u, (limb_1_1.after args s (.returned v) u = true ∧ limb_1_2.after args s (.returned v) u = true ∧ True) → FrameEnd s (.returned v) u (Jvm.fieldLocs frame_1_writes args s ++ Jvm.arrayLocs frame_1_arrays args s ++ Jvm.staticLocs frame_1_statics s) 0 0 → Post tb e args s (.returned v) u) :
    ArmFor flags0 classFile x code maxLocals ret World_1 tables_1 room_1 Calls_1 rest_1 Pre_1 Post := by
  intro l hfl _ _ p e ha hc hk s m args below hf hA hF happ hP
  obtain ⟨hcalls, hrest, hpre⟩ := hP
  obtain ⟨-, -, -, hnamed, -, -, -, hat⟩ := (Spec.applies_iff hf).mp happ
  obtain ⟨hg, hn⟩ := and_e (Cond.before_iff.mp (show (Jvm.Cond.and given_1 narrow_1).before args s = true from hpre))
  obtain ⟨g0, q0⟩ := and_e hg
  obtain ⟨g1, q1⟩ := and_e q0
  obtain ⟨g2, q2⟩ := and_e q1
  obtain ⟨g3, q3⟩ := and_e q2
  obtain ⟨w0, w1, w2, w3, rfl⟩ : ∃ w0 w1 w2 w3 : Value, args = #[w0, w1, w2, w3] := by
    have hs : args.size = 4 := by simpa [Cond.value, given_1] using g0
    obtain ⟨L⟩ := args
    match L, hs with
    | [w0, w1, w2, w3], _ => exact ⟨w0, w1, w2, w3, rfl⟩
  have hw := fun d (hd : d ∈ tables_1) => atoms_spec (ws := Jvm.Cond.code x code maxLocals ret :: tables_1) hat d (List.mem_cons_of_mem _ hd)
  obtain ⟨i0, ei0⟩ := isL_v g1
  obtain rfl : w0 = (.long i0) := Option.some.inj ei0
  obtain ⟨i1, ei1⟩ := isL_v g2
  obtain rfl : w1 = (.long i1) := Option.some.inj ei1
  obtain ⟨i2, ei2⟩ := isL_v g3
  obtain rfl : w2 = (.long i2) := Option.some.inj ei2
  obtain ⟨i3, ei3⟩ := is_v q3
  obtain rfl : w3 = (.int i3) := Option.some.inj ei3
  obtain ⟨n, o, h1, h2, h3, _, L, rfl, ⟨N, rfl⟩, hq⟩ := rm0 l s _ hw tables_1 i0 i1 i2 i3 s.heap s.heap.size (Nat.le_refl _) p e ha hc hk s m _ below hf ((Spec.applies_iff_loose hf).mp happ).1 ⟨rfl, State.Warmed39.refl s, rfl⟩ trivial
  refine ⟨n, _, h1, h2, h3, hpost _ _ _ _ _ _ ⟨Cond.after_iff.mpr rfl, Cond.after_iff.mpr (eq_i res_at (Term.int_eval (1)) rfl), trivial⟩ ⟨hq.1, hq.2.1, (hq.2.2.sift fun y hy => Or.inr (N y hy)).mono (by decide) (by decide)⟩⟩
theorem main_1_1 : Claimed_1_1 := comes_1 fun _ _ _ _ _ _ h hF => ⟨h.1, hF⟩
theorem main_1_2 : Claimed_1_2 := comes_1 fun _ _ _ _ _ _ h hF => ⟨h.2.1, hF⟩
end Jvm.Pilot.@@N@@
namespace Jvm.Pilot.@@N@@
open Jvm Jvm.ClassFile Sem Op Lib Jvm.Free Jvm.Stand Jvm.Pilot.@@N@@.Jvm.D
/-! MADE BY PROGRAM (witnessworld.py) out of the Statement's table words and the real class files: 9 classes; the members and pool entries that the words name. The judged class is class 1, her method 1. -/
namespace start1
open Jvm.ClassFile
def u (s : String) : CpInfo := .utf8 (stringToUtf16 s)
/-- a pool by its gaps: so many unusable entries, then the entry; so many at the end -/
def gap : Nat → List CpInfo → List CpInfo
  | 0, r => r
  | n + 1, r => .unusable :: gap n r
def poolList (es : List (Nat × CpInfo)) (last : Nat) : List CpInfo := es.foldr (fun e r => gap e.1 (e.2 :: r)) (gap last [])
def pool (es : List (Nat × CpInfo)) (last : Nat) : Array CpInfo := ⟨poolList es last⟩
def fileOf (pool : Array CpInfo) (this : Nat) (attrs : Array Attribute := #[]) (ms : Array MethodInfo := #[]) (fl : Nat := 33) (sup : Nat := 0) (ifs : Array Nat := #[]) (fds : Array FieldInfo := #[]) : ClassFile where
  minorVersion := 0
  majorVersion := 65
  constantPool := pool
  accessFlags := fl
  thisClass := this
  superClass := sup
  interfaces := ifs
  fields := fds
  methods := ms
  attributes := attrs
def plain (name : String) (sup : Option ClassId) : Class where
  name := name
  kind := .ordinary
  loader := none
  accessFlags := 33
  super := sup
  interfaces := #[]
  cf := none
  fields := #[]
  methods := #[]
  instanceTypes := #[]
  staticTypes := #[]
  resolved := #[]
  callSites := []
  init := .initialized
  statics := none
  mirror := none

def pool0 : Array CpInfo := pool [(5, u "<init>"), (0, u "()V"), (1, .class_ 10), (1, u "java/lang/Object")] 113

def k0m0 : Method := { name := "<init>", desc := "()V", sig := { parameters := [], returnType := none }, accessFlags := 1, code := none }
/-- java/lang/Object -/
def k0 : Class := { plain "java/lang/Object" none with
  accessFlags := 33
  interfaces := #[]
  cf := some (fileOf pool0 8 #[] #[{ accessFlags := 1, nameIndex := 5, descriptorIndex := 6, attributes := #[] }] 33 0 #[] #[])
  fields := #[]
  methods := #[k0m0]
  instanceTypes := #[]
  staticTypes := #[]
  resolved := Array.replicate 124 none
  statics := none }

def pool1 : Array CpInfo := pool [(2, .class_ 4), (1, u "java/lang/Object"), (0, u "<init>"), (0, u "()V"), (0, .long 2147483647), (3, .long 9223372036854775807), (1, .methodref 14 15), (0, .class_ 16), (0, .nameAndType 17 18), (0, u "com/example/rondo/rondo/Cycle"), (0, u "gcd"), (0, u "(JJ)J"), (0, .class_ 20), (0, u "com/example/rondo/rondo/CycleGcdPinLaw"), (2, u "law"), (0, u "(JJJI)Z")] 3

def k1m0 : Method := { name := "<init>", desc := "()V", sig := { parameters := [], returnType := none }, accessFlags := 1, code := none }
def k1c1 : Code := { maxStack := 6, maxLocals := 15, code := code, exceptionTable := #[], attributes := #[] }
def k1m1 : Method := { name := "law", desc := "(JJJI)Z", sig := { parameters := [.long, .long, .long, .int], returnType := some .boolean }, accessFlags := 9, code := some k1c1 }
/-- com/example/rondo/rondo/CycleGcdPinLaw -/
def k1 : Class := { plain "com/example/rondo/rondo/CycleGcdPinLaw" (some 0) with
  accessFlags := 49
  interfaces := #[]
  cf := some (fileOf pool1 19 #[] #[{ accessFlags := 1, nameIndex := 5, descriptorIndex := 6, attributes := #[] }, { accessFlags := 9, nameIndex := 23, descriptorIndex := 24, attributes := #[] }] 49 2 #[] #[])
  fields := #[]
  methods := #[k1m0, k1m1]
  instanceTypes := #[]
  staticTypes := #[]
  resolved := Array.replicate 28 none
  statics := none }

def pool2 : Array CpInfo := pool [(2, .class_ 4), (1, u "java/lang/Object"), (10, .class_ 17), (1, u "com/example/rondo/rondo/Cycle"), (0, u "pages"), (0, u "Lcom/example/rondo/rondo/Pages;"), (4, u "channels"), (0, u "[[I"), (17, u "repeatLength"), (10, u "I"), (2, u "gcd"), (0, u "(JJ)J"), (39, u "IDLE")] 36

def k2c0 : Code := { maxStack := 4, maxLocals := 10, code := prog_1_method_3_code, exceptionTable := #[], attributes := #[] }
def k2m0 : Method := { name := "gcd", desc := "(JJ)J", sig := { parameters := [.long, .long], returnType := some .long }, accessFlags := 8, code := some k2c0 }
/-- com/example/rondo/rondo/Cycle -/
def k2 : Class := { plain "com/example/rondo/rondo/Cycle" (some 0) with
  accessFlags := 49
  interfaces := #[]
  cf := some (fileOf pool2 15 #[] #[{ accessFlags := 8, nameIndex := 57, descriptorIndex := 58, attributes := #[] }] 49 2 #[] #[{ accessFlags := 25, nameIndex := 98, descriptorIndex := 54, attributes := #[] }, { accessFlags := 18, nameIndex := 18, descriptorIndex := 19, attributes := #[] }, { accessFlags := 18, nameIndex := 24, descriptorIndex := 25, attributes := #[] }, { accessFlags := 18, nameIndex := 43, descriptorIndex := 54, attributes := #[] }])
  fields := #[{ name := "IDLE", type := .int, accessFlags := 25, slot := 0, constantValue := 0 }, { name := "pages", type := (.object "com/example/rondo/rondo/Pages"), accessFlags := 18, slot := 0, constantValue := 0 }, { name := "channels", type := (.array (.array .int)), accessFlags := 18, slot := 1, constantValue := 0 }, { name := "repeatLength", type := .int, accessFlags := 18, slot := 2, constantValue := 0 }]
  methods := #[k2m0]
  instanceTypes := #[(.object "com/example/rondo/rondo/Pages"), (.array (.array .int)), .int]
  staticTypes := #[.int]
  resolved := Array.replicate 135 none
  statics := none }

def pool3 : Array CpInfo := pool [(1, u "java/lang/Cloneable"), (0, .class_ 1), (0, u "java/lang/Object"), (0, .class_ 3)] 3

/-- java/lang/Cloneable -/
def k3 : Class := { plain "java/lang/Cloneable" (some 0) with
  accessFlags := 1537
  interfaces := #[]
  cf := some (fileOf pool3 2 #[] #[] 1537 4 #[] #[])
  fields := #[]
  methods := #[]
  instanceTypes := #[]
  staticTypes := #[]
  resolved := Array.replicate 8 none
  statics := none }

def pool4 : Array CpInfo := pool [(1, u "java/io/Serializable"), (0, .class_ 1), (0, u "java/lang/Object"), (0, .class_ 3)] 3

/-- java/io/Serializable -/
def k4 : Class := { plain "java/io/Serializable" (some 0) with
  accessFlags := 1537
  interfaces := #[]
  cf := some (fileOf pool4 2 #[] #[] 1537 4 #[] #[])
  fields := #[]
  methods := #[]
  instanceTypes := #[]
  staticTypes := #[]
  resolved := Array.replicate 8 none
  statics := none }

/-- the primitive byte -/
def k5 : Class := { plain "byte" none with kind := .primitive 'B', accessFlags := 0x411 }
/-- [B -/
def k6 : Class := { plain "[B" (some 0) with kind := .array 5 .byte, interfaces := #[3, 4], accessFlags := 1041 }

/-- the primitive int -/
def k7 : Class := { plain "int" none with kind := .primitive 'I', accessFlags := 0x411 }
/-- [I -/
def k8 : Class := { plain "[I" (some 0) with kind := .array 7 .int, interfaces := #[3, 4], accessFlags := 1041 }

def heap : Heap := #[]
def classes : Array Class := #[k0, k1, k2, k3, k4, k5, k6, k7, k8]
def interned : List (Array UInt16 × Addr) := []
def slotsUsed : Nat := 0
def theMethod : MethodId := ⟨1, 1⟩
def args0 : Array Value := #[.long 5, .long 7, .long 2, .int 9]
def aboutOver (below : List Frame) : State where
  vm := { classes := classes, interned := interned.toArray }
  heap := heap
  slotsUsed := slotsUsed
  threads := #[{ frames := .invoking theMethod args0 :: below }]
def below0 : List Frame := [.native { method := ⟨0, 0⟩, args := #[] }]
def about1 : State := aboutOver below0
def p0 : Program := .bare "" "" ""
def e0 : Env := launch0.env 0 0 0
theorem w_frames : about1.frames = Frame.invoking theMethod args0 :: below0 := rfl
set_option maxRecDepth 65536 in
theorem w_args : argsFit about1.vm theMethod args0 = true := by decide +kernel
set_option maxRecDepth 65536 in
theorem w_heap : heapFits about1 = true := by decide +kernel
set_option maxRecDepth 65536 in
theorem w_runnable : about1.curStatus? = some .runnable := by decide +kernel
set_option maxRecDepth 65536 in
theorem w_alone : about1.alone = true := by decide +kernel
set_option maxRecDepth 65536 in
theorem w_named : about1.methodNamed? x = some theMethod := by decide +kernel
set_option maxRecDepth 65536 in
theorem w_hears : about1.hears theMethod below0 = true := by decide +kernel
set_option maxRecDepth 65536 in
theorem w_ripe : about1.ripe theMethod args0 below0 = true := by decide +kernel
theorem w_running : about1.status = .running := rfl
set_option maxRecDepth 65536 in
theorem w_room : about1.hasRoom e0.platform room_1 = true :=
  launch0.hasRoom_least _ room_1 (by decide +kernel) (by decide +kernel) (by decide +kernel) (by decide +kernel) (by decide +kernel) (by decide +kernel)
theorem allAtoms_all (ts : List Jvm.Cond) (a : Array Jvm.Value) (st : Jvm.State) : (allAtoms ts).before a st = ts.all (fun c => c.before a st) := by
  induction ts with
  | nil => rfl
  | cons c t ih =>
    show (Jvm.Cond.and c (allAtoms t)).before a st = _
    rw [Jvm.Cond.before_and, ih, List.all_cons]
def words1 : List Jvm.Cond := Jvm.Cond.code x code maxLocals ret :: tables_1
/-- a 'code' word, met by the world's own term for the bytes: nothing is compared byte by byte -/
theorem code_word {y : MethodName} {bytes : ByteArray} {mx : Nat} {rt : Option FieldType} {a : Array Value} {s : State} {m : MethodId} {meth : Method} {c : Code} (h1 : s.methodNamed? y = some m) (h2 : s.vm.method? m = some meth) (h3 : meth.code = some c) (h4 : c.code = bytes)
    (h5 : (c.maxLocals == mx && c.exceptionTable.isEmpty && decide (c.maxStack ≤ mostOperands) && decide (meth.sig.returnType = rt) && !meth.locks && decide (parseMethodDescriptor y.desc = some meth.sig)) = true) : (Jvm.Cond.code y bytes mx rt).before a s = true := by
  simp only [Bool.and_eq_true, beq_iff_eq, Bool.not_eq_true', decide_eq_true_eq] at h5
  obtain ⟨⟨⟨⟨⟨g1, g2⟩, g3⟩, g4⟩, g5⟩, g6⟩ := h5
  simp [Cond.before, Cond.holds, Cond.value, h1, h2, h3, h4, g1, g2, g3, g4, g5, g6]
def isCode : Jvm.Cond → Bool
  | .code _ _ _ _ => true
  | _ => false
theorem all_split {L : List Jvm.Cond} {P : Jvm.Cond → Bool} (h1 : L.all (fun c => isCode c || P c) = true) (h2 : ∀ c ∈ L.filter isCode, P c = true) : L.all P = true := by
  refine List.all_eq_true.mpr fun c hc => ?_
  have h := List.all_eq_true.mp h1 c hc
  rcases Bool.eq_false_or_eq_true (isCode c) with hi | hi
  · exact h2 c (List.mem_filter.mpr ⟨hc, hi⟩)
  · simpa [hi] using h
set_option maxRecDepth 65536 in
theorem w_c0 : (Jvm.Cond.code x code maxLocals ret).before args0 about1 = true := code_word (m := ⟨1, 1⟩) (meth := k1m1) (c := k1c1) (by decide +kernel) rfl rfl rfl (by decide +kernel)
set_option maxRecDepth 65536 in
theorem w_c1 : (Jvm.Cond.code ({ cls := "com/example/rondo/rondo/Cycle", name := "gcd", desc := "(JJ)J" } : Jvm.MethodName) prog_1_method_3_code (10 : Nat) (Option.some Jvm.ClassFile.FieldType.long)).before args0 about1 = true := code_word (m := ⟨2, 0⟩) (meth := k2m0) (c := k2c0) (by decide +kernel) rfl rfl rfl (by decide +kernel)
def codes1 : List Jvm.Cond := [Jvm.Cond.code x code maxLocals ret, Jvm.Cond.code ({ cls := "com/example/rondo/rondo/Cycle", name := "gcd", desc := "(JJ)J" } : Jvm.MethodName) prog_1_method_3_code (10 : Nat) (Option.some Jvm.ClassFile.FieldType.long)]
set_option maxRecDepth 65536 in
theorem codes_eq : words1.filter isCode = codes1 := rfl
theorem w_codes : ∀ c ∈ words1.filter isCode, c.before args0 about1 = true := by
  rw [codes_eq]
  intro c hc
  simp only [codes1, List.mem_cons, List.not_mem_nil, or_false] at hc
  rcases hc with rfl | rfl
  · exact w_c0
  · exact w_c1
set_option maxRecDepth 65536 in
theorem w_t1 : words1.all (fun c => isCode c || c.before args0 about1) = true := by decide +kernel
theorem w_tables : (allAtoms (Jvm.Cond.code x code maxLocals ret :: tables_1)).before args0 about1 = true := by
  rw [allAtoms_all]
  show words1.all (fun c => c.before args0 about1) = true
  refine all_split ?_ w_codes
  rw [w_t1]
set_option maxRecDepth 65536 in
theorem w_case : (Jvm.Cond.and given_1 narrow_1).before args0 about1 = true := by decide +kernel
theorem w_applies : (headSpec (Jvm.Cond.code x code maxLocals ret :: tables_1) room_1).applies x e0.platform about1 = true :=
  (Spec.applies_iff w_frames).mpr ⟨w_running, w_runnable, w_alone, w_named, w_hears, w_ripe, w_room, w_tables⟩
theorem atStart : AtStart classFile x code maxLocals ret World_1 tables_1 room_1 Calls_1 rest_1 Pre_1 launch0 p0 e0 about1 theMethod args0 below0 :=
  ⟨lists_1, trivial, launch0.admits_env _ _ _, launch0.least_env, fairChoices_fair.cas, fairChoices_fair.clock, w_frames, w_args, w_heap, w_applies, trivial, trivial, w_case⟩
end start1
theorem witness_1 : WitnessClaimed_1 := ⟨start1.p0, start1.e0, start1.about1, start1.theMethod, start1.args0, start1.below0, start1.atStart⟩
end Jvm.Pilot.@@N@@
