import JvmDerived
import JvmDerived.Pilot.@@N@@Statement
import JvmDerived.Pilot.@@N@@Code
set_option linter.unusedVariables false
set_option linter.unusedSimpArgs false
namespace Jvm.OwnKit
open Jvm Sem ClassFile Op Lib Jvm.Stand Jvm.Free Jvm.LawKit Jvm.RoadKit
/-- what a body's walk knows of its frame throughout -/
def Cx (p : Program) (s : State) (m : MethodId) (meth : Method) (c : Code) (Z : State) (y : MethodName) (bytes : ByteArray) (ml : Nat) (ret : Option FieldType) : Prop :=
  p.tables.exec = Jvm.exec ∧ Z.Warmed39 s.vm ∧ s.vm.findClass y.cls = some m.cls ∧ c.code = bytes ∧ c.maxLocals = ml ∧ meth.sig.returnType = ret ∧ meth.locks = false ∧ meth.name = y.name
/-- from the heap h, k cells and n slots made so far, the frame at pc with these locals and this stack comes to its end, and Q holds of the result and the last heap -/
def W (p : Program) (l : Launch) (e : Env) (R : Room) (s : State) (m : MethodId) (args : Array Value) (below : List Frame) (meth : Method) (c : Code) (n0 : Nat) (Q : Option Value → Heap → Prop) (kc ks : Nat)
    (k n : Nat) (h : Heap) (pc : Nat) (ls : Array Slot) (st : List Value) : Prop :=
  ∀ (T : State) (locs : List Loc), Stand p l e R s m args below meth c T locs k n → T.heap = h → Fr n0 locs →
    ∃ s₂ o, Steps p.tables e below (T.setTop (mkF m pc ls st)) s₂ ∧ s₂.status = .running ∧ Ended s₂ below o ∧ ∃ v L, o = .returned v ∧ (Q v s₂.heap ∧ Fr n0 L) ∧ FrameEnd s o s₂ L kc ks
/-- a body's contract -/
def Con (l : Launch) (Z : State) (y : MethodName) (bytes : ByteArray) (ml : Nat) (ret : Option FieldType) (rm : Room) (as' : Array Value) (h0 : Heap) (n0 : Nat) (Q : Option Value → Heap → Prop) : Prop :=
  ∀ ws : List Jvm.Cond, MetFree l y (head1 (Jvm.Cond.code y bytes ml ret :: ws) rm) (fun a U => a = as' ∧ Z.Warmed39 U.vm ∧ U.heap = h0) (fun _ _ _ _ _ => True) (fun _ U o U' => ∃ v L, o = .returned v ∧ (Q v U'.heap ∧ Fr n0 L) ∧ FrameEnd U o U' L rm.cells rm.slots)
/-- it returns v and leaves the heap -/
def Pu (v : Option Value) (h : Heap) : Option Value → Heap → Prop := fun v' h' => v' = v ∧ h = h'
section
variable {p : Program} {l : Launch} {e : Env} {R : Room} {s : State} {m : MethodId} {args : Array Value} {below : List Frame} {meth : Method} {c : Code} {Z : State} {y : MethodName} {bytes : ByteArray} {ml : Nat} {ret : Option FieldType} {n0 : Nat} {Q : Option Value → Heap → Prop} {kc ks k n : Nat} {h : Heap} {pc : Nat} {ls : Array Slot} {st : List Value} {a0 : Array Value}
theorem Cx.a (C : Cx p s m meth c Z y bytes ml ret) {pc : Nat} {r : Except ClassFile.DecodeError (ClassFile.Instr × Nat)} (h2 : ClassFile.decode bytes pc = r) : ClassFile.decode c.code pc = r := C.2.2.2.1 ▸ h2
theorem Con.of {rm : Room} {as' : Array Value} {h0 : Heap} (hpn : plainFor y = true) {ls : Array Slot} (hent : ∀ m, entryFrame m as' ml = mkF m 0 ls [])
    (hW : ∀ p e s m below meth c, Cx p s m meth c Z y bytes ml ret → W p l e rm s m as' below meth c n0 Q rm.cells rm.slots 0 0 h0 0 ls []) : Con l Z y bytes ml ret rm as' h0 n0 Q := by
  intro ws
  refine MetFree.of_bodySF hpn hisR ?_
  intro p e s m args below meth c s₁ Bd hml0 hP hK
  obtain ⟨rfl, hZ, hh⟩ := hP
  have X0 : Stand p l e rm s m _ below meth c s₁ [] 0 0 := Stand.of_body Bd
  have e0 : s₁.heap = h0 := by rw [← hh, Bd.state]; rfl
  obtain ⟨s₂, o, h1, h2⟩ := hW p e s m below meth c ⟨Bd.exec, hZ, findClass_of_methodNamed Bd.named, Bd.bytes, hml0, Bd.returns, Bd.notSynchronized, (name_of_methodNamed Bd.named Bd.method).1⟩ s₁ [] X0 e0 (Fr.nil n0)
  exact ⟨s₂, o, castTop (hent m) h1, h2⟩
theorem W.lift {pc' : Nat} {ls' : Array Slot} {st' : List Value} (f : ∀ T target, At T m c below → Steps p.tables e below (T.setTop (mkF m pc' ls' st')) target → Steps p.tables e below (T.setTop (mkF m pc ls st)) target) (K : W p l e R s m args below meth c n0 Q kc ks k n h pc' ls' st') : W p l e R s m args below meth c n0 Q kc ks k n h pc ls st := fun T locs X eT N => by
  obtain ⟨s₂, o, h1, h2⟩ := K T locs X eT N
  exact ⟨s₂, o, f T _ X.here h1, h2⟩
theorem W.heap {h' : Heap} (q : h = h') (K : W p l e R s m args below meth c n0 Q kc ks k n h' pc ls st) : W p l e R s m args below meth c n0 Q kc ks k n h pc ls st := q ▸ K
theorem W.room {k' n' : Nat} (hk : k ≤ k') (hn : n ≤ n') (K : W p l e R s m args below meth c n0 Q kc ks k' n' h pc ls st) : W p l e R s m args below meth c n0 Q kc ks k n h pc ls st := fun T locs X eT N => K T locs ⟨X.admits, X.cas, X.clock, X.frames, X.room, X.hears, X.method, X.code, X.here, X.tail, X.warmed, X.limits, X.bytes, X.same.mono hk hn⟩ eT N
theorem W.iaddV (C : Cx p s m meth c Z y bytes ml ret) {u v : Int32} (z : Int32) (d : decode bytes pc = .ok (.iadd, 1)) (hz : (u + v) = z) (K : W p l e R s m args below meth c n0 Q kc ks k n h (pc + 1) ls (.int z :: st)) : W p l e R s m args below meth c n0 Q kc ks k n h pc ls (.int v :: .int u :: st) :=
  W.lift (fun T t H S => XS.iadd H C.1 rfl (C.a d) rfl (by subst hz; exact S)) K
theorem W.iadd (C : Cx p s m meth c Z y bytes ml ret) {u v : Int32} (d : decode bytes pc = .ok (.iadd, 1)) (K : W p l e R s m args below meth c n0 Q kc ks k n h (pc + 1) ls (.int (u + v) :: st)) : W p l e R s m args below meth c n0 Q kc ks k n h pc ls (.int v :: .int u :: st) :=
  W.lift (fun T t H S => XS.iadd H C.1 rfl (C.a d) rfl S) K
theorem W.isubV (C : Cx p s m meth c Z y bytes ml ret) {u v : Int32} (z : Int32) (d : decode bytes pc = .ok (.isub, 1)) (hz : (u - v) = z) (K : W p l e R s m args below meth c n0 Q kc ks k n h (pc + 1) ls (.int z :: st)) : W p l e R s m args below meth c n0 Q kc ks k n h pc ls (.int v :: .int u :: st) :=
  W.lift (fun T t H S => XS.isub H C.1 rfl (C.a d) rfl (by subst hz; exact S)) K
theorem W.isub (C : Cx p s m meth c Z y bytes ml ret) {u v : Int32} (d : decode bytes pc = .ok (.isub, 1)) (K : W p l e R s m args below meth c n0 Q kc ks k n h (pc + 1) ls (.int (u - v) :: st)) : W p l e R s m args below meth c n0 Q kc ks k n h pc ls (.int v :: .int u :: st) :=
  W.lift (fun T t H S => XS.isub H C.1 rfl (C.a d) rfl S) K
theorem W.imulV (C : Cx p s m meth c Z y bytes ml ret) {u v : Int32} (z : Int32) (d : decode bytes pc = .ok (.imul, 1)) (hz : (u * v) = z) (K : W p l e R s m args below meth c n0 Q kc ks k n h (pc + 1) ls (.int z :: st)) : W p l e R s m args below meth c n0 Q kc ks k n h pc ls (.int v :: .int u :: st) :=
  W.lift (fun T t H S => XS.imul H C.1 rfl (C.a d) rfl (by subst hz; exact S)) K
theorem W.imul (C : Cx p s m meth c Z y bytes ml ret) {u v : Int32} (d : decode bytes pc = .ok (.imul, 1)) (K : W p l e R s m args below meth c n0 Q kc ks k n h (pc + 1) ls (.int (u * v) :: st)) : W p l e R s m args below meth c n0 Q kc ks k n h pc ls (.int v :: .int u :: st) :=
  W.lift (fun T t H S => XS.imul H C.1 rfl (C.a d) rfl S) K
theorem W.iandV (C : Cx p s m meth c Z y bytes ml ret) {u v : Int32} (z : Int32) (d : decode bytes pc = .ok (.iand, 1)) (hz : (u &&& v) = z) (K : W p l e R s m args below meth c n0 Q kc ks k n h (pc + 1) ls (.int z :: st)) : W p l e R s m args below meth c n0 Q kc ks k n h pc ls (.int v :: .int u :: st) :=
  W.lift (fun T t H S => XS.iand H C.1 rfl (C.a d) rfl (by subst hz; exact S)) K
theorem W.iand (C : Cx p s m meth c Z y bytes ml ret) {u v : Int32} (d : decode bytes pc = .ok (.iand, 1)) (K : W p l e R s m args below meth c n0 Q kc ks k n h (pc + 1) ls (.int (u &&& v) :: st)) : W p l e R s m args below meth c n0 Q kc ks k n h pc ls (.int v :: .int u :: st) :=
  W.lift (fun T t H S => XS.iand H C.1 rfl (C.a d) rfl S) K
theorem W.iorV (C : Cx p s m meth c Z y bytes ml ret) {u v : Int32} (z : Int32) (d : decode bytes pc = .ok (.ior, 1)) (hz : (u ||| v) = z) (K : W p l e R s m args below meth c n0 Q kc ks k n h (pc + 1) ls (.int z :: st)) : W p l e R s m args below meth c n0 Q kc ks k n h pc ls (.int v :: .int u :: st) :=
  W.lift (fun T t H S => XS.ior H C.1 rfl (C.a d) rfl (by subst hz; exact S)) K
theorem W.ior (C : Cx p s m meth c Z y bytes ml ret) {u v : Int32} (d : decode bytes pc = .ok (.ior, 1)) (K : W p l e R s m args below meth c n0 Q kc ks k n h (pc + 1) ls (.int (u ||| v) :: st)) : W p l e R s m args below meth c n0 Q kc ks k n h pc ls (.int v :: .int u :: st) :=
  W.lift (fun T t H S => XS.ior H C.1 rfl (C.a d) rfl S) K
theorem W.ixorV (C : Cx p s m meth c Z y bytes ml ret) {u v : Int32} (z : Int32) (d : decode bytes pc = .ok (.ixor, 1)) (hz : (u ^^^ v) = z) (K : W p l e R s m args below meth c n0 Q kc ks k n h (pc + 1) ls (.int z :: st)) : W p l e R s m args below meth c n0 Q kc ks k n h pc ls (.int v :: .int u :: st) :=
  W.lift (fun T t H S => XS.ixor H C.1 rfl (C.a d) rfl (by subst hz; exact S)) K
theorem W.ixor (C : Cx p s m meth c Z y bytes ml ret) {u v : Int32} (d : decode bytes pc = .ok (.ixor, 1)) (K : W p l e R s m args below meth c n0 Q kc ks k n h (pc + 1) ls (.int (u ^^^ v) :: st)) : W p l e R s m args below meth c n0 Q kc ks k n h pc ls (.int v :: .int u :: st) :=
  W.lift (fun T t H S => XS.ixor H C.1 rfl (C.a d) rfl S) K
theorem W.ishlV (C : Cx p s m meth c Z y bytes ml ret) {u v : Int32} (z : Int32) (d : decode bytes pc = .ok (.ishl, 1)) (hz : (u <<< (v &&& 31)) = z) (K : W p l e R s m args below meth c n0 Q kc ks k n h (pc + 1) ls (.int z :: st)) : W p l e R s m args below meth c n0 Q kc ks k n h pc ls (.int v :: .int u :: st) :=
  W.lift (fun T t H S => XS.ishl H C.1 rfl (C.a d) rfl (by subst hz; exact S)) K
theorem W.ishl (C : Cx p s m meth c Z y bytes ml ret) {u v : Int32} (d : decode bytes pc = .ok (.ishl, 1)) (K : W p l e R s m args below meth c n0 Q kc ks k n h (pc + 1) ls (.int (u <<< (v &&& 31)) :: st)) : W p l e R s m args below meth c n0 Q kc ks k n h pc ls (.int v :: .int u :: st) :=
  W.lift (fun T t H S => XS.ishl H C.1 rfl (C.a d) rfl S) K
theorem W.ishrV (C : Cx p s m meth c Z y bytes ml ret) {u v : Int32} (z : Int32) (d : decode bytes pc = .ok (.ishr, 1)) (hz : (u >>> (v &&& 31)) = z) (K : W p l e R s m args below meth c n0 Q kc ks k n h (pc + 1) ls (.int z :: st)) : W p l e R s m args below meth c n0 Q kc ks k n h pc ls (.int v :: .int u :: st) :=
  W.lift (fun T t H S => XS.ishr H C.1 rfl (C.a d) rfl (by subst hz; exact S)) K
theorem W.ishr (C : Cx p s m meth c Z y bytes ml ret) {u v : Int32} (d : decode bytes pc = .ok (.ishr, 1)) (K : W p l e R s m args below meth c n0 Q kc ks k n h (pc + 1) ls (.int (u >>> (v &&& 31)) :: st)) : W p l e R s m args below meth c n0 Q kc ks k n h pc ls (.int v :: .int u :: st) :=
  W.lift (fun T t H S => XS.ishr H C.1 rfl (C.a d) rfl S) K
theorem W.iushrV (C : Cx p s m meth c Z y bytes ml ret) {u v : Int32} (z : Int32) (d : decode bytes pc = .ok (.iushr, 1)) (hz : ((u.toUInt32 >>> (v &&& 31).toUInt32).toInt32) = z) (K : W p l e R s m args below meth c n0 Q kc ks k n h (pc + 1) ls (.int z :: st)) : W p l e R s m args below meth c n0 Q kc ks k n h pc ls (.int v :: .int u :: st) :=
  W.lift (fun T t H S => XS.iushr H C.1 rfl (C.a d) rfl (by subst hz; exact S)) K
theorem W.iushr (C : Cx p s m meth c Z y bytes ml ret) {u v : Int32} (d : decode bytes pc = .ok (.iushr, 1)) (K : W p l e R s m args below meth c n0 Q kc ks k n h (pc + 1) ls (.int ((u.toUInt32 >>> (v &&& 31).toUInt32).toInt32) :: st)) : W p l e R s m args below meth c n0 Q kc ks k n h pc ls (.int v :: .int u :: st) :=
  W.lift (fun T t H S => XS.iushr H C.1 rfl (C.a d) rfl S) K
theorem W.laddV (C : Cx p s m meth c Z y bytes ml ret) {u v : Int64} (z : Int64) (d : decode bytes pc = .ok (.ladd, 1)) (hz : (u + v) = z) (K : W p l e R s m args below meth c n0 Q kc ks k n h (pc + 1) ls (.long z :: st)) : W p l e R s m args below meth c n0 Q kc ks k n h pc ls (.long v :: .long u :: st) :=
  W.lift (fun T t H S => XS.ladd H C.1 rfl (C.a d) rfl (by subst hz; exact S)) K
theorem W.ladd (C : Cx p s m meth c Z y bytes ml ret) {u v : Int64} (d : decode bytes pc = .ok (.ladd, 1)) (K : W p l e R s m args below meth c n0 Q kc ks k n h (pc + 1) ls (.long (u + v) :: st)) : W p l e R s m args below meth c n0 Q kc ks k n h pc ls (.long v :: .long u :: st) :=
  W.lift (fun T t H S => XS.ladd H C.1 rfl (C.a d) rfl S) K
theorem W.lsubV (C : Cx p s m meth c Z y bytes ml ret) {u v : Int64} (z : Int64) (d : decode bytes pc = .ok (.lsub, 1)) (hz : (u - v) = z) (K : W p l e R s m args below meth c n0 Q kc ks k n h (pc + 1) ls (.long z :: st)) : W p l e R s m args below meth c n0 Q kc ks k n h pc ls (.long v :: .long u :: st) :=
  W.lift (fun T t H S => XS.lsub H C.1 rfl (C.a d) rfl (by subst hz; exact S)) K
theorem W.lsub (C : Cx p s m meth c Z y bytes ml ret) {u v : Int64} (d : decode bytes pc = .ok (.lsub, 1)) (K : W p l e R s m args below meth c n0 Q kc ks k n h (pc + 1) ls (.long (u - v) :: st)) : W p l e R s m args below meth c n0 Q kc ks k n h pc ls (.long v :: .long u :: st) :=
  W.lift (fun T t H S => XS.lsub H C.1 rfl (C.a d) rfl S) K
theorem W.lmulV (C : Cx p s m meth c Z y bytes ml ret) {u v : Int64} (z : Int64) (d : decode bytes pc = .ok (.lmul, 1)) (hz : (u * v) = z) (K : W p l e R s m args below meth c n0 Q kc ks k n h (pc + 1) ls (.long z :: st)) : W p l e R s m args below meth c n0 Q kc ks k n h pc ls (.long v :: .long u :: st) :=
  W.lift (fun T t H S => XS.lmul H C.1 rfl (C.a d) rfl (by subst hz; exact S)) K
theorem W.lmul (C : Cx p s m meth c Z y bytes ml ret) {u v : Int64} (d : decode bytes pc = .ok (.lmul, 1)) (K : W p l e R s m args below meth c n0 Q kc ks k n h (pc + 1) ls (.long (u * v) :: st)) : W p l e R s m args below meth c n0 Q kc ks k n h pc ls (.long v :: .long u :: st) :=
  W.lift (fun T t H S => XS.lmul H C.1 rfl (C.a d) rfl S) K
theorem W.landV (C : Cx p s m meth c Z y bytes ml ret) {u v : Int64} (z : Int64) (d : decode bytes pc = .ok (.land, 1)) (hz : (u &&& v) = z) (K : W p l e R s m args below meth c n0 Q kc ks k n h (pc + 1) ls (.long z :: st)) : W p l e R s m args below meth c n0 Q kc ks k n h pc ls (.long v :: .long u :: st) :=
  W.lift (fun T t H S => XS.land H C.1 rfl (C.a d) rfl (by subst hz; exact S)) K
theorem W.land (C : Cx p s m meth c Z y bytes ml ret) {u v : Int64} (d : decode bytes pc = .ok (.land, 1)) (K : W p l e R s m args below meth c n0 Q kc ks k n h (pc + 1) ls (.long (u &&& v) :: st)) : W p l e R s m args below meth c n0 Q kc ks k n h pc ls (.long v :: .long u :: st) :=
  W.lift (fun T t H S => XS.land H C.1 rfl (C.a d) rfl S) K
theorem W.lorV (C : Cx p s m meth c Z y bytes ml ret) {u v : Int64} (z : Int64) (d : decode bytes pc = .ok (.lor, 1)) (hz : (u ||| v) = z) (K : W p l e R s m args below meth c n0 Q kc ks k n h (pc + 1) ls (.long z :: st)) : W p l e R s m args below meth c n0 Q kc ks k n h pc ls (.long v :: .long u :: st) :=
  W.lift (fun T t H S => XS.lor H C.1 rfl (C.a d) rfl (by subst hz; exact S)) K
theorem W.lor (C : Cx p s m meth c Z y bytes ml ret) {u v : Int64} (d : decode bytes pc = .ok (.lor, 1)) (K : W p l e R s m args below meth c n0 Q kc ks k n h (pc + 1) ls (.long (u ||| v) :: st)) : W p l e R s m args below meth c n0 Q kc ks k n h pc ls (.long v :: .long u :: st) :=
  W.lift (fun T t H S => XS.lor H C.1 rfl (C.a d) rfl S) K
theorem W.lxorV (C : Cx p s m meth c Z y bytes ml ret) {u v : Int64} (z : Int64) (d : decode bytes pc = .ok (.lxor, 1)) (hz : (u ^^^ v) = z) (K : W p l e R s m args below meth c n0 Q kc ks k n h (pc + 1) ls (.long z :: st)) : W p l e R s m args below meth c n0 Q kc ks k n h pc ls (.long v :: .long u :: st) :=
  W.lift (fun T t H S => XS.lxor H C.1 rfl (C.a d) rfl (by subst hz; exact S)) K
theorem W.lxor (C : Cx p s m meth c Z y bytes ml ret) {u v : Int64} (d : decode bytes pc = .ok (.lxor, 1)) (K : W p l e R s m args below meth c n0 Q kc ks k n h (pc + 1) ls (.long (u ^^^ v) :: st)) : W p l e R s m args below meth c n0 Q kc ks k n h pc ls (.long v :: .long u :: st) :=
  W.lift (fun T t H S => XS.lxor H C.1 rfl (C.a d) rfl S) K
theorem W.lshlV (C : Cx p s m meth c Z y bytes ml ret) {u : Int64} {v : Int32} (z : Int64) (d : decode bytes pc = .ok (.lshl, 1)) (hz : (u <<< (v &&& 0x3f).toInt64) = z) (K : W p l e R s m args below meth c n0 Q kc ks k n h (pc + 1) ls (.long z :: st)) : W p l e R s m args below meth c n0 Q kc ks k n h pc ls (.int v :: .long u :: st) :=
  W.lift (fun T t H S => XS.lshl H C.1 rfl (C.a d) rfl (by subst hz; exact S)) K
theorem W.lshl (C : Cx p s m meth c Z y bytes ml ret) {u : Int64} {v : Int32} (d : decode bytes pc = .ok (.lshl, 1)) (K : W p l e R s m args below meth c n0 Q kc ks k n h (pc + 1) ls (.long (u <<< (v &&& 0x3f).toInt64) :: st)) : W p l e R s m args below meth c n0 Q kc ks k n h pc ls (.int v :: .long u :: st) :=
  W.lift (fun T t H S => XS.lshl H C.1 rfl (C.a d) rfl S) K
theorem W.lshrV (C : Cx p s m meth c Z y bytes ml ret) {u : Int64} {v : Int32} (z : Int64) (d : decode bytes pc = .ok (.lshr, 1)) (hz : (u >>> (v &&& 0x3f).toInt64) = z) (K : W p l e R s m args below meth c n0 Q kc ks k n h (pc + 1) ls (.long z :: st)) : W p l e R s m args below meth c n0 Q kc ks k n h pc ls (.int v :: .long u :: st) :=
  W.lift (fun T t H S => XS.lshr H C.1 rfl (C.a d) rfl (by subst hz; exact S)) K
theorem W.lshr (C : Cx p s m meth c Z y bytes ml ret) {u : Int64} {v : Int32} (d : decode bytes pc = .ok (.lshr, 1)) (K : W p l e R s m args below meth c n0 Q kc ks k n h (pc + 1) ls (.long (u >>> (v &&& 0x3f).toInt64) :: st)) : W p l e R s m args below meth c n0 Q kc ks k n h pc ls (.int v :: .long u :: st) :=
  W.lift (fun T t H S => XS.lshr H C.1 rfl (C.a d) rfl S) K
theorem W.lushrV (C : Cx p s m meth c Z y bytes ml ret) {u : Int64} {v : Int32} (z : Int64) (d : decode bytes pc = .ok (.lushr, 1)) (hz : ((u.toUInt64 >>> (v &&& 0x3f).toInt64.toUInt64).toInt64) = z) (K : W p l e R s m args below meth c n0 Q kc ks k n h (pc + 1) ls (.long z :: st)) : W p l e R s m args below meth c n0 Q kc ks k n h pc ls (.int v :: .long u :: st) :=
  W.lift (fun T t H S => XS.lushr H C.1 rfl (C.a d) rfl (by subst hz; exact S)) K
theorem W.lushr (C : Cx p s m meth c Z y bytes ml ret) {u : Int64} {v : Int32} (d : decode bytes pc = .ok (.lushr, 1)) (K : W p l e R s m args below meth c n0 Q kc ks k n h (pc + 1) ls (.long ((u.toUInt64 >>> (v &&& 0x3f).toInt64.toUInt64).toInt64) :: st)) : W p l e R s m args below meth c n0 Q kc ks k n h pc ls (.int v :: .long u :: st) :=
  W.lift (fun T t H S => XS.lushr H C.1 rfl (C.a d) rfl S) K
theorem W.idivV (C : Cx p s m meth c Z y bytes ml ret) {u v : Int32} (z : Int32) (d : decode bytes pc = .ok (.idiv, 1)) (hy : v ≠ 0) (hz : (u / v) = z) (K : W p l e R s m args below meth c n0 Q kc ks k n h (pc + 1) ls (.int z :: st)) : W p l e R s m args below meth c n0 Q kc ks k n h pc ls (.int v :: .int u :: st) :=
  W.lift (fun T t H S => XS.idiv H C.1 rfl (C.a d) rfl hy (by subst hz; exact S)) K
theorem W.idiv (C : Cx p s m meth c Z y bytes ml ret) {u v : Int32} (d : decode bytes pc = .ok (.idiv, 1)) (hy : v ≠ 0) (K : W p l e R s m args below meth c n0 Q kc ks k n h (pc + 1) ls (.int (u / v) :: st)) : W p l e R s m args below meth c n0 Q kc ks k n h pc ls (.int v :: .int u :: st) :=
  W.lift (fun T t H S => XS.idiv H C.1 rfl (C.a d) rfl hy S) K
theorem W.irem (C : Cx p s m meth c Z y bytes ml ret) {u v : Int32} (d : decode bytes pc = .ok (.irem, 1)) (hy : v ≠ 0) (K : W p l e R s m args below meth c n0 Q kc ks k n h (pc + 1) ls (.int (u % v) :: st)) : W p l e R s m args below meth c n0 Q kc ks k n h pc ls (.int v :: .int u :: st) :=
  W.lift (fun T t H S => XS.irem H C.1 rfl (C.a d) rfl hy (by rw [irem_eq_mod u v]; exact S)) K
theorem W.ldivV (C : Cx p s m meth c Z y bytes ml ret) {u v : Int64} (z : Int64) (d : decode bytes pc = .ok (.ldiv, 1)) (hy : v ≠ 0) (hz : (u / v) = z) (K : W p l e R s m args below meth c n0 Q kc ks k n h (pc + 1) ls (.long z :: st)) : W p l e R s m args below meth c n0 Q kc ks k n h pc ls (.long v :: .long u :: st) :=
  W.lift (fun T t H S => XS.ldiv H C.1 rfl (C.a d) rfl hy (by subst hz; exact S)) K
theorem W.ldiv (C : Cx p s m meth c Z y bytes ml ret) {u v : Int64} (d : decode bytes pc = .ok (.ldiv, 1)) (hy : v ≠ 0) (K : W p l e R s m args below meth c n0 Q kc ks k n h (pc + 1) ls (.long (u / v) :: st)) : W p l e R s m args below meth c n0 Q kc ks k n h pc ls (.long v :: .long u :: st) :=
  W.lift (fun T t H S => XS.ldiv H C.1 rfl (C.a d) rfl hy S) K
theorem W.lrem (C : Cx p s m meth c Z y bytes ml ret) {u v : Int64} (d : decode bytes pc = .ok (.lrem, 1)) (hy : v ≠ 0) (K : W p l e R s m args below meth c n0 Q kc ks k n h (pc + 1) ls (.long (u % v) :: st)) : W p l e R s m args below meth c n0 Q kc ks k n h pc ls (.long v :: .long u :: st) :=
  W.lift (fun T t H S => XS.lrem H C.1 rfl (C.a d) rfl hy (by rw [lrem_mod u v]; exact S)) K
theorem W.inegV (C : Cx p s m meth c Z y bytes ml ret) {u : Int32} (z : Int32) (d : decode bytes pc = .ok (.ineg, 1)) (hz : (-u) = z) (K : W p l e R s m args below meth c n0 Q kc ks k n h (pc + 1) ls (.int z :: st)) : W p l e R s m args below meth c n0 Q kc ks k n h pc ls (.int u :: st) :=
  W.lift (fun T t H S => XS.ineg H C.1 rfl (C.a d) rfl (by subst hz; exact S)) K
theorem W.ineg (C : Cx p s m meth c Z y bytes ml ret) {u : Int32} (d : decode bytes pc = .ok (.ineg, 1)) (K : W p l e R s m args below meth c n0 Q kc ks k n h (pc + 1) ls (.int (-u) :: st)) : W p l e R s m args below meth c n0 Q kc ks k n h pc ls (.int u :: st) :=
  W.lift (fun T t H S => XS.ineg H C.1 rfl (C.a d) rfl S) K
theorem W.i2bV (C : Cx p s m meth c Z y bytes ml ret) {u : Int32} (z : Int32) (d : decode bytes pc = .ok (.i2b, 1)) (hz : (u.toInt8.toInt32) = z) (K : W p l e R s m args below meth c n0 Q kc ks k n h (pc + 1) ls (.int z :: st)) : W p l e R s m args below meth c n0 Q kc ks k n h pc ls (.int u :: st) :=
  W.lift (fun T t H S => XS.i2b H C.1 rfl (C.a d) rfl (by subst hz; exact S)) K
theorem W.i2b (C : Cx p s m meth c Z y bytes ml ret) {u : Int32} (d : decode bytes pc = .ok (.i2b, 1)) (K : W p l e R s m args below meth c n0 Q kc ks k n h (pc + 1) ls (.int (u.toInt8.toInt32) :: st)) : W p l e R s m args below meth c n0 Q kc ks k n h pc ls (.int u :: st) :=
  W.lift (fun T t H S => XS.i2b H C.1 rfl (C.a d) rfl S) K
theorem W.i2cV (C : Cx p s m meth c Z y bytes ml ret) {u : Int32} (z : Int32) (d : decode bytes pc = .ok (.i2c, 1)) (hz : (u.toUInt32.toUInt16.toUInt32.toInt32) = z) (K : W p l e R s m args below meth c n0 Q kc ks k n h (pc + 1) ls (.int z :: st)) : W p l e R s m args below meth c n0 Q kc ks k n h pc ls (.int u :: st) :=
  W.lift (fun T t H S => XS.i2c H C.1 rfl (C.a d) rfl (by subst hz; exact S)) K
theorem W.i2c (C : Cx p s m meth c Z y bytes ml ret) {u : Int32} (d : decode bytes pc = .ok (.i2c, 1)) (K : W p l e R s m args below meth c n0 Q kc ks k n h (pc + 1) ls (.int (u.toUInt32.toUInt16.toUInt32.toInt32) :: st)) : W p l e R s m args below meth c n0 Q kc ks k n h pc ls (.int u :: st) :=
  W.lift (fun T t H S => XS.i2c H C.1 rfl (C.a d) rfl S) K
theorem W.i2sV (C : Cx p s m meth c Z y bytes ml ret) {u : Int32} (z : Int32) (d : decode bytes pc = .ok (.i2s, 1)) (hz : (u.toInt16.toInt32) = z) (K : W p l e R s m args below meth c n0 Q kc ks k n h (pc + 1) ls (.int z :: st)) : W p l e R s m args below meth c n0 Q kc ks k n h pc ls (.int u :: st) :=
  W.lift (fun T t H S => XS.i2s H C.1 rfl (C.a d) rfl (by subst hz; exact S)) K
theorem W.i2s (C : Cx p s m meth c Z y bytes ml ret) {u : Int32} (d : decode bytes pc = .ok (.i2s, 1)) (K : W p l e R s m args below meth c n0 Q kc ks k n h (pc + 1) ls (.int (u.toInt16.toInt32) :: st)) : W p l e R s m args below meth c n0 Q kc ks k n h pc ls (.int u :: st) :=
  W.lift (fun T t H S => XS.i2s H C.1 rfl (C.a d) rfl S) K
theorem W.i2lV (C : Cx p s m meth c Z y bytes ml ret) {u : Int32} (z : Int64) (d : decode bytes pc = .ok (.i2l, 1)) (hz : u.toInt64 = z) (K : W p l e R s m args below meth c n0 Q kc ks k n h (pc + 1) ls (.long z :: st)) : W p l e R s m args below meth c n0 Q kc ks k n h pc ls (.int u :: st) :=
  W.lift (fun T t H S => XS.i2l H C.1 rfl (C.a d) rfl (by subst hz; exact S)) K
theorem W.i2l (C : Cx p s m meth c Z y bytes ml ret) {u : Int32} (d : decode bytes pc = .ok (.i2l, 1)) (K : W p l e R s m args below meth c n0 Q kc ks k n h (pc + 1) ls (.long u.toInt64 :: st)) : W p l e R s m args below meth c n0 Q kc ks k n h pc ls (.int u :: st) :=
  W.lift (fun T t H S => XS.i2l H C.1 rfl (C.a d) rfl S) K
theorem W.l2iV (C : Cx p s m meth c Z y bytes ml ret) {u : Int64} (z : Int32) (d : decode bytes pc = .ok (.l2i, 1)) (hz : u.toInt32 = z) (K : W p l e R s m args below meth c n0 Q kc ks k n h (pc + 1) ls (.int z :: st)) : W p l e R s m args below meth c n0 Q kc ks k n h pc ls (.long u :: st) :=
  W.lift (fun T t H S => XS.l2i H C.1 rfl (C.a d) rfl (by subst hz; exact S)) K
theorem W.l2i (C : Cx p s m meth c Z y bytes ml ret) {u : Int64} (d : decode bytes pc = .ok (.l2i, 1)) (K : W p l e R s m args below meth c n0 Q kc ks k n h (pc + 1) ls (.int u.toInt32 :: st)) : W p l e R s m args below meth c n0 Q kc ks k n h pc ls (.long u :: st) :=
  W.lift (fun T t H S => XS.l2i H C.1 rfl (C.a d) rfl S) K
theorem W.lnegV (C : Cx p s m meth c Z y bytes ml ret) {u : Int64} (z : Int64) (d : decode bytes pc = .ok (.lneg, 1)) (hz : (-u) = z) (K : W p l e R s m args below meth c n0 Q kc ks k n h (pc + 1) ls (.long z :: st)) : W p l e R s m args below meth c n0 Q kc ks k n h pc ls (.long u :: st) :=
  W.lift (fun T t H S => XS.lneg H C.1 rfl (C.a d) rfl (by subst hz; exact S)) K
theorem W.lneg (C : Cx p s m meth c Z y bytes ml ret) {u : Int64} (d : decode bytes pc = .ok (.lneg, 1)) (K : W p l e R s m args below meth c n0 Q kc ks k n h (pc + 1) ls (.long (-u) :: st)) : W p l e R s m args below meth c n0 Q kc ks k n h pc ls (.long u :: st) :=
  W.lift (fun T t H S => XS.lneg H C.1 rfl (C.a d) rfl S) K
theorem W.lcmpV (C : Cx p s m meth c Z y bytes ml ret) {u v : Int64} (z : Int32) (d : decode bytes pc = .ok (.lcmp, 1)) (hz : (lcmpW u v) = z) (K : W p l e R s m args below meth c n0 Q kc ks k n h (pc + 1) ls (.int z :: st)) : W p l e R s m args below meth c n0 Q kc ks k n h pc ls (.long v :: .long u :: st) :=
  W.lift (fun T t H S => XS.lcmp H C.1 rfl (C.a d) rfl (by subst hz; exact S)) K
theorem W.lcmp (C : Cx p s m meth c Z y bytes ml ret) {u v : Int64} (d : decode bytes pc = .ok (.lcmp, 1)) (K : W p l e R s m args below meth c n0 Q kc ks k n h (pc + 1) ls (.int (lcmpW u v) :: st)) : W p l e R s m args below meth c n0 Q kc ks k n h pc ls (.long v :: .long u :: st) :=
  W.lift (fun T t H S => XS.lcmp H C.1 rfl (C.a d) rfl S) K
theorem W.pop (C : Cx p s m meth c Z y bytes ml ret) {u : Value} (d : decode bytes pc = .ok (.pop, 1)) (hc : u.category = 1) (K : W p l e R s m args below meth c n0 Q kc ks k n h (pc + 1) ls (st)) : W p l e R s m args below meth c n0 Q kc ks k n h pc ls (u :: st) :=
  W.lift (fun T t H S => XS.pop H C.1 rfl (C.a d) rfl hc S) K
theorem W.dup (C : Cx p s m meth c Z y bytes ml ret) {u : Value} (d : decode bytes pc = .ok (.dup, 1)) (hc : u.category = 1) (K : W p l e R s m args below meth c n0 Q kc ks k n h (pc + 1) ls (u :: u :: st)) : W p l e R s m args below meth c n0 Q kc ks k n h pc ls (u :: st) :=
  W.lift (fun T t H S => XS.dup H C.1 rfl (C.a d) rfl hc S) K
theorem W.dupX1 (C : Cx p s m meth c Z y bytes ml ret) {u v : Value} (d : decode bytes pc = .ok (.dup_x1, 1)) (hc : u.category = 1) (hc' : v.category = 1) (K : W p l e R s m args below meth c n0 Q kc ks k n h (pc + 1) ls (u :: v :: u :: st)) : W p l e R s m args below meth c n0 Q kc ks k n h pc ls (u :: v :: st) :=
  W.lift (fun T t H S => XT.dupX1 H C.1 rfl (C.a d) rfl hc hc' S) K
theorem W.dup2 (C : Cx p s m meth c Z y bytes ml ret) {u v : Value} (d : decode bytes pc = .ok (.dup2, 1)) (hc : u.category = 1) (hc' : v.category = 1) (K : W p l e R s m args below meth c n0 Q kc ks k n h (pc + 1) ls (u :: v :: u :: v :: st)) : W p l e R s m args below meth c n0 Q kc ks k n h pc ls (u :: v :: st) :=
  W.lift (fun T t H S => XT.dup2 H C.1 rfl (C.a d) rfl hc hc' S) K
theorem W.dup2L (C : Cx p s m meth c Z y bytes ml ret) {u : Int64} (d : decode bytes pc = .ok (.dup2, 1)) (K : W p l e R s m args below meth c n0 Q kc ks k n h (pc + 1) ls (.long u :: .long u :: st)) : W p l e R s m args below meth c n0 Q kc ks k n h pc ls (.long u :: st) :=
  W.lift (fun T t H S => XT.dup2L H C.1 rfl (C.a d) rfl S) K
theorem W.aconstNull (C : Cx p s m meth c Z y bytes ml ret)  (d : decode bytes pc = .ok (.aconst_null, 1)) (K : W p l e R s m args below meth c n0 Q kc ks k n h (pc + 1) ls (.null :: st)) : W p l e R s m args below meth c n0 Q kc ks k n h pc ls (st) :=
  W.lift (fun T t H S => XS.aconstNull H C.1 rfl (C.a d)  S) K
theorem W.iconst (C : Cx p s m meth c Z y bytes ml ret) {i : Int} (v : Int32) (d : decode bytes pc = .ok (.iconst i, 1)) (hv : Int32.ofInt i = v) (K : W p l e R s m args below meth c n0 Q kc ks k n h (pc + 1) ls (.int v :: st)) : W p l e R s m args below meth c n0 Q kc ks k n h pc ls st :=
  W.lift (fun T t H S => XS.iconst H C.1 rfl (C.a d) (by rw [hv]; exact S)) K
theorem W.bipush (C : Cx p s m meth c Z y bytes ml ret) {i : Int} (v : Int32) (d : decode bytes pc = .ok (.bipush i, 2)) (hv : (Int8.ofInt i).toInt32 = v) (K : W p l e R s m args below meth c n0 Q kc ks k n h (pc + 2) ls (.int v :: st)) : W p l e R s m args below meth c n0 Q kc ks k n h pc ls st :=
  W.lift (fun T t H S => XS.bipush H C.1 rfl (C.a d) (by rw [hv]; exact S)) K
theorem W.sipush (C : Cx p s m meth c Z y bytes ml ret) {i : Int} (v : Int32) (d : decode bytes pc = .ok (.sipush i, 3)) (hv : (Int16.ofInt i).toInt32 = v) (K : W p l e R s m args below meth c n0 Q kc ks k n h (pc + 3) ls (.int v :: st)) : W p l e R s m args below meth c n0 Q kc ks k n h pc ls st :=
  W.lift (fun T t H S => XS.sipush H C.1 rfl (C.a d) (by rw [hv]; exact S)) K
theorem W.lconst (C : Cx p s m meth c Z y bytes ml ret) {i : Fin 2} (v : Int64) (d : decode bytes pc = .ok (.lconst i, 1)) (hv : Int64.ofNat i = v) (K : W p l e R s m args below meth c n0 Q kc ks k n h (pc + 1) ls (.long v :: st)) : W p l e R s m args below meth c n0 Q kc ks k n h pc ls st :=
  W.lift (fun T t H S => XS.lconst H C.1 rfl (C.a d) (by rw [hv]; exact S)) K
theorem W.iloadN (C : Cx p s m meth c Z y bytes ml ret) {i : Fin 4} {v : Int32} (d : decode bytes pc = .ok (.iload_n i, 1)) (hl : ls[i.val]? = some (.val (.int v))) (K : W p l e R s m args below meth c n0 Q kc ks k n h (pc + 1) ls (.int v :: st)) : W p l e R s m args below meth c n0 Q kc ks k n h pc ls st :=
  W.lift (fun T t H S => XS.iloadN H C.1 rfl (C.a d) hl S) K
theorem W.iload (C : Cx p s m meth c Z y bytes ml ret) {i : Nat} {v : Int32} (d : decode bytes pc = .ok (.iload i, 2)) (hl : ls[i]? = some (.val (.int v))) (K : W p l e R s m args below meth c n0 Q kc ks k n h (pc + 2) ls (.int v :: st)) : W p l e R s m args below meth c n0 Q kc ks k n h pc ls st :=
  W.lift (fun T t H S => XS.iload H C.1 rfl (C.a d) hl S) K
theorem W.istoreN (C : Cx p s m meth c Z y bytes ml ret) {i : Fin 4} {v : Int32} (l' : Array Slot) (d : decode bytes pc = .ok (.istore_n i, 1)) (hl : storeLocals ls i.val (.int v) = some l') (K : W p l e R s m args below meth c n0 Q kc ks k n h (pc + 1) l' st) : W p l e R s m args below meth c n0 Q kc ks k n h pc ls (.int v :: st) :=
  W.lift (fun T t H S => XS.istoreN H C.1 rfl (C.a d) rfl hl S) K
theorem W.istore (C : Cx p s m meth c Z y bytes ml ret) {i : Nat} {v : Int32} (l' : Array Slot) (d : decode bytes pc = .ok (.istore i, 2)) (hl : storeLocals ls i (.int v) = some l') (K : W p l e R s m args below meth c n0 Q kc ks k n h (pc + 2) l' st) : W p l e R s m args below meth c n0 Q kc ks k n h pc ls (.int v :: st) :=
  W.lift (fun T t H S => XS.istore H C.1 rfl (C.a d) rfl hl S) K
theorem W.lloadN (C : Cx p s m meth c Z y bytes ml ret) {i : Fin 4} {v : Int64} (d : decode bytes pc = .ok (.lload_n i, 1)) (hl : ls[i.val]? = some (.val (.long v))) (K : W p l e R s m args below meth c n0 Q kc ks k n h (pc + 1) ls (.long v :: st)) : W p l e R s m args below meth c n0 Q kc ks k n h pc ls st :=
  W.lift (fun T t H S => XS.lloadN H C.1 rfl (C.a d) hl S) K
theorem W.lload (C : Cx p s m meth c Z y bytes ml ret) {i : Nat} {v : Int64} (d : decode bytes pc = .ok (.lload i, 2)) (hl : ls[i]? = some (.val (.long v))) (K : W p l e R s m args below meth c n0 Q kc ks k n h (pc + 2) ls (.long v :: st)) : W p l e R s m args below meth c n0 Q kc ks k n h pc ls st :=
  W.lift (fun T t H S => XS.lload H C.1 rfl (C.a d) hl S) K
theorem W.lstoreN (C : Cx p s m meth c Z y bytes ml ret) {i : Fin 4} {v : Int64} (l' : Array Slot) (d : decode bytes pc = .ok (.lstore_n i, 1)) (hl : storeLocals ls i.val (.long v) = some l') (K : W p l e R s m args below meth c n0 Q kc ks k n h (pc + 1) l' st) : W p l e R s m args below meth c n0 Q kc ks k n h pc ls (.long v :: st) :=
  W.lift (fun T t H S => XS.lstoreN H C.1 rfl (C.a d) rfl hl S) K
theorem W.lstore (C : Cx p s m meth c Z y bytes ml ret) {i : Nat} {v : Int64} (l' : Array Slot) (d : decode bytes pc = .ok (.lstore i, 2)) (hl : storeLocals ls i (.long v) = some l') (K : W p l e R s m args below meth c n0 Q kc ks k n h (pc + 2) l' st) : W p l e R s m args below meth c n0 Q kc ks k n h pc ls (.long v :: st) :=
  W.lift (fun T t H S => XS.lstore H C.1 rfl (C.a d) rfl hl S) K
theorem W.aloadN (C : Cx p s m meth c Z y bytes ml ret) {i : Fin 4} {v : Value} (d : decode bytes pc = .ok (.aload_n i, 1)) (hl : ls[i.val]? = some (.val v)) (hv : v.isRef = true) (K : W p l e R s m args below meth c n0 Q kc ks k n h (pc + 1) ls (v :: st)) : W p l e R s m args below meth c n0 Q kc ks k n h pc ls st :=
  W.lift (fun T t H S => XS.aloadN H C.1 rfl (C.a d) hl hv S) K
theorem W.aload (C : Cx p s m meth c Z y bytes ml ret) {i : Nat} {v : Value} (d : decode bytes pc = .ok (.aload i, 2)) (hl : ls[i]? = some (.val v)) (hv : v.isRef = true) (K : W p l e R s m args below meth c n0 Q kc ks k n h (pc + 2) ls (v :: st)) : W p l e R s m args below meth c n0 Q kc ks k n h pc ls st :=
  W.lift (fun T t H S => XS.aload H C.1 rfl (C.a d) hl hv S) K
theorem W.astoreN (C : Cx p s m meth c Z y bytes ml ret) {i : Fin 4} {v : Value} (l' : Array Slot) (d : decode bytes pc = .ok (.astore_n i, 1)) (hv : v.isRef = true) (hl : storeLocals ls i.val v = some l') (K : W p l e R s m args below meth c n0 Q kc ks k n h (pc + 1) l' st) : W p l e R s m args below meth c n0 Q kc ks k n h pc ls (v :: st) :=
  W.lift (fun T t H S => XS.astoreN H C.1 rfl (C.a d) rfl hv hl S) K
theorem W.astore (C : Cx p s m meth c Z y bytes ml ret) {i : Nat} {v : Value} (l' : Array Slot) (d : decode bytes pc = .ok (.astore i, 2)) (hv : v.isRef = true) (hl : storeLocals ls i v = some l') (K : W p l e R s m args below meth c n0 Q kc ks k n h (pc + 2) l' st) : W p l e R s m args below meth c n0 Q kc ks k n h pc ls (v :: st) :=
  W.lift (fun T t H S => XS.astore H C.1 rfl (C.a d) rfl hv hl S) K
theorem W.istoreO (C : Cx p s m meth c Z y bytes ml ret) {i : Nat} {v : Int32} {o : Slot} (l' : Array Slot) (d : decode bytes pc = .ok (.istore i, 2)) (hold : ls[i]? = some o) (ho : One o) (hl : ls.setIfInBounds i (.val (.int v)) = l') (K : W p l e R s m args below meth c n0 Q kc ks k n h (pc + 2) l' st) : W p l e R s m args below meth c n0 Q kc ks k n h pc ls (.int v :: st) :=
  W.lift (fun T t H S => XS.istoreS H C.1 rfl (C.a d) rfl hold ho (by rw [hl]; exact S)) K
theorem W.istoreNO (C : Cx p s m meth c Z y bytes ml ret) {i : Fin 4} {v : Int32} {o : Slot} (l' : Array Slot) (d : decode bytes pc = .ok (.istore_n i, 1)) (hold : ls[i.val]? = some o) (ho : One o) (hl : ls.setIfInBounds i.val (.val (.int v)) = l') (K : W p l e R s m args below meth c n0 Q kc ks k n h (pc + 1) l' st) : W p l e R s m args below meth c n0 Q kc ks k n h pc ls (.int v :: st) :=
  W.lift (fun T t H S => XS.istoreNS H C.1 rfl (C.a d) rfl hold ho (by rw [hl]; exact S)) K
theorem W.iinc (C : Cx p s m meth c Z y bytes ml ret) {i : Nat} {cst : Int} {u : Int32} (v : Int32) (l' : Array Slot) (d : decode bytes pc = .ok (.iinc i cst, 3)) (hl : ls[i]? = some (.val (.int u))) (hv : u + Int32.ofInt cst = v) (hl' : storeLocals ls i (.int v) = some l') (K : W p l e R s m args below meth c n0 Q kc ks k n h (pc + 3) l' st) : W p l e R s m args below meth c n0 Q kc ks k n h pc ls st :=
  W.lift (fun T t H S => XS.iinc H C.1 rfl (C.a d) hl (by rw [hv]; exact hl') S) K
theorem jmp {pc pc' : Nat} {o : Int} (hp : (pc : Int) + o = pc') : 0 ≤ (pc : Int) + o ∧ ((pc : Int) + o).toNat = pc' := by omega
theorem W.goto (C : Cx p s m meth c Z y bytes ml ret) {o : Int} (pc' : Nat) (d : decode bytes pc = .ok (.goto o, 3)) (hp : (pc : Int) + o = pc') (K : W p l e R s m args below meth c n0 Q kc ks k n h pc' ls st) : W p l e R s m args below meth c n0 Q kc ks k n h pc ls st :=
  W.lift (fun T t H S => XS.goto H C.1 rfl (pc0 := pc) (pc' := pc') rfl (C.a d) (jmp hp).1 (jmp hp).2 S) K
theorem W.icmp_eq (C : Cx p s m meth c Z y bytes ml ret) {u v : Int32} {o : Int} (pc' : Nat) (d : decode bytes pc = .ok (.if_icmp .eq o, 3)) (hp : (pc : Int) + o = pc') (yes : u = v → W p l e R s m args below meth c n0 Q kc ks k n h pc' ls st) (no : ¬ u = v → W p l e R s m args below meth c n0 Q kc ks k n h (pc + 3) ls st) : W p l e R s m args below meth c n0 Q kc ks k n h pc ls (.int v :: .int u :: st) := by
  by_cases b : u = v
  · exact W.lift (fun T t H S => XS.icmpYes H C.1 rfl (pc0 := pc) (pc' := pc') rfl (C.a d) rfl (XT.ii_eq_t b) (jmp hp).1 (jmp hp).2 S) (yes b)
  · exact W.lift (fun T t H S => XS.icmpNo H C.1 rfl (C.a d) rfl (XT.ii_eq_f b) S) (no b)
theorem W.if_eq (C : Cx p s m meth c Z y bytes ml ret) {u : Int32} {o : Int} (pc' : Nat) (d : decode bytes pc = .ok (.ifCond .eq o, 3)) (hp : (pc : Int) + o = pc') (yes : u = 0 → W p l e R s m args below meth c n0 Q kc ks k n h pc' ls st) (no : ¬ u = 0 → W p l e R s m args below meth c n0 Q kc ks k n h (pc + 3) ls st) : W p l e R s m args below meth c n0 Q kc ks k n h pc ls (.int u :: st) := by
  by_cases b : u = 0
  · exact W.lift (fun T t H S => XS.ifYes H C.1 rfl (pc0 := pc) (pc' := pc') rfl (C.a d) rfl (XT.i0_eq_t b) (jmp hp).1 (jmp hp).2 S) (yes b)
  · exact W.lift (fun T t H S => XS.ifNo H C.1 rfl (C.a d) rfl (XT.i0_eq_f b) S) (no b)
theorem ll_eq_t {u v : Int64} (b : u = v) : ifCond.holds .eq (lcmpW u v) = true := XT.ll_eq_t b
theorem ll_eq_f {u v : Int64} (b : ¬ u = v) : ifCond.holds .eq (lcmpW u v) = false := XT.ll_eq_f b
theorem W.lif_eq (C : Cx p s m meth c Z y bytes ml ret) {u v : Int64} {o : Int} (pc' : Nat) (d : decode bytes pc = .ok (.ifCond .eq o, 3)) (hp : (pc : Int) + o = pc') (yes : u = v → W p l e R s m args below meth c n0 Q kc ks k n h pc' ls st) (no : ¬ u = v → W p l e R s m args below meth c n0 Q kc ks k n h (pc + 3) ls st) : W p l e R s m args below meth c n0 Q kc ks k n h pc ls (.int (lcmpW u v) :: st) := by
  by_cases b : u = v
  · exact W.lift (fun T t H S => XS.ifYes H C.1 rfl (pc0 := pc) (pc' := pc') rfl (C.a d) rfl (ll_eq_t b) (jmp hp).1 (jmp hp).2 S) (yes b)
  · exact W.lift (fun T t H S => XS.ifNo H C.1 rfl (C.a d) rfl (ll_eq_f b) S) (no b)
theorem W.icmp_ne (C : Cx p s m meth c Z y bytes ml ret) {u v : Int32} {o : Int} (pc' : Nat) (d : decode bytes pc = .ok (.if_icmp .ne o, 3)) (hp : (pc : Int) + o = pc') (yes : ¬ u = v → W p l e R s m args below meth c n0 Q kc ks k n h pc' ls st) (no : u = v → W p l e R s m args below meth c n0 Q kc ks k n h (pc + 3) ls st) : W p l e R s m args below meth c n0 Q kc ks k n h pc ls (.int v :: .int u :: st) := by
  by_cases b : u = v
  · exact W.lift (fun T t H S => XS.icmpNo H C.1 rfl (C.a d) rfl (XT.ii_ne_f b) S) (no b)
  · exact W.lift (fun T t H S => XS.icmpYes H C.1 rfl (pc0 := pc) (pc' := pc') rfl (C.a d) rfl (XT.ii_ne_t b) (jmp hp).1 (jmp hp).2 S) (yes b)
theorem W.if_ne (C : Cx p s m meth c Z y bytes ml ret) {u : Int32} {o : Int} (pc' : Nat) (d : decode bytes pc = .ok (.ifCond .ne o, 3)) (hp : (pc : Int) + o = pc') (yes : ¬ u = 0 → W p l e R s m args below meth c n0 Q kc ks k n h pc' ls st) (no : u = 0 → W p l e R s m args below meth c n0 Q kc ks k n h (pc + 3) ls st) : W p l e R s m args below meth c n0 Q kc ks k n h pc ls (.int u :: st) := by
  by_cases b : u = 0
  · exact W.lift (fun T t H S => XS.ifNo H C.1 rfl (C.a d) rfl (XT.i0_ne_f b) S) (no b)
  · exact W.lift (fun T t H S => XS.ifYes H C.1 rfl (pc0 := pc) (pc' := pc') rfl (C.a d) rfl (XT.i0_ne_t b) (jmp hp).1 (jmp hp).2 S) (yes b)
theorem ll_ne_t {u v : Int64} (b : ¬ u = v) : ifCond.holds .ne (lcmpW u v) = true := XT.ll_ne_t b
theorem ll_ne_f {u v : Int64} (b : u = v) : ifCond.holds .ne (lcmpW u v) = false := XT.ll_ne_f b
theorem W.lif_ne (C : Cx p s m meth c Z y bytes ml ret) {u v : Int64} {o : Int} (pc' : Nat) (d : decode bytes pc = .ok (.ifCond .ne o, 3)) (hp : (pc : Int) + o = pc') (yes : ¬ u = v → W p l e R s m args below meth c n0 Q kc ks k n h pc' ls st) (no : u = v → W p l e R s m args below meth c n0 Q kc ks k n h (pc + 3) ls st) : W p l e R s m args below meth c n0 Q kc ks k n h pc ls (.int (lcmpW u v) :: st) := by
  by_cases b : u = v
  · exact W.lift (fun T t H S => XS.ifNo H C.1 rfl (C.a d) rfl (ll_ne_f b) S) (no b)
  · exact W.lift (fun T t H S => XS.ifYes H C.1 rfl (pc0 := pc) (pc' := pc') rfl (C.a d) rfl (ll_ne_t b) (jmp hp).1 (jmp hp).2 S) (yes b)
theorem W.icmp_lt (C : Cx p s m meth c Z y bytes ml ret) {u v : Int32} {o : Int} (pc' : Nat) (d : decode bytes pc = .ok (.if_icmp .lt o, 3)) (hp : (pc : Int) + o = pc') (yes : u < v → W p l e R s m args below meth c n0 Q kc ks k n h pc' ls st) (no : ¬ u < v → W p l e R s m args below meth c n0 Q kc ks k n h (pc + 3) ls st) : W p l e R s m args below meth c n0 Q kc ks k n h pc ls (.int v :: .int u :: st) := by
  by_cases b : u < v
  · exact W.lift (fun T t H S => XS.icmpYes H C.1 rfl (pc0 := pc) (pc' := pc') rfl (C.a d) rfl (XT.ii_lt_t b) (jmp hp).1 (jmp hp).2 S) (yes b)
  · exact W.lift (fun T t H S => XS.icmpNo H C.1 rfl (C.a d) rfl (XT.ii_lt_f b) S) (no b)
theorem W.if_lt (C : Cx p s m meth c Z y bytes ml ret) {u : Int32} {o : Int} (pc' : Nat) (d : decode bytes pc = .ok (.ifCond .lt o, 3)) (hp : (pc : Int) + o = pc') (yes : u < 0 → W p l e R s m args below meth c n0 Q kc ks k n h pc' ls st) (no : ¬ u < 0 → W p l e R s m args below meth c n0 Q kc ks k n h (pc + 3) ls st) : W p l e R s m args below meth c n0 Q kc ks k n h pc ls (.int u :: st) := by
  by_cases b : u < 0
  · exact W.lift (fun T t H S => XS.ifYes H C.1 rfl (pc0 := pc) (pc' := pc') rfl (C.a d) rfl (XT.i0_lt_t b) (jmp hp).1 (jmp hp).2 S) (yes b)
  · exact W.lift (fun T t H S => XS.ifNo H C.1 rfl (C.a d) rfl (XT.i0_lt_f b) S) (no b)
theorem ll_lt_t {u v : Int64} (b : u < v) : ifCond.holds .lt (lcmpW u v) = true := XT.ll_lt_t b
theorem ll_lt_f {u v : Int64} (b : ¬ u < v) : ifCond.holds .lt (lcmpW u v) = false := XT.ll_lt_f b
theorem W.lif_lt (C : Cx p s m meth c Z y bytes ml ret) {u v : Int64} {o : Int} (pc' : Nat) (d : decode bytes pc = .ok (.ifCond .lt o, 3)) (hp : (pc : Int) + o = pc') (yes : u < v → W p l e R s m args below meth c n0 Q kc ks k n h pc' ls st) (no : ¬ u < v → W p l e R s m args below meth c n0 Q kc ks k n h (pc + 3) ls st) : W p l e R s m args below meth c n0 Q kc ks k n h pc ls (.int (lcmpW u v) :: st) := by
  by_cases b : u < v
  · exact W.lift (fun T t H S => XS.ifYes H C.1 rfl (pc0 := pc) (pc' := pc') rfl (C.a d) rfl (ll_lt_t b) (jmp hp).1 (jmp hp).2 S) (yes b)
  · exact W.lift (fun T t H S => XS.ifNo H C.1 rfl (C.a d) rfl (ll_lt_f b) S) (no b)
theorem W.icmp_ge (C : Cx p s m meth c Z y bytes ml ret) {u v : Int32} {o : Int} (pc' : Nat) (d : decode bytes pc = .ok (.if_icmp .ge o, 3)) (hp : (pc : Int) + o = pc') (yes : ¬ u < v → W p l e R s m args below meth c n0 Q kc ks k n h pc' ls st) (no : u < v → W p l e R s m args below meth c n0 Q kc ks k n h (pc + 3) ls st) : W p l e R s m args below meth c n0 Q kc ks k n h pc ls (.int v :: .int u :: st) := by
  by_cases b : u < v
  · exact W.lift (fun T t H S => XS.icmpNo H C.1 rfl (C.a d) rfl (XT.ii_ge_f b) S) (no b)
  · exact W.lift (fun T t H S => XS.icmpYes H C.1 rfl (pc0 := pc) (pc' := pc') rfl (C.a d) rfl (XT.ii_ge_t b) (jmp hp).1 (jmp hp).2 S) (yes b)
theorem W.if_ge (C : Cx p s m meth c Z y bytes ml ret) {u : Int32} {o : Int} (pc' : Nat) (d : decode bytes pc = .ok (.ifCond .ge o, 3)) (hp : (pc : Int) + o = pc') (yes : ¬ u < 0 → W p l e R s m args below meth c n0 Q kc ks k n h pc' ls st) (no : u < 0 → W p l e R s m args below meth c n0 Q kc ks k n h (pc + 3) ls st) : W p l e R s m args below meth c n0 Q kc ks k n h pc ls (.int u :: st) := by
  by_cases b : u < 0
  · exact W.lift (fun T t H S => XS.ifNo H C.1 rfl (C.a d) rfl (XT.i0_ge_f b) S) (no b)
  · exact W.lift (fun T t H S => XS.ifYes H C.1 rfl (pc0 := pc) (pc' := pc') rfl (C.a d) rfl (XT.i0_ge_t b) (jmp hp).1 (jmp hp).2 S) (yes b)
theorem ll_ge_t {u v : Int64} (b : ¬ u < v) : ifCond.holds .ge (lcmpW u v) = true := XT.ll_ge_t b
theorem ll_ge_f {u v : Int64} (b : u < v) : ifCond.holds .ge (lcmpW u v) = false := XT.ll_ge_f b
theorem W.lif_ge (C : Cx p s m meth c Z y bytes ml ret) {u v : Int64} {o : Int} (pc' : Nat) (d : decode bytes pc = .ok (.ifCond .ge o, 3)) (hp : (pc : Int) + o = pc') (yes : ¬ u < v → W p l e R s m args below meth c n0 Q kc ks k n h pc' ls st) (no : u < v → W p l e R s m args below meth c n0 Q kc ks k n h (pc + 3) ls st) : W p l e R s m args below meth c n0 Q kc ks k n h pc ls (.int (lcmpW u v) :: st) := by
  by_cases b : u < v
  · exact W.lift (fun T t H S => XS.ifNo H C.1 rfl (C.a d) rfl (ll_ge_f b) S) (no b)
  · exact W.lift (fun T t H S => XS.ifYes H C.1 rfl (pc0 := pc) (pc' := pc') rfl (C.a d) rfl (ll_ge_t b) (jmp hp).1 (jmp hp).2 S) (yes b)
theorem W.icmp_gt (C : Cx p s m meth c Z y bytes ml ret) {u v : Int32} {o : Int} (pc' : Nat) (d : decode bytes pc = .ok (.if_icmp .gt o, 3)) (hp : (pc : Int) + o = pc') (yes : v < u → W p l e R s m args below meth c n0 Q kc ks k n h pc' ls st) (no : ¬ v < u → W p l e R s m args below meth c n0 Q kc ks k n h (pc + 3) ls st) : W p l e R s m args below meth c n0 Q kc ks k n h pc ls (.int v :: .int u :: st) := by
  by_cases b : v < u
  · exact W.lift (fun T t H S => XS.icmpYes H C.1 rfl (pc0 := pc) (pc' := pc') rfl (C.a d) rfl (XT.ii_gt_t b) (jmp hp).1 (jmp hp).2 S) (yes b)
  · exact W.lift (fun T t H S => XS.icmpNo H C.1 rfl (C.a d) rfl (XT.ii_gt_f b) S) (no b)
theorem W.if_gt (C : Cx p s m meth c Z y bytes ml ret) {u : Int32} {o : Int} (pc' : Nat) (d : decode bytes pc = .ok (.ifCond .gt o, 3)) (hp : (pc : Int) + o = pc') (yes : 0 < u → W p l e R s m args below meth c n0 Q kc ks k n h pc' ls st) (no : ¬ 0 < u → W p l e R s m args below meth c n0 Q kc ks k n h (pc + 3) ls st) : W p l e R s m args below meth c n0 Q kc ks k n h pc ls (.int u :: st) := by
  by_cases b : 0 < u
  · exact W.lift (fun T t H S => XS.ifYes H C.1 rfl (pc0 := pc) (pc' := pc') rfl (C.a d) rfl (XT.i0_gt_t b) (jmp hp).1 (jmp hp).2 S) (yes b)
  · exact W.lift (fun T t H S => XS.ifNo H C.1 rfl (C.a d) rfl (XT.i0_gt_f b) S) (no b)
theorem ll_gt_t {u v : Int64} (b : v < u) : ifCond.holds .gt (lcmpW u v) = true := XT.ll_gt_t b
theorem ll_gt_f {u v : Int64} (b : ¬ v < u) : ifCond.holds .gt (lcmpW u v) = false := XT.ll_gt_f b
theorem W.lif_gt (C : Cx p s m meth c Z y bytes ml ret) {u v : Int64} {o : Int} (pc' : Nat) (d : decode bytes pc = .ok (.ifCond .gt o, 3)) (hp : (pc : Int) + o = pc') (yes : v < u → W p l e R s m args below meth c n0 Q kc ks k n h pc' ls st) (no : ¬ v < u → W p l e R s m args below meth c n0 Q kc ks k n h (pc + 3) ls st) : W p l e R s m args below meth c n0 Q kc ks k n h pc ls (.int (lcmpW u v) :: st) := by
  by_cases b : v < u
  · exact W.lift (fun T t H S => XS.ifYes H C.1 rfl (pc0 := pc) (pc' := pc') rfl (C.a d) rfl (ll_gt_t b) (jmp hp).1 (jmp hp).2 S) (yes b)
  · exact W.lift (fun T t H S => XS.ifNo H C.1 rfl (C.a d) rfl (ll_gt_f b) S) (no b)
theorem W.icmp_le (C : Cx p s m meth c Z y bytes ml ret) {u v : Int32} {o : Int} (pc' : Nat) (d : decode bytes pc = .ok (.if_icmp .le o, 3)) (hp : (pc : Int) + o = pc') (yes : ¬ v < u → W p l e R s m args below meth c n0 Q kc ks k n h pc' ls st) (no : v < u → W p l e R s m args below meth c n0 Q kc ks k n h (pc + 3) ls st) : W p l e R s m args below meth c n0 Q kc ks k n h pc ls (.int v :: .int u :: st) := by
  by_cases b : v < u
  · exact W.lift (fun T t H S => XS.icmpNo H C.1 rfl (C.a d) rfl (XT.ii_le_f b) S) (no b)
  · exact W.lift (fun T t H S => XS.icmpYes H C.1 rfl (pc0 := pc) (pc' := pc') rfl (C.a d) rfl (XT.ii_le_t b) (jmp hp).1 (jmp hp).2 S) (yes b)
theorem W.if_le (C : Cx p s m meth c Z y bytes ml ret) {u : Int32} {o : Int} (pc' : Nat) (d : decode bytes pc = .ok (.ifCond .le o, 3)) (hp : (pc : Int) + o = pc') (yes : ¬ 0 < u → W p l e R s m args below meth c n0 Q kc ks k n h pc' ls st) (no : 0 < u → W p l e R s m args below meth c n0 Q kc ks k n h (pc + 3) ls st) : W p l e R s m args below meth c n0 Q kc ks k n h pc ls (.int u :: st) := by
  by_cases b : 0 < u
  · exact W.lift (fun T t H S => XS.ifNo H C.1 rfl (C.a d) rfl (XT.i0_le_f b) S) (no b)
  · exact W.lift (fun T t H S => XS.ifYes H C.1 rfl (pc0 := pc) (pc' := pc') rfl (C.a d) rfl (XT.i0_le_t b) (jmp hp).1 (jmp hp).2 S) (yes b)
theorem ll_le_t {u v : Int64} (b : ¬ v < u) : ifCond.holds .le (lcmpW u v) = true := XT.ll_le_t b
theorem ll_le_f {u v : Int64} (b : v < u) : ifCond.holds .le (lcmpW u v) = false := XT.ll_le_f b
theorem W.lif_le (C : Cx p s m meth c Z y bytes ml ret) {u v : Int64} {o : Int} (pc' : Nat) (d : decode bytes pc = .ok (.ifCond .le o, 3)) (hp : (pc : Int) + o = pc') (yes : ¬ v < u → W p l e R s m args below meth c n0 Q kc ks k n h pc' ls st) (no : v < u → W p l e R s m args below meth c n0 Q kc ks k n h (pc + 3) ls st) : W p l e R s m args below meth c n0 Q kc ks k n h pc ls (.int (lcmpW u v) :: st) := by
  by_cases b : v < u
  · exact W.lift (fun T t H S => XS.ifNo H C.1 rfl (C.a d) rfl (ll_le_f b) S) (no b)
  · exact W.lift (fun T t H S => XS.ifYes H C.1 rfl (pc0 := pc) (pc' := pc') rfl (C.a d) rfl (ll_le_t b) (jmp hp).1 (jmp hp).2 S) (yes b)
theorem W.ifnullNo (C : Cx p s m meth c Z y bytes ml ret) {b : Addr} {o : Int} (d : decode bytes pc = .ok (.ifnull o, 3)) (K : W p l e R s m args below meth c n0 Q kc ks k n h (pc + 3) ls st) : W p l e R s m args below meth c n0 Q kc ks k n h pc ls (.ref b :: st) :=
  W.lift (fun T t H S => XS.ifnullNo H C.1 rfl (C.a d) rfl S) K
theorem W.ifnullYes (C : Cx p s m meth c Z y bytes ml ret) {o : Int} (pc' : Nat) (d : decode bytes pc = .ok (.ifnull o, 3)) (hp : (pc : Int) + o = pc') (K : W p l e R s m args below meth c n0 Q kc ks k n h pc' ls st) : W p l e R s m args below meth c n0 Q kc ks k n h pc ls (.null :: st) :=
  W.lift (fun T t H S => XS.ifnullYes H C.1 rfl (pc0 := pc) (pc' := pc') rfl (C.a d) rfl (jmp hp).1 (jmp hp).2 S) K
theorem W.ifnonnullYes (C : Cx p s m meth c Z y bytes ml ret) {b : Addr} {o : Int} (pc' : Nat) (d : decode bytes pc = .ok (.ifnonnull o, 3)) (hp : (pc : Int) + o = pc') (K : W p l e R s m args below meth c n0 Q kc ks k n h pc' ls st) : W p l e R s m args below meth c n0 Q kc ks k n h pc ls (.ref b :: st) :=
  W.lift (fun T t H S => XT.ifnonnullYes H C.1 rfl (pc0 := pc) (pc' := pc') rfl (C.a d) rfl (jmp hp).1 (jmp hp).2 S) K
theorem W.ifnonnullNo (C : Cx p s m meth c Z y bytes ml ret) {o : Int} (d : decode bytes pc = .ok (.ifnonnull o, 3)) (K : W p l e R s m args below meth c n0 Q kc ks k n h (pc + 3) ls st) : W p l e R s m args below meth c n0 Q kc ks k n h pc ls (.null :: st) :=
  W.lift (fun T t H S => XT.ifnonnullNo H C.1 rfl (C.a d) rfl S) K
theorem W.acmp_eq (C : Cx p s m meth c Z y bytes ml ret) {u v : Value} {o : Int} (pc' : Nat) (d : decode bytes pc = .ok (.if_acmp .eq o, 3)) (hu : u.isRef = true) (hv : v.isRef = true) (hp : (pc : Int) + o = pc') (yes : u = v → W p l e R s m args below meth c n0 Q kc ks k n h pc' ls st) (no : ¬ u = v → W p l e R s m args below meth c n0 Q kc ks k n h (pc + 3) ls st) : W p l e R s m args below meth c n0 Q kc ks k n h pc ls (v :: u :: st) := by
  by_cases b : u = v
  · exact W.lift (fun T t H S => XT.acmpYes H C.1 rfl (pc0 := pc) (pc' := pc') rfl (C.a d) rfl hu hv (XT.aa_eq_t b) (jmp hp).1 (jmp hp).2 S) (yes b)
  · exact W.lift (fun T t H S => XT.acmpNo H C.1 rfl (C.a d) rfl hu hv (XT.aa_eq_f b) S) (no b)
theorem W.acmp_ne (C : Cx p s m meth c Z y bytes ml ret) {u v : Value} {o : Int} (pc' : Nat) (d : decode bytes pc = .ok (.if_acmp .ne o, 3)) (hu : u.isRef = true) (hv : v.isRef = true) (hp : (pc : Int) + o = pc') (yes : ¬ u = v → W p l e R s m args below meth c n0 Q kc ks k n h pc' ls st) (no : u = v → W p l e R s m args below meth c n0 Q kc ks k n h (pc + 3) ls st) : W p l e R s m args below meth c n0 Q kc ks k n h pc ls (v :: u :: st) := by
  by_cases b : u = v
  · exact W.lift (fun T t H S => XT.acmpNo H C.1 rfl (C.a d) rfl hu hv (XT.aa_ne_f b) S) (no b)
  · exact W.lift (fun T t H S => XT.acmpYes H C.1 rfl (pc0 := pc) (pc' := pc') rfl (C.a d) rfl hu hv (XT.aa_ne_t b) (jmp hp).1 (jmp hp).2 S) (yes b)
theorem W.ldcI (C : Cx p s m meth c Z y bytes ml ret) {i : Nat} {v : Int32} (d : decode bytes pc = .ok (.ldc i, 2)) (w : (Jvm.Cond.constant y.cls i v).before a0 Z = true) (K : W p l e R s m args below meth c n0 Q kc ks k n h (pc + 2) ls (.int v :: st)) : W p l e R s m args below meth c n0 Q kc ks k n h pc ls st := fun T locs X eT N => by
  obtain ⟨s₂, o, h1, h2⟩ := K T locs X eT N
  exact ⟨s₂, o, X.ldcI C.1 C.2.2.1 (mvT C.2.1 w) rfl (C.a d) h1, h2⟩
theorem W.ldcWI (C : Cx p s m meth c Z y bytes ml ret) {i : Nat} {v : Int32} (d : decode bytes pc = .ok (.ldc_w i, 3)) (w : (Jvm.Cond.constant y.cls i v).before a0 Z = true) (K : W p l e R s m args below meth c n0 Q kc ks k n h (pc + 3) ls (.int v :: st)) : W p l e R s m args below meth c n0 Q kc ks k n h pc ls st := fun T locs X eT N => by
  obtain ⟨s₂, o, h1, h2⟩ := K T locs X eT N
  exact ⟨s₂, o, X.ldcWI C.1 C.2.2.1 (mvT C.2.1 w) rfl (C.a d) h1, h2⟩
theorem W.ldc2J (C : Cx p s m meth c Z y bytes ml ret) {i : Nat} {v : Int64} (d : decode bytes pc = .ok (.ldc2_w i, 3)) (w : (Jvm.Cond.constantLong y.cls i v).before a0 Z = true) (K : W p l e R s m args below meth c n0 Q kc ks k n h (pc + 3) ls (.long v :: st)) : W p l e R s m args below meth c n0 Q kc ks k n h pc ls st := fun T locs X eT N => by
  obtain ⟨s₂, o, h1, h2⟩ := K T locs X eT N
  exact ⟨s₂, o, X.ldc2J C.1 C.2.2.1 (mvT C.2.1 w) rfl (C.a d) h1, h2⟩
theorem W.iret {t : FieldType} {z : Int32} (C : Cx p s m meth c Z y bytes ml (some t)) (d : decode bytes pc = .ok (.ireturn, 1)) (ht : t = .int ∨ t = .boolean ∨ t = .byte ∨ t = .char ∨ t = .short) (hn : narrow t (.int z) = .int z) (hk : k ≤ kc) (hs : n ≤ ks) (q : Q (some (.int z)) h) : W p l e R s m args below meth c n0 Q kc ks k n h pc ls (.int z :: st) := fun T locs X eT N => by
  obtain ⟨fs, hr, hrun, hended, hW, hsame⟩ := X.leave (v := some (.int z)) (fun q => by rw [C.2.2.2.2.2.1] at q; cases q) C.2.2.2.2.2.2.1
  exact ⟨_, _, retOut X C.1 C.2.2.2.2.2.1 hn (Or.inl ⟨rfl, ht, z, rfl⟩) (C.a d) hr, hrun, hended, _, _, rfl, ⟨by subst eT; exact q, N⟩, ⟨_, rfl⟩, hW, hsame.mono hk hs⟩
theorem W.lret {t : FieldType} {z : Int64} (C : Cx p s m meth c Z y bytes ml (some t)) (d : decode bytes pc = .ok (.lreturn, 1)) (ht : t = .long) (hn : narrow t (.long z) = .long z) (hk : k ≤ kc) (hs : n ≤ ks) (q : Q (some (.long z)) h) : W p l e R s m args below meth c n0 Q kc ks k n h pc ls (.long z :: st) := fun T locs X eT N => by
  obtain ⟨fs, hr, hrun, hended, hW, hsame⟩ := X.leave (v := some (.long z)) (fun q => by rw [C.2.2.2.2.2.1] at q; cases q) C.2.2.2.2.2.2.1
  exact ⟨_, _, retOut X C.1 C.2.2.2.2.2.1 hn (Or.inr (Or.inl ⟨rfl, ht, z, rfl⟩)) (C.a d) hr, hrun, hended, _, _, rfl, ⟨by subst eT; exact q, N⟩, ⟨_, rfl⟩, hW, hsame.mono hk hs⟩
theorem W.aret {t : FieldType} {z : Value} (C : Cx p s m meth c Z y bytes ml (some t)) (d : decode bytes pc = .ok (.areturn, 1)) (ht : t.isReference = true) (hz : z.isRef = true) (hn : narrow t (z) = z) (hk : k ≤ kc) (hs : n ≤ ks) (q : Q (some (z)) h) : W p l e R s m args below meth c n0 Q kc ks k n h pc ls (z :: st) := fun T locs X eT N => by
  obtain ⟨fs, hr, hrun, hended, hW, hsame⟩ := X.leave (v := some (z)) (fun q => by rw [C.2.2.2.2.2.1] at q; cases q) C.2.2.2.2.2.2.1
  exact ⟨_, _, retOut X C.1 C.2.2.2.2.2.1 hn (Or.inr (Or.inr (Or.inr (Or.inr ⟨rfl, ht, hz⟩)))) (C.a d) hr, hrun, hended, _, _, rfl, ⟨by subst eT; exact q, N⟩, ⟨_, rfl⟩, hW, hsame.mono hk hs⟩
theorem W.retV (C : Cx p s m meth c Z y bytes ml none) (d : decode bytes pc = .ok (.return_, 1)) (hk : k ≤ kc) (hs : n ≤ ks) (q : Q none h) : W p l e R s m args below meth c n0 Q kc ks k n h pc ls [] := fun T locs X eT N => by
  obtain ⟨fs, hr, hrun, hended, hW, hsame⟩ := X.leave (v := none) (fun _ => rfl) C.2.2.2.2.2.2.1
  exact ⟨_, _, X.returnOut C.1 C.2.2.2.2.2.1 (C.a d) hr, hrun, hended, _, _, rfl, ⟨by subst eT; exact q, N⟩, ⟨_, rfl⟩, hW, hsame.mono hk hs⟩
theorem W.callS (C : Cx p s m meth c Z y bytes ml ret) {y' : MethodName} {index : Nat} {bytes' : ByteArray} {ml' : Nat} {ret' : Option FieldType} {rm : Room} {Q' : Option Value → Heap → Prop} (d : decode bytes pc = .ok (.invokestatic index, 3)) (w1 : (Jvm.Cond.methodLink y.cls index y').before a0 Z = true) (w2 : (Jvm.Cond.static y').before a0 Z = true) (w3 : (Jvm.Cond.initialized y'.cls).before a0 Z = true) (w4 : (Jvm.Cond.code y' bytes' ml' ret').before a0 Z = true) (hy : y'.cls ≠ "java/lang/invoke/MethodHandle" ∧ y'.cls ≠ "java/lang/invoke/VarHandle")
    {argsL rest : List Value} (hst : st = argsL.reverse ++ rest) (hlen : ∀ sig, parseMethodDescriptor y'.desc = some sig → argsL.length = sig.parameters.length) (D : Con l Z y' bytes' ml' ret' rm argsL.toArray h n0 Q') (w k' n' : Nat) (hW : (rest.map fun v => v.category).sum = w) (hk : k + rm.cells = k') (hn : n + rm.slots = n') (hf : rm.frames + 1 ≤ R.frames) (hl : w + (ml' + 11) + rm.locals ≤ R.locals) (hc : k' ≤ R.cells) (hs : n' ≤ R.slots) (hsz : ls.size = ml)
    (K : ∀ v h', Q' v h' → W p l e R s m args below meth c n0 Q kc ks k' n' h' (pc + 3) ls (v.toList ++ rest)) : W p l e R s m args below meth c n0 Q kc ks k n h pc ls st := fun T locs X eT N => by
  obtain ⟨_, _, ⟨T1, L1, k1, n1⟩, -, X1, ⟨Lc1, hQ1, l1, y1, z1⟩, st1⟩ := Jvm.LawKit.callS X C.1 (y := y') C.2.2.1 (mvT C.2.1 w1) (mvT C.2.1 w2) (mvT C.2.1 w3) (mvT C.2.1 w4) hy (backOf (W := w) (Q := fun v h' L => Q' v h' ∧ Fr n0 L) (D []) C.2.1 w4 w3 hf hl) (g := mkF m pc ls st) rfl (hsz.trans C.2.2.2.2.1.symm) (argsL := argsL) (rest := rest) hlen hst (by show 2 * 0 + _ ≤ _; omega) (C.a d) (fun _ _ => ⟨rfl, eT, by rw [hk]; exact hc, by rw [hn]; exact hs⟩)
  dsimp only [Pt.U, Pt.locs, Pt.cells, Pt.slots] at X1 l1 y1 z1 st1 hQ1
  subst l1
  rw [hk] at y1
  rw [hn] at z1
  subst y1 z1
  obtain ⟨s₂, o, g1, g2⟩ := K _ _ hQ1.1 T1 _ X1 rfl (Fr.app N hQ1.2)
  exact ⟨s₂, o, st1 _ g1, g2⟩
theorem W.callI (C : Cx p s m meth c Z y bytes ml ret) {y' : MethodName} {index : Nat} {bytes' : ByteArray} {ml' : Nat} {rm : Room} {Q' : Option Value → Heap → Prop} (d : decode bytes pc = .ok (.invokespecial index, 3)) (hi : y'.name = "<init>") (w1 : (Jvm.Cond.methodLink y.cls index y').before a0 Z = true) (w2 : (Jvm.Cond.instanceMethod y').before a0 Z = true) (w3 : (Jvm.Cond.initialized y'.cls).before a0 Z = true) (w4 : (Jvm.Cond.code y' bytes' ml' none).before a0 Z = true) (hy : y'.cls ≠ "java/lang/invoke/MethodHandle" ∧ y'.cls ≠ "java/lang/invoke/VarHandle")
    {a : Addr} {argsL rest : List Value} (hst : st = argsL.reverse ++ .ref a :: rest) (hlen : ∀ sig, parseMethodDescriptor y'.desc = some sig → argsL.length = sig.parameters.length) (D : Con l Z y' bytes' ml' none rm (.ref a :: argsL).toArray h n0 Q') (w k' n' : Nat) (hW : (rest.map fun v => v.category).sum = w) (hk : k + rm.cells = k') (hn : n + rm.slots = n') (hf : rm.frames + 1 ≤ R.frames) (hl : w + (ml' + 11) + rm.locals ≤ R.locals) (hc : k' ≤ R.cells) (hs : n' ≤ R.slots) (hsz : ls.size = ml)
    (K : ∀ v h', Q' v h' → W p l e R s m args below meth c n0 Q kc ks k' n' h' (pc + 3) ls (v.toList ++ rest)) : W p l e R s m args below meth c n0 Q kc ks k n h pc ls st := fun T locs X eT N => by
  obtain ⟨_, _, ⟨T1, L1, k1, n1⟩, -, X1, ⟨Lc1, hQ1, l1, y1, z1⟩, st1⟩ := X.specialBack C.1 (y := y') hi C.2.2.1 (mvT C.2.1 w1) (mvT C.2.1 w2) (mvT C.2.1 w4) hy (backOf (W := w) (Q := fun v h' L => Q' v h' ∧ Fr n0 L) (D []) C.2.1 w4 w3 hf hl) (g := mkF m pc ls st) rfl (hsz.trans C.2.2.2.2.1.symm) (Steps.refl _) (a := a) (argsL := argsL) (rest := rest) hlen hst (by show 2 * 0 + _ ≤ _; omega) (C.a d) (fun _ _ => ⟨rfl, eT, by rw [hk]; exact hc, by rw [hn]; exact hs⟩)
  dsimp only [Pt.U, Pt.locs, Pt.cells, Pt.slots] at X1 l1 y1 z1 st1 hQ1
  subst l1
  rw [hk] at y1
  rw [hn] at z1
  subst y1 z1
  obtain ⟨s₂, o, g1, g2⟩ := K _ _ hQ1.1 T1 _ X1 rfl (Fr.app N hQ1.2)
  exact ⟨s₂, o, st1.trans g1, g2⟩
theorem W.callV (C : Cx p s m meth c Z y bytes ml ret) {y' : MethodName} {K0 : String} {index : Nat} {bytes' : ByteArray} {ml' : Nat} {ret' : Option FieldType} {rm : Room} {Q' : Option Value → Heap → Prop} (d : decode bytes pc = .ok (.invokevirtual index, 3)) (w1 : (Jvm.Cond.methodLink y.cls index y').before a0 Z = true) (w2 : (Jvm.Cond.declares y').before a0 Z = true) (w5 : (Jvm.Cond.selects K0 y' y').before a0 Z = true) (w6 : (Jvm.Cond.instanceMethod y').before a0 Z = true) (w3 : (Jvm.Cond.initialized y'.cls).before a0 Z = true) (w4 : (Jvm.Cond.code y' bytes' ml' ret').before a0 Z = true) (hy : y'.cls ≠ "java/lang/invoke/MethodHandle" ∧ y'.cls ≠ "java/lang/invoke/VarHandle")
    {a : Addr} (E : Exa Z h a K0) {argsL rest : List Value} (hst : st = argsL.reverse ++ .ref a :: rest) (hlen : ∀ sig, parseMethodDescriptor y'.desc = some sig → argsL.length = sig.parameters.length) (D : Con l Z y' bytes' ml' ret' rm (.ref a :: argsL).toArray h n0 Q') (w k' n' : Nat) (hW : (rest.map fun v => v.category).sum = w) (hk : k + rm.cells = k') (hn : n + rm.slots = n') (hf : rm.frames + 1 ≤ R.frames) (hl : w + (ml' + 11) + rm.locals ≤ R.locals) (hc : k' ≤ R.cells) (hs : n' ≤ R.slots) (hsz : ls.size = ml)
    (K : ∀ v h', Q' v h' → W p l e R s m args below meth c n0 Q kc ks k' n' h' (pc + 3) ls (v.toList ++ rest)) : W p l e R s m args below meth c n0 Q kc ks k n h pc ls st := fun T locs X eT N => by
  obtain ⟨cq, kq, qa, qb, qc⟩ := isOf C.2.1 eT E
  obtain ⟨_, _, ⟨T1, L1, k1, n1⟩, -, X1, ⟨Lc1, hQ1, l1, y1, z1⟩, st1⟩ := X.virtualBack C.1 (y := y') (z := y') C.2.2.1 (mvT C.2.1 w1) (mvT C.2.1 w2) (notFace_of_selects (args := #[]) (mvT C.2.1 w5)) (mvT C.2.1 w5) (mvT C.2.1 w6) hy (backOf (W := w) (Q := fun v h' L => Q' v h' ∧ Fr n0 L) (D []) C.2.1 w4 w3 hf hl) qa qc (g := mkF m pc ls st) rfl (hsz.trans C.2.2.2.2.1.symm) (Steps.refl _) (argsL := argsL) (rest := rest) hlen hst (by show 2 * 0 + _ ≤ _; omega) (C.a d) (fun _ _ => ⟨rfl, eT, by rw [hk]; exact hc, by rw [hn]; exact hs⟩)
  dsimp only [Pt.U, Pt.locs, Pt.cells, Pt.slots] at X1 l1 y1 z1 st1 hQ1
  subst l1
  rw [hk] at y1
  rw [hn] at z1
  subst y1 z1
  obtain ⟨s₂, o, g1, g2⟩ := K _ _ hQ1.1 T1 _ X1 rfl (Fr.app N hQ1.2)
  exact ⟨s₂, o, st1.trans g1, g2⟩
theorem W.initO (C : Cx p s m meth c Z y bytes ml ret) {index : Nat} (d : decode bytes pc = .ok (.invokespecial index, 3)) (w1 : (Jvm.Cond.methodLink y.cls index Lib.objectInit).before a0 Z = true) (w2 : (Jvm.Cond.instanceMethod Lib.objectInit).before a0 Z = true) (w3 : (Jvm.Cond.code Lib.objectInit ⟨#[0xb1]⟩ 1 none).before a0 Z = true)
    {a : Addr} (w : Nat) (hW : (st.map fun v => v.category).sum = w) (hf : 1 ≤ R.frames) (hl : w + 12 ≤ R.locals) (hsz : ls.size = ml) (K : W p l e R s m args below meth c n0 Q kc ks k n h (pc + 3) ls st) : W p l e R s m args below meth c n0 Q kc ks k n h pc ls (.ref a :: st) := fun T locs X eT N => by
  obtain ⟨T1, X1, e1, st1⟩ := Jvm.RoadKit.initO X C.1 C.2.1 C.2.2.1 w1 w2 w3 eT (g := mkF m pc ls (.ref a :: st)) rfl (hsz.trans C.2.2.2.2.1.symm) rfl (C.a d) hf (W := w) (by show 2 * 0 + _ ≤ _; omega) hl
  obtain ⟨s₂, o, g1, g2⟩ := K T1 _ X1 e1 N
  exact ⟨s₂, o, st1 _ g1, g2⟩
theorem W.new (C : Cx p s m meth c Z y bytes ml ret) {index sz : Nat} {K0 : String} (d : decode bytes pc = .ok (.new index, 3)) (w1 : (Jvm.Cond.classLink y.cls index K0).before a0 Z = true) (w2 : (Jvm.Cond.instantiable K0 sz).before a0 Z = true) (w3 : (Jvm.Cond.initialized K0).before a0 Z = true) (k' n' : Nat) (hk : k + 1 = k') (hn : n + sz = n') (hc : k' ≤ R.cells) (hs : n' ≤ R.slots)
    (K : ∀ a h', a = h.size → Ext h h' → Exa Z h' a K0 → (∀ {O nm d : String} {ty : FieldType}, Laid Z a0 K0 O nm d → parseFieldDescriptor d = some ty → Fld Z h' a O nm d (defaultValue ty)) → W p l e R s m args below meth c n0 Q kc ks k' n' h' (pc + 3) ls (.ref a :: st)) : W p l e R s m args below meth c n0 Q kc ks k n h pc ls st := fun T locs X eT N => by
  subst hk hn
  obtain ⟨T1, h1, X1, e1, E1, A1, D1, -, st1⟩ := newO X C.1 C.2.1 C.2.2.1 w1 w2 w3 eT (g := mkF m pc ls st) rfl (C.a d) hc hs
  obtain ⟨s₂, o, g1, g2⟩ := K _ h1 rfl E1 A1 D1 T1 _ X1 e1 N
  exact ⟨s₂, o, st1 _ g1, g2⟩
theorem W.getF (C : Cx p s m meth c Z y bytes ml ret) {index : Nat} {R0 O nm dd : String} (d : decode bytes pc = .ok (.getfield index, 3)) (w : (Jvm.Cond.fieldLink y.cls index R0 nm dd).before a0 Z = true) (via : Via Z R0 O nm dd) {a : Addr} {v : Value} (F : Fld Z h a O nm dd v) (K : W p l e R s m args below meth c n0 Q kc ks k n h (pc + 3) ls (v :: st)) : W p l e R s m args below meth c n0 Q kc ks k n h pc ls (.ref a :: st) := fun T locs X eT N => by
  obtain ⟨T1, X1, e1, st1⟩ := Jvm.RoadKit.getF X C.1 C.2.1 C.2.2.1 (host := "") (Or.inl w) via eT F (g := mkF m pc ls (.ref a :: st)) rfl rfl (C.a d)
  obtain ⟨s₂, o, g1, g2⟩ := K T1 _ X1 e1 N
  exact ⟨s₂, o, st1 _ g1, g2⟩
theorem W.getFN (C : Cx p s m meth c Z y bytes ml ret) {index : Nat} {R0 O nm dd host : String} (d : decode bytes pc = .ok (.getfield index, 3)) (w : (Jvm.Cond.fieldLinkNest y.cls index R0 nm dd host).before a0 Z = true) (via : Via Z R0 O nm dd) {a : Addr} {v : Value} (F : Fld Z h a O nm dd v) (K : W p l e R s m args below meth c n0 Q kc ks k n h (pc + 3) ls (v :: st)) : W p l e R s m args below meth c n0 Q kc ks k n h pc ls (.ref a :: st) := fun T locs X eT N => by
  obtain ⟨T1, X1, e1, st1⟩ := Jvm.RoadKit.getF X C.1 C.2.1 C.2.2.1 (host := host) (Or.inr w) via eT F (g := mkF m pc ls (.ref a :: st)) rfl rfl (C.a d)
  obtain ⟨s₂, o, g1, g2⟩ := K T1 _ X1 e1 N
  exact ⟨s₂, o, st1 _ g1, g2⟩
theorem W.getS (C : Cx p s m meth c Z y bytes ml ret) {index : Nat} {R0 O nm dd : String} (d : decode bytes pc = .ok (.getstatic index, 3)) (w : (Jvm.Cond.fieldLink y.cls index R0 nm dd).before a0 Z = true) (via : Via Z R0 O nm dd) {v : Value} (F : Sta Z h O nm dd v) (K : W p l e R s m args below meth c n0 Q kc ks k n h (pc + 3) ls (v :: st)) : W p l e R s m args below meth c n0 Q kc ks k n h pc ls st := fun T locs X eT N => by
  obtain ⟨T1, X1, e1, st1⟩ := Jvm.RoadKit.getS X C.1 C.2.1 (host := "") C.2.2.1 w via eT F (g := mkF m pc ls st) rfl (C.a d)
  obtain ⟨s₂, o, g1, g2⟩ := K T1 _ X1 e1 N
  exact ⟨s₂, o, st1 _ g1, g2⟩
theorem W.putF (C : Cx p s m meth c Z y bytes ml ret) {index kk : Nat} {R0 O nm dd K0 : String} {ty : FieldType} (d : decode bytes pc = .ok (.putfield index, 3)) (w : (Jvm.Cond.fieldLink y.cls index R0 nm dd).before a0 Z = true) (via : Via Z R0 O nm dd) {a : Addr} {v old : Value} (F : Fld Z h a O nm dd old) (E : Exa Z h a K0) (L : (Jvm.Cond.lays K0 O nm dd).before a0 Z = true ∨ ((Jvm.Cond.laysFinal K0 O nm dd).before a0 Z = true ∧ y.cls = O ∧ y.name = "<init>")) (wi : (Jvm.Cond.instantiable K0 kk).before a0 Z = true)
    (hty : parseFieldDescriptor dd = some ty) (hn : narrow ty v = v) (hf : fits ty v = true) (g : n0 ≤ a) (K : ∀ h', Wr h h' a (Jvm.RoadKit.slotOf Z O nm dd) v → W p l e R s m args below meth c n0 Q kc ks k n h' (pc + 3) ls st) : W p l e R s m args below meth c n0 Q kc ks k n h pc ls (v :: .ref a :: st) := fun T locs X eT N => by
  obtain ⟨T1, h1, X1, e1, W1, st1⟩ := Jvm.RoadKit.putF X C.1 C.2.1 C.2.2.1 (host := "") (Or.inl w) via eT F E (L.imp id fun q => ⟨q.1, q.2.1, C.2.2.2.2.2.2.2.trans q.2.2⟩) wi hty hn hf (g := mkF m pc ls (v :: .ref a :: st)) rfl rfl (C.a d)
  obtain ⟨s₂, o, g1, g2⟩ := K h1 W1 T1 _ X1 e1 (Fr.snoc X1 N g)
  exact ⟨s₂, o, st1 _ g1, g2⟩
/-- an array at a of component type ty that holds vs -/
def Al (Z : State) (h : Heap) (a : Addr) (ty : FieldType) (vs : List Value) : Prop := ∃ c : Cell, Arr Z h a c ty ∧ c.slots = vs.toArray
theorem Al.lt {a : Addr} {ty : FieldType} {vs : List Value} (F : Al Z h a ty vs) : a < h.size := by obtain ⟨c, A, -⟩ := F; exact A.lt
theorem Al.ext {a : Addr} {ty : FieldType} {vs : List Value} {h' : Heap} (F : Al Z h a ty vs) (E : Ext h h') : Al Z h' a ty vs := by obtain ⟨c, A, r⟩ := F; exact ⟨c, A.ext E, r⟩
theorem Al.other {a b : Addr} {ty : FieldType} {vs : List Value} {h' : Heap} {sl : Nat} {v : Value} (F : Al Z h b ty vs) (U : Wr h h' a sl v) (q : b ≠ a) : Al Z h' b ty vs := by obtain ⟨c, A, r⟩ := F; exact ⟨c, A.other U q, r⟩
theorem Al.keep {a : Addr} {ty : FieldType} {vs : List Value} {h' : Heap} {ws : List Addr} (F : Al Z h a ty vs) (K : Keep h h' ws) (q : a ∉ ws) : Al Z h' a ty vs := by obtain ⟨c, A, r⟩ := F; exact ⟨c, ⟨K.2.1 a c A.1 q, A.2⟩, r⟩
theorem Al.set {a : Addr} {ty : FieldType} {vs : List Value} {h' : Heap} {i : Nat} {v : Value} (F : Al Z h a ty vs) (U : Wr h h' a i v) : Al Z h' a ty (vs.set i v) := by
  obtain ⟨c, A, r⟩ := F
  refine ⟨_, A.same U, ?_⟩
  simp [Cell.setSlot, r]
theorem idx_of {j : Int32} {i : Nat} (hi : j.toInt = (i : Int)) : ¬ j < 0 ∧ j.toNatClampNeg = i := by
  refine ⟨fun q => ?_, ?_⟩
  · rw [Int32.lt_iff_toInt_lt] at q
    have : (0 : Int32).toInt = 0 := rfl
    omega
  · show j.toInt.toNat = i
    omega
theorem inb_of_idx {j : Int32} {i : Nat} {cl : Cell} {vs : List Value} (hi : j.toInt = (i : Int)) (r : cl.slots = vs.toArray) (hb : i < vs.length) : ¬ (j < 0 ∨ cl.slots.size ≤ j.toNatClampNeg) := by
  obtain ⟨q1, q2⟩ := idx_of hi
  rw [q2, r]
  simp only [List.size_toArray]
  rintro (z | z)
  · exact q1 z
  · omega
theorem W.arrlen (C : Cx p s m meth c Z y bytes ml ret) {a : Addr} {ty : FieldType} {vs : List Value} (z : Int32) (d : decode bytes pc = .ok (.arraylength, 1)) (A : Al Z h a ty vs) (hz : vs.length.toInt32 = z) (K : W p l e R s m args below meth c n0 Q kc ks k n h (pc + 1) ls (.int z :: st)) : W p l e R s m args below meth c n0 Q kc ks k n h pc ls (.ref a :: st) := fun T locs X eT N => by
  obtain ⟨cl, A, r⟩ := A
  obtain ⟨s₂, o, g1, g2⟩ := K T locs X eT N
  refine ⟨s₂, o, X.arraylength C.1 (by rw [eT]; exact A.1) (State.isArrayOf_alike C.2.1.alike A.2.1) (g := mkF m pc ls (.ref a :: st)) rfl rfl (C.a d) _ ?_, g2⟩
  have : cl.slots.size.toInt32 = z := by rw [r]; simpa using hz
  rw [this]; exact g1
theorem W.iaload (C : Cx p s m meth c Z y bytes ml ret) {a : Addr} {vs : List Value} {j : Int32} (i : Nat) {v : Value} (d : decode bytes pc = .ok (.iaload, 1)) (A : Al Z h a .int vs) (hi : j.toInt = (i : Int)) (hv : vs[i]? = some v) (K : W p l e R s m args below meth c n0 Q kc ks k n h (pc + 1) ls (v :: st)) : W p l e R s m args below meth c n0 Q kc ks k n h pc ls (.int j :: .ref a :: st) := fun T locs X eT N => by
  obtain ⟨cl, A, r⟩ := A
  obtain ⟨s₂, o, g1, g2⟩ := K T locs X eT N
  have hb : i < vs.length := (List.getElem?_eq_some_iff.mp hv).1
  exact ⟨s₂, o, X.iaload C.1 (j := j) (v := v) (by rw [eT]; exact A.1) (State.isArrayOf_alike C.2.1.alike A.2.1) A.2.2 (inb_of_idx hi r hb) (by rw [(idx_of hi).2, r]; simpa using hv) (g := mkF m pc ls (.int j :: .ref a :: st)) rfl rfl (C.a d) _ g1, g2⟩
theorem W.laload (C : Cx p s m meth c Z y bytes ml ret) {a : Addr} {vs : List Value} {j : Int32} (i : Nat) {v : Value} (d : decode bytes pc = .ok (.laload, 1)) (A : Al Z h a .long vs) (hi : j.toInt = (i : Int)) (hv : vs[i]? = some v) (K : W p l e R s m args below meth c n0 Q kc ks k n h (pc + 1) ls (v :: st)) : W p l e R s m args below meth c n0 Q kc ks k n h pc ls (.int j :: .ref a :: st) := fun T locs X eT N => by
  obtain ⟨cl, A, r⟩ := A
  obtain ⟨s₂, o, g1, g2⟩ := K T locs X eT N
  have hb : i < vs.length := (List.getElem?_eq_some_iff.mp hv).1
  exact ⟨s₂, o, X.laload C.1 (j := j) (v := v) (by rw [eT]; exact A.1) (State.isArrayOf_alike C.2.1.alike A.2.1) A.2.2 (inb_of_idx hi r hb) (by rw [(idx_of hi).2, r]; simpa using hv) (g := mkF m pc ls (.int j :: .ref a :: st)) rfl rfl (C.a d) _ g1, g2⟩
theorem W.baload (C : Cx p s m meth c Z y bytes ml ret) {a : Addr} {vs : List Value} {j : Int32} (i : Nat) {v : Value} (d : decode bytes pc = .ok (.baload, 1)) (A : Al Z h a .byte vs) (hi : j.toInt = (i : Int)) (hv : vs[i]? = some v) (K : W p l e R s m args below meth c n0 Q kc ks k n h (pc + 1) ls (v :: st)) : W p l e R s m args below meth c n0 Q kc ks k n h pc ls (.int j :: .ref a :: st) := fun T locs X eT N => by
  obtain ⟨cl, A, r⟩ := A
  obtain ⟨s₂, o, g1, g2⟩ := K T locs X eT N
  have hb : i < vs.length := (List.getElem?_eq_some_iff.mp hv).1
  exact ⟨s₂, o, X.baloadBytes C.1 (j := j) (v := v) (by rw [eT]; exact A.1) (State.isArrayOf_alike C.2.1.alike A.2.1) A.2.2 (inb_of_idx hi r hb) (by rw [(idx_of hi).2, r]; simpa using hv) (g := mkF m pc ls (.int j :: .ref a :: st)) rfl rfl (C.a d) _ g1, g2⟩
theorem W.caload (C : Cx p s m meth c Z y bytes ml ret) {a : Addr} {vs : List Value} {j : Int32} (i : Nat) {v : Value} (d : decode bytes pc = .ok (.caload, 1)) (A : Al Z h a .char vs) (hi : j.toInt = (i : Int)) (hv : vs[i]? = some v) (K : W p l e R s m args below meth c n0 Q kc ks k n h (pc + 1) ls (v :: st)) : W p l e R s m args below meth c n0 Q kc ks k n h pc ls (.int j :: .ref a :: st) := fun T locs X eT N => by
  obtain ⟨cl, A, r⟩ := A
  obtain ⟨s₂, o, g1, g2⟩ := K T locs X eT N
  have hb : i < vs.length := (List.getElem?_eq_some_iff.mp hv).1
  exact ⟨s₂, o, X.caload C.1 (j := j) (v := v) (by rw [eT]; exact A.1) (State.isArrayOf_alike C.2.1.alike A.2.1) A.2.2 (inb_of_idx hi r hb) (by rw [(idx_of hi).2, r]; simpa using hv) (g := mkF m pc ls (.int j :: .ref a :: st)) rfl rfl (C.a d) _ g1, g2⟩
theorem W.zaload (C : Cx p s m meth c Z y bytes ml ret) {a : Addr} {vs : List Value} {j : Int32} (i : Nat) {v : Value} (d : decode bytes pc = .ok (.baload, 1)) (A : Al Z h a .boolean vs) (hi : j.toInt = (i : Int)) (hv : vs[i]? = some v) (K : W p l e R s m args below meth c n0 Q kc ks k n h (pc + 1) ls (v :: st)) : W p l e R s m args below meth c n0 Q kc ks k n h pc ls (.int j :: .ref a :: st) := fun T locs X eT N => by
  obtain ⟨cl, A, r⟩ := A
  obtain ⟨s₂, o, g1, g2⟩ := K T locs X eT N
  have hb : i < vs.length := (List.getElem?_eq_some_iff.mp hv).1
  exact ⟨s₂, o, X.baloadBooleans C.1 (j := j) (v := v) (by rw [eT]; exact A.1) (State.isArrayOf_alike C.2.1.alike A.2.1) A.2.2 (inb_of_idx hi r hb) (by rw [(idx_of hi).2, r]; simpa using hv) (g := mkF m pc ls (.int j :: .ref a :: st)) rfl rfl (C.a d) _ g1, g2⟩
theorem W.aaload (C : Cx p s m meth c Z y bytes ml ret) {a : Addr} {ty : FieldType} {vs : List Value} {j : Int32} (i : Nat) {v : Value} (d : decode bytes pc = .ok (.aaload, 1)) (A : Al Z h a ty vs) (hty : ty.isReference = true) (hi : j.toInt = (i : Int)) (hv : vs[i]? = some v) (K : W p l e R s m args below meth c n0 Q kc ks k n h (pc + 1) ls (v :: st)) : W p l e R s m args below meth c n0 Q kc ks k n h pc ls (.int j :: .ref a :: st) := fun T locs X eT N => by
  obtain ⟨cl, A, r⟩ := A
  obtain ⟨s₂, o, g1, g2⟩ := K T locs X eT N
  have hb : i < vs.length := (List.getElem?_eq_some_iff.mp hv).1
  exact ⟨s₂, o, X.aaload C.1 (j := j) (v := v) (by rw [eT]; exact A.1) (State.isArrayOf_alike C.2.1.alike A.2.1) hty A.2.2 (inb_of_idx hi r hb) (by rw [(idx_of hi).2, r]; simpa using hv) (g := mkF m pc ls (.int j :: .ref a :: st)) rfl rfl (C.a d) _ g1, g2⟩
theorem W.iastore (C : Cx p s m meth c Z y bytes ml ret) {a : Addr} {vs : List Value} {j : Int32} {x : Int32} (i : Nat) (d : decode bytes pc = .ok (.iastore, 1)) (A : Al Z h a .int vs) (hi : j.toInt = (i : Int)) (hb : i < vs.length) (g : n0 ≤ a) (K : ∀ h', Wr h h' a i (.int x) → Al Z h' a .int (vs.set i (.int x)) → W p l e R s m args below meth c n0 Q kc ks k n h' (pc + 1) ls st) : W p l e R s m args below meth c n0 Q kc ks k n h pc ls (.int x :: .int j :: .ref a :: st) := fun T locs X eT N => by
  obtain ⟨cl, A, r⟩ := A
  obtain ⟨T1, h1, X1, e1, W1, st1⟩ := stI X C.1 C.2.1 eT A (j := j) (x := x) (inb_of_idx hi r hb) (g := mkF m pc ls (.int x :: .int j :: .ref a :: st)) rfl rfl (C.a d)
  have N1 := Fr.snoc X1 N g
  rw [(idx_of hi).2] at W1
  obtain ⟨s₂, o, g1, g2⟩ := K h1 W1 (Al.set ⟨cl, A, r⟩ W1) T1 _ X1 e1 N1
  exact ⟨s₂, o, st1 _ g1, g2⟩
theorem W.lastore (C : Cx p s m meth c Z y bytes ml ret) {a : Addr} {vs : List Value} {j : Int32} {x : Int64} (i : Nat) (d : decode bytes pc = .ok (.lastore, 1)) (A : Al Z h a .long vs) (hi : j.toInt = (i : Int)) (hb : i < vs.length) (g : n0 ≤ a) (K : ∀ h', Wr h h' a i (.long x) → Al Z h' a .long (vs.set i (.long x)) → W p l e R s m args below meth c n0 Q kc ks k n h' (pc + 1) ls st) : W p l e R s m args below meth c n0 Q kc ks k n h pc ls (.long x :: .int j :: .ref a :: st) := fun T locs X eT N => by
  obtain ⟨cl, A, r⟩ := A
  obtain ⟨T1, h1, X1, e1, W1, st1⟩ := stJ X C.1 C.2.1 eT A (j := j) (x := x) (inb_of_idx hi r hb) (g := mkF m pc ls (.long x :: .int j :: .ref a :: st)) rfl rfl (C.a d)
  have N1 := Fr.snoc X1 N g
  rw [(idx_of hi).2] at W1
  obtain ⟨s₂, o, g1, g2⟩ := K h1 W1 (Al.set ⟨cl, A, r⟩ W1) T1 _ X1 e1 N1
  exact ⟨s₂, o, st1 _ g1, g2⟩
theorem W.bastore (C : Cx p s m meth c Z y bytes ml ret) {a : Addr} {vs : List Value} {j : Int32} {x : Int32} (i : Nat) (d : decode bytes pc = .ok (.bastore, 1)) (A : Al Z h a .byte vs) (hi : j.toInt = (i : Int)) (hb : i < vs.length) (g : n0 ≤ a) (K : ∀ h', Wr h h' a i (.int x.toInt8.toInt32) → Al Z h' a .byte (vs.set i (.int x.toInt8.toInt32)) → W p l e R s m args below meth c n0 Q kc ks k n h' (pc + 1) ls st) : W p l e R s m args below meth c n0 Q kc ks k n h pc ls (.int x :: .int j :: .ref a :: st) := fun T locs X eT N => by
  obtain ⟨cl, A, r⟩ := A
  obtain ⟨T1, h1, X1, e1, W1, st1⟩ := stB X C.1 C.2.1 eT A (j := j) (x := x) (inb_of_idx hi r hb) (g := mkF m pc ls (.int x :: .int j :: .ref a :: st)) rfl rfl (C.a d)
  have N1 := Fr.snoc X1 N g
  rw [(idx_of hi).2] at W1
  obtain ⟨s₂, o, g1, g2⟩ := K h1 W1 (Al.set ⟨cl, A, r⟩ W1) T1 _ X1 e1 N1
  exact ⟨s₂, o, st1 _ g1, g2⟩
theorem W.castore (C : Cx p s m meth c Z y bytes ml ret) {a : Addr} {vs : List Value} {j : Int32} {x : Int32} (i : Nat) (d : decode bytes pc = .ok (.castore, 1)) (A : Al Z h a .char vs) (hi : j.toInt = (i : Int)) (hb : i < vs.length) (g : n0 ≤ a) (K : ∀ h', Wr h h' a i (.int x.toUInt32.toUInt16.toUInt32.toInt32) → Al Z h' a .char (vs.set i (.int x.toUInt32.toUInt16.toUInt32.toInt32)) → W p l e R s m args below meth c n0 Q kc ks k n h' (pc + 1) ls st) : W p l e R s m args below meth c n0 Q kc ks k n h pc ls (.int x :: .int j :: .ref a :: st) := fun T locs X eT N => by
  obtain ⟨cl, A, r⟩ := A
  obtain ⟨T1, h1, X1, e1, W1, st1⟩ := stC X C.1 C.2.1 eT A (j := j) (x := x) (inb_of_idx hi r hb) (g := mkF m pc ls (.int x :: .int j :: .ref a :: st)) rfl rfl (C.a d)
  have N1 := Fr.snoc X1 N g
  rw [(idx_of hi).2] at W1
  obtain ⟨s₂, o, g1, g2⟩ := K h1 W1 (Al.set ⟨cl, A, r⟩ W1) T1 _ X1 e1 N1
  exact ⟨s₂, o, st1 _ g1, g2⟩
theorem W.zastore (C : Cx p s m meth c Z y bytes ml ret) {a : Addr} {vs : List Value} {j : Int32} {x : Int32} (i : Nat) (d : decode bytes pc = .ok (.bastore, 1)) (A : Al Z h a .boolean vs) (hi : j.toInt = (i : Int)) (hb : i < vs.length) (g : n0 ≤ a) (K : ∀ h', Wr h h' a i (.int (x &&& 1)) → Al Z h' a .boolean (vs.set i (.int (x &&& 1))) → W p l e R s m args below meth c n0 Q kc ks k n h' (pc + 1) ls st) : W p l e R s m args below meth c n0 Q kc ks k n h pc ls (.int x :: .int j :: .ref a :: st) := fun T locs X eT N => by
  obtain ⟨cl, A, r⟩ := A
  obtain ⟨T1, h1, X1, e1, W1, st1⟩ := stZ X C.1 C.2.1 eT A (j := j) (x := x) (inb_of_idx hi r hb) (g := mkF m pc ls (.int x :: .int j :: .ref a :: st)) rfl rfl (C.a d)
  have N1 := Fr.snoc X1 N g
  rw [(idx_of hi).2] at W1
  obtain ⟨s₂, o, g1, g2⟩ := K h1 W1 (Al.set ⟨cl, A, r⟩ W1) T1 _ X1 e1 N1
  exact ⟨s₂, o, st1 _ g1, g2⟩
theorem i8_i8 (y : Int32) : y.toInt8.toInt32.toInt8.toInt32 = y.toInt8.toInt32 := by simp
theorem W.bastoreI (C : Cx p s m meth c Z y bytes ml ret) {a : Addr} {vs : List Value} {j : Int32} {x : Int32} (i : Nat) (d : decode bytes pc = .ok (.bastore, 1)) (A : Al Z h a .byte vs) (hi : j.toInt = (i : Int)) (hb : i < vs.length) (g : n0 ≤ a) (K : ∀ h', Wr h h' a i (.int x.toInt8.toInt32) → Al Z h' a .byte (vs.set i (.int x.toInt8.toInt32)) → W p l e R s m args below meth c n0 Q kc ks k n h' (pc + 1) ls st) : W p l e R s m args below meth c n0 Q kc ks k n h pc ls (.int x.toInt8.toInt32 :: .int j :: .ref a :: st) :=
  W.bastore C i d A hi hb g (by rw [i8_i8]; exact K)
theorem W.newP (C : Cx p s m meth c Z y bytes ml ret) {aty : ArrayType} {nn : Int32} (sz cap : Nat) (d : decode bytes pc = .ok (.newarray aty, 2)) (w : (Jvm.Cond.arrayClass (newarray.typeOf aty)).before a0 Z = true) (hn : nn.toInt = (sz : Int)) (hcap : sz ≤ cap) (hb : cap * 8 ≤ 536870912) (k' n' : Nat) (hk : k + 1 = k') (hn' : n + cap = n') (hc : k' ≤ R.cells) (hl : n' ≤ R.slots)
    (K : ∀ a h', a = h.size → Ext h h' → Al Z h' a (newarray.typeOf aty) (List.replicate sz (defaultValue (newarray.typeOf aty))) → W p l e R s m args below meth c n0 Q kc ks k' n' h' (pc + 2) ls (.ref a :: st)) : W p l e R s m args below meth c n0 Q kc ks k n h pc ls (.int nn :: st) := fun T locs X eT N => by
  subst hk hn'
  obtain ⟨T1, h1, cA, X1, e1, E1, A1, st1⟩ := Jvm.RoadKit.newP X C.1 C.2.1 w eT (g := mkF m pc ls (.int nn :: st)) rfl (C.a d) rfl (idx_of hn).1 (cap := cap) (by rw [(idx_of hn).2]; exact hcap) hb hc hl
  obtain ⟨s₂, o, g1, g2⟩ := K _ h1 rfl E1 ⟨_, A1, by simp [newA, (idx_of hn).2]⟩ T1 _ X1 e1 N
  exact ⟨s₂, o, st1 _ g1, g2⟩
theorem Al.arv {a : Addr} {ty : FieldType} {vs : List Value} {dv : Value} (F : Al Z h a ty vs) (hl : vs.length < 2147483648) (hf : ∀ v ∈ vs, fits ty v = true) : ∃ k, Arv Z h a k ty vs.length.toInt32 vs dv := by
  obtain ⟨c, A, r⟩ := F
  have hs : c.slots.size = vs.length := by rw [r]; simp
  have hz : (vs.length.toInt32).toInt = vs.length := len_toInt hl
  obtain ⟨q1, q2⟩ := idx_of hz
  refine ⟨c.cls, c, A, rfl, by rw [hs, q2], q1, fun i hi => ?_, fun i hi => ?_⟩
  · rw [hs] at hi
    rw [r]; simp [List.getD_eq_getElem?_getD, List.getElem?_eq_getElem hi]
  · rw [hs] at hi
    have : vs.getD i dv = vs[i] := by simp [List.getD_eq_getElem?_getD, List.getElem?_eq_getElem hi]
    rw [this]; exact hf _ (List.getElem_mem hi)
theorem Al.of_arv {a : Addr} {k : ClassId} {ty : FieldType} {z : Int32} {vs : List Value} {dv : Value} (F : Arv Z h a k ty z vs dv) (hl : z.toNatClampNeg = vs.length) : Al Z h a ty vs := by
  obtain ⟨c, A, -, r2, -, H, -⟩ := F
  refine ⟨c, A, ?_⟩
  have hs : c.slots.size = vs.length := r2.trans hl
  apply Array.ext_getElem?
  intro i
  by_cases hi : i < vs.length
  · rw [H i (by rw [hs]; exact hi)]; simp [List.getD_eq_getElem?_getD, List.getElem?_eq_getElem hi]
  · rw [Array.getElem?_eq_none (by rw [hs]; omega)]; simp; omega
theorem cut_map (va : List Value) (dv : Value) (i q : Nat) (h : i + q ≤ va.length) : (List.range q).map (fun t => va.getD (i + t) dv) = (va.drop i).take q := by
  apply List.ext_getElem?
  intro t
  by_cases ht : t < q
  · have h1 : i + t < va.length := by omega
    simp [List.getElem?_take, ht, List.getD_eq_getElem?_getD, List.getElem?_eq_getElem h1]
  · simp [List.getElem?_take, ht]
theorem W.arrcopy (C : Cx p s m meth c Z y bytes ml ret) {index : Nat} {a b : Addr} {ty : FieldType} {va vd : List Value} {sp dp nn : Int32} (i j q : Nat) (d : decode bytes pc = .ok (.invokestatic index, 3)) (w1 : (Jvm.Cond.methodLink y.cls index Jvm.Stand.acN).before a0 Z = true) (w2 : (Jvm.Cond.native Jvm.Stand.acN).before a0 Z = true) (w3 : (Jvm.Cond.static Jvm.Stand.acN).before a0 Z = true) (w4 : (Jvm.Cond.initialized "java/lang/System").before a0 Z = true)
    (A : Al Z h a ty va) (B : Al Z h b ty vd) (hty : refKind ty = false) (hfa : ∀ v ∈ va, fits ty v = true) (hfb : ∀ v ∈ vd, fits ty v = true) (hla : va.length < 2147483648) (hlb : vd.length < 2147483648) (hsp : sp.toInt = (i : Int)) (hdp : dp.toInt = (j : Int)) (hnn : nn.toInt = (q : Int)) (h4 : i + q ≤ va.length) (h5 : j + q ≤ vd.length) (ge : n0 ≤ b)
    (w : Nat) (hW : (st.map fun v => v.category).sum = w) (hf : 1 ≤ R.frames) (hlo : w + (nativeFrameWords "java/lang/System" "arraycopy" 5 + 11) ≤ R.locals) (hsz : ls.size = ml)
    (K : ∀ h', Keep h h' [b] → Al Z h' b ty (vd.take j ++ (va.drop i).take q ++ vd.drop (j + q)) → W p l e R s m args below meth c n0 Q kc ks k n h' (pc + 3) ls st) : W p l e R s m args below meth c n0 Q kc ks k n h pc ls (.int nn :: .int dp :: .ref b :: .int sp :: .ref a :: st) := fun T locs X eT N => by
  obtain ⟨ka, A⟩ := A.arv (dv := .null) hla hfa
  obtain ⟨kb, B⟩ := B.arv (dv := .null) hlb hfb
  obtain ⟨s1, s2⟩ := idx_of hsp
  obtain ⟨d1, d2⟩ := idx_of hdp
  obtain ⟨n1, n2⟩ := idx_of hnn
  have za := (idx_of (len_toInt hla)).2
  have zb := (idx_of (len_toInt hlb)).2
  obtain ⟨T1, h1, L1, X1, e1, N1, K1, B1, st1⟩ := cpA X C.1 C.2.1 C.2.2.1 w1 w2 w3 w4 eT A B (Or.inl ⟨rfl, hty⟩) s1 d1 n1 (by rw [s2, n2, za]; exact h4) (by rw [d2, n2, zb]; exact h5) rfl (by rw [d2, n2]; exact h5) N ge (g := mkF m pc ls (.int nn :: .int dp :: .ref b :: .int sp :: .ref a :: st)) rfl (hsz.trans C.2.2.2.2.1.symm) rfl (C.a d) hf (W := w) (by show 2 * 0 + _ ≤ _; omega) hlo
  rw [s2, d2, n2, cut_map va .null i q h4] at B1
  have B2 : Al Z h1 b ty (vd.take j ++ (va.drop i).take q ++ vd.drop (j + q)) := Al.of_arv B1 (by rw [zb]; simp; omega)
  obtain ⟨s₂, o, g1, g2⟩ := K h1 K1 B2 T1 _ X1 e1 N1
  exact ⟨s₂, o, st1 _ g1, g2⟩
theorem W.clone (C : Cx p s m meth c Z y bytes ml ret) {index : Nat} {ad : String} {a : Addr} {ty : FieldType} {vs : List Value} (cap : Nat) (d : decode bytes pc = .ok (.invokevirtual index, 3)) (w1 : (Jvm.Cond.methodLink y.cls index ⟨ad, "clone", "()Ljava/lang/Object;"⟩).before a0 Z = true) (w2 : (Jvm.Cond.sameMethod ad "java/lang/Object" "clone" "()Ljava/lang/Object;").before a0 Z = true) (w3 : (Jvm.Cond.native ⟨"java/lang/Object", "clone", "()Ljava/lang/Object;"⟩).before a0 Z = true)
    (w4 : (Jvm.Cond.instanceMethod ⟨"java/lang/Object", "clone", "()Ljava/lang/Object;"⟩).before a0 Z = true) (w5 : (Jvm.Cond.selects ad ⟨ad, "clone", "()Ljava/lang/Object;"⟩ ⟨"java/lang/Object", "clone", "()Ljava/lang/Object;"⟩).before a0 Z = true) (w6 : (Jvm.Cond.castable ad "java/lang/Cloneable").before a0 Z = true)
    (A : Al Z h a ty vs) (E : Exa Z h a ad) (hfa : ∀ v ∈ vs, fits ty v = true) (hla : vs.length < 2147483648) (w k' n' : Nat) (hW : (st.map fun v => v.category).sum = w) (hf : 1 ≤ R.frames) (hlo : w + 14 ≤ R.locals) (hcap : vs.length ≤ cap) (hk : k + 1 = k') (hn : n + cap = n') (hc : k' ≤ R.cells) (hs : n' ≤ R.slots) (hsz : ls.size = ml)
    (K : ∀ a' h', a' = h.size → Ext h h' → Al Z h' a' ty vs → Exa Z h' a' ad → W p l e R s m args below meth c n0 Q kc ks k' n' h' (pc + 3) ls (.ref a' :: st)) : W p l e R s m args below meth c n0 Q kc ks k n h pc ls (.ref a :: st) := fun T locs X eT N => by
  subst hk hn
  obtain ⟨ka, A⟩ := A.arv (dv := .null) hla hfa
  have za := (idx_of (len_toInt hla)).2
  obtain ⟨T1, h1, X1, e1, E1, B1, G1, st1⟩ := cloneH X C.1 C.2.1 C.2.2.1 w1 w2 w3 w4 w5 w6 eT A.arh E (g := mkF m pc ls (.ref a :: st)) rfl (hsz.trans C.2.2.2.2.1.symm) rfl (C.a d) hf (W := w) (cap := cap) (by show 2 * 0 + _ ≤ _; omega) hlo (by rw [za]; exact hcap) hc hs
  obtain ⟨s₂, o, g1, g2⟩ := K _ h1 rfl E1 (Al.of_arv (show Arv Z h1 h.size ka ty vs.length.toInt32 vs .null from B1) za) G1 T1 _ X1 e1 N
  exact ⟨s₂, o, st1 _ g1, g2⟩
theorem W.cast (C : Cx p s m meth c Z y bytes ml ret) {index : Nat} {K0 : String} {a : Addr} (d : decode bytes pc = .ok (.checkcast index, 3)) (w1 : (Jvm.Cond.classLink y.cls index K0).before a0 Z = true) (I : Ins Z h a K0 true) (K : W p l e R s m args below meth c n0 Q kc ks k n h (pc + 3) ls (.ref a :: st)) : W p l e R s m args below meth c n0 Q kc ks k n h pc ls (.ref a :: st) := fun T locs X eT N => by
  obtain ⟨T1, X1, e1, st1⟩ := castY X C.1 C.2.1 C.2.2.1 w1 eT I (g := mkF m pc ls (.ref a :: st)) rfl rfl (C.a d)
  obtain ⟨s₂, o, g1, g2⟩ := K T1 _ X1 e1 N
  exact ⟨s₂, o, st1 _ g1, g2⟩
/-- an array of references, of the class k0 -/
def Alr (Z : State) (h : Heap) (a : Addr) (k0 : ClassId) (ty : FieldType) (vs : List Value) : Prop := ∃ c : Cell, Arr Z h a c ty ∧ c.cls = k0 ∧ c.slots = vs.toArray
theorem Alr.al {a : Addr} {k0 : ClassId} {ty : FieldType} {vs : List Value} (F : Alr Z h a k0 ty vs) : Al Z h a ty vs := by obtain ⟨c, A, -, r⟩ := F; exact ⟨c, A, r⟩
theorem Alr.lt {a : Addr} {k0 : ClassId} {ty : FieldType} {vs : List Value} (F : Alr Z h a k0 ty vs) : a < h.size := F.al.lt
theorem Alr.ext {a : Addr} {k0 : ClassId} {ty : FieldType} {vs : List Value} {h' : Heap} (F : Alr Z h a k0 ty vs) (E : Ext h h') : Alr Z h' a k0 ty vs := by obtain ⟨c, A, r⟩ := F; exact ⟨c, A.ext E, r⟩
theorem Alr.other {a b : Addr} {k0 : ClassId} {ty : FieldType} {vs : List Value} {h' : Heap} {sl : Nat} {v : Value} (F : Alr Z h b k0 ty vs) (U : Wr h h' a sl v) (q : b ≠ a) : Alr Z h' b k0 ty vs := by obtain ⟨c, A, r⟩ := F; exact ⟨c, A.other U q, r⟩
theorem Alr.keep {a : Addr} {k0 : ClassId} {ty : FieldType} {vs : List Value} {h' : Heap} {ws : List Addr} (F : Alr Z h a k0 ty vs) (K : Keep h h' ws) (q : a ∉ ws) : Alr Z h' a k0 ty vs := by obtain ⟨c, A, r⟩ := F; exact ⟨c, ⟨K.2.1 a c A.1 q, A.2⟩, r⟩
theorem W.newRA (C : Cx p s m meth c Z y bytes ml ret) {index : Nat} {ty : FieldType} {K0 ad : String} {nn : Int32} (sz cap : Nat) (d : decode bytes pc = .ok (.anewarray index, 3)) (hC : (FieldType.array ty).toString = K0) (w1 : (Jvm.Cond.classLink y.cls index K0).before a0 Z = true) (w2 : (Jvm.Cond.arrayOver (.array ty)).before a0 Z = true) (had : "[" ++ K0 = ad) (hn : nn.toInt = (sz : Int)) (hcap : sz ≤ cap) (hb : cap * 8 ≤ 536870912) (k' n' : Nat) (hk : k + 1 = k') (hn' : n + cap = n') (hc : k' ≤ R.cells) (hl : n' ≤ R.slots)
    (K : ∀ a h' k0, a = h.size → Ext h h' → Alr Z h' a k0 (.array ty) (List.replicate sz .null) → OvrA Z k0 ty K0 → Exa Z h' a ad → W p l e R s m args below meth c n0 Q kc ks k' n' h' (pc + 3) ls (.ref a :: st)) : W p l e R s m args below meth c n0 Q kc ks k n h pc ls (.int nn :: st) := fun T locs X eT N => by
  subst hk hn'
  obtain ⟨T1, h1, cA, X1, e1, E1, A1, G1, O1, st1⟩ := Jvm.RoadKit.newRA X C.1 C.2.1 C.2.2.1 hC w1 w2 eT (g := mkF m pc ls (.int nn :: st)) rfl (C.a d) rfl (idx_of hn).1 (cap := cap) (by rw [(idx_of hn).2]; exact hcap) hb hc hl had
  obtain ⟨s₂, o, g1, g2⟩ := K _ h1 cA rfl E1 ⟨_, A1, rfl, by simp [newA, (idx_of hn).2, defaultValue]⟩ O1 G1 T1 _ X1 e1 N
  exact ⟨s₂, o, st1 _ g1, g2⟩
theorem W.newPE (C : Cx p s m meth c Z y bytes ml ret) {aty : ArrayType} {nn : Int32} {ad : String} (sz cap : Nat) (d : decode bytes pc = .ok (.newarray aty, 2)) (w : (Jvm.Cond.arrayClass (newarray.typeOf aty)).before a0 Z = true) (had : "[" ++ (newarray.typeOf aty).toString = ad) (hn : nn.toInt = (sz : Int)) (hcap : sz ≤ cap) (hb : cap * 8 ≤ 536870912) (k' n' : Nat) (hk : k + 1 = k') (hn' : n + cap = n') (hc : k' ≤ R.cells) (hl : n' ≤ R.slots)
    (K : ∀ a h', a = h.size → Ext h h' → Al Z h' a (newarray.typeOf aty) (List.replicate sz (defaultValue (newarray.typeOf aty))) → Exa Z h' a ad → W p l e R s m args below meth c n0 Q kc ks k' n' h' (pc + 2) ls (.ref a :: st)) : W p l e R s m args below meth c n0 Q kc ks k n h pc ls (.int nn :: st) := fun T locs X eT N => by
  subst hk hn'
  obtain ⟨T1, h1, cA, X1, e1, E1, A1, G1, st1⟩ := Jvm.RoadKit.newPE X C.1 C.2.1 w eT (g := mkF m pc ls (.int nn :: st)) rfl (C.a d) rfl (idx_of hn).1 (cap := cap) (by rw [(idx_of hn).2]; exact hcap) hb hc hl had
  obtain ⟨s₂, o, g1, g2⟩ := K _ h1 rfl E1 ⟨_, A1, by simp [newA, (idx_of hn).2]⟩ G1 T1 _ X1 e1 N
  exact ⟨s₂, o, st1 _ g1, g2⟩
theorem W.aastoreA (C : Cx p s m meth c Z y bytes ml ret) {a b : Addr} {k0 : ClassId} {ty : FieldType} {K0 : String} {vs : List Value} {j : Int32} (i : Nat) (d : decode bytes pc = .ok (.aastore, 1)) (A : Alr Z h a k0 (.array ty) vs) (O : OvrA Z k0 ty K0) (I : Ins Z h b K0 true) (hi : j.toInt = (i : Int)) (hb : i < vs.length) (g : n0 ≤ a) (K : ∀ h', Wr h h' a i (.ref b) → Alr Z h' a k0 (.array ty) (vs.set i (.ref b)) → W p l e R s m args below meth c n0 Q kc ks k n h' (pc + 1) ls st) : W p l e R s m args below meth c n0 Q kc ks k n h pc ls (.ref b :: .int j :: .ref a :: st) := fun T locs X eT N => by
  obtain ⟨cl, A, q0, r⟩ := A
  obtain ⟨T1, h1, X1, e1, W1, st1⟩ := stR X C.1 C.2.1 eT A (j := j) (inb_of_idx hi r hb) rfl (Sto.ofVA A q0 O I) (g := mkF m pc ls (.ref b :: .int j :: .ref a :: st)) rfl rfl (C.a d)
  have N1 := Fr.snoc X1 N g
  rw [(idx_of hi).2] at W1
  obtain ⟨s₂, o, g1, g2⟩ := K h1 W1 ⟨_, A.same W1, q0, by simp [Cell.setSlot, r]⟩ T1 _ X1 e1 N1
  exact ⟨s₂, o, st1 _ g1, g2⟩
end
theorem tkw {ts : List Jvm.Cond} {a0 : Array Value} {Z : State} (hw : ∀ d ∈ ts, d.before a0 Z = true) (i : Nat) {d : Jvm.Cond} (q : ts[i]? = some d) : d.before a0 Z = true := hw d (List.mem_of_getElem? q)
end Jvm.OwnKit
namespace Jvm.Pilot.@@N@@
open Jvm Jvm.ClassFile Sem Op Lib Jvm.Free Jvm.Stand Jvm.LawKit Jvm.RoadKit Bundle Jvm.OwnKit Jvm.Pilot.@@N@@.Jvm.D
abbrev y1 : MethodName := ⟨"com/example/tightwire/tightwire/NoopCompressor", "<init>", "()V"⟩
theorem d1_0 : decode prog_6_method_1_code 0 = .ok (.aload_n 0, 1) := by decide +kernel
theorem d1_1 : decode prog_6_method_1_code 1 = .ok (.invokespecial 1, 3) := by decide +kernel
theorem d1_4 : decode prog_6_method_1_code 4 = .ok (.return_, 1) := by decide +kernel
theorem pf_1 : plainFor y1 = true := by first | exact plainFor_of_name (by first | (simp [plainName, overriddenIn]; done) | decide +kernel) | decide +kernel
theorem ef_1 (m : MethodId) (a1 : Addr) : entryFrame m #[(.ref a1)] 1 = mkF m 0 #[.val (.ref a1)] [] := by first | (simp [entryFrame, mkF, argsToLocals, Value.category]; done) | rfl
theorem pd_0 : parseMethodDescriptor "()V" = some ⟨[], none⟩ := by decide +kernel
set_option maxRecDepth 65536 in
set_option maxHeartbeats 40000000 in
theorem con_1 (l : Launch) (Z : State) (a0 : Array Value) (hw : ∀ d ∈ tables_1, d.before a0 Z = true) (h0 : Heap) (n0 : Nat) (a1 : Addr)  (Z0 : n0 ≤ h0.size) : Con l Z y1 prog_6_method_1_code 1 none ({ frames := 1, cells := 0, slots := 0, locals := 12 } : Room) #[(.ref a1)] h0 n0 (Pu none h0) := by
  refine Con.of pf_1 (fun m => ef_1 m a1) ?_
  intro p e s m below meth c C
  refine W.aloadN C d1_0 rfl rfl ?_
  refine W.initO C d1_1 (tkw hw 8 rfl) (tkw hw 9 rfl) (tkw hw 10 rfl) 0 rfl (by decide) (by decide) rfl ?_
  exact W.retV C d1_4 (by decide) (by decide) ⟨rfl, rfl⟩

abbrev y3 : MethodName := ⟨"com/example/tightwire/tightwire/NoopCompressor", "compress", "([BII[BI)I"⟩
theorem d3_0 : decode prog_6_method_4_code 0 = .ok (.aload_n 1, 1) := by decide +kernel
theorem d3_1 : decode prog_6_method_4_code 1 = .ok (.iload_n 2, 1) := by decide +kernel
theorem d3_2 : decode prog_6_method_4_code 2 = .ok (.aload 4, 2) := by decide +kernel
theorem d3_4 : decode prog_6_method_4_code 4 = .ok (.iload 5, 2) := by decide +kernel
theorem d3_6 : decode prog_6_method_4_code 6 = .ok (.iload_n 3, 1) := by decide +kernel
theorem d3_7 : decode prog_6_method_4_code 7 = .ok (.invokestatic 9, 3) := by decide +kernel
theorem d3_10 : decode prog_6_method_4_code 10 = .ok (.iload_n 3, 1) := by decide +kernel
theorem d3_11 : decode prog_6_method_4_code 11 = .ok (.ireturn, 1) := by decide +kernel
theorem pf_3 : plainFor y3 = true := by first | exact plainFor_of_name (by first | (simp [plainName, overriddenIn]; done) | decide +kernel) | decide +kernel
theorem ef_3 (m : MethodId) (a1 : Addr) (a2 : Addr) (p3 : Int32) (p4 : Int32) (a5 : Addr) (p6 : Int32) : entryFrame m #[(.ref a1), (.ref a2), (.int p3), (.int p4), (.ref a5), (.int p6)] 6 = mkF m 0 #[.val (.ref a1), .val (.ref a2), .val (.int p3), .val (.int p4), .val (.ref a5), .val (.int p6)] [] := by first | (simp [entryFrame, mkF, argsToLocals, Value.category]; done) | rfl
theorem pd_1 : parseMethodDescriptor "(Ljava/lang/Object;ILjava/lang/Object;II)V" = some ⟨[(.object "java/lang/Object"), .int, (.object "java/lang/Object"), .int, .int], none⟩ := by decide +kernel
set_option maxRecDepth 65536 in
set_option maxHeartbeats 40000000 in
theorem con_3 (l : Launch) (Z : State) (a0 : Array Value) (hw : ∀ d ∈ tables_1, d.before a0 Z = true) (h0 : Heap) (n0 : Nat) (a1 : Addr) (a2 : Addr) (p3 : Int32) (p4 : Int32) (a5 : Addr) (p6 : Int32) (va vd : List Value) (i q j : Nat) (A2 : Al Z h0 a2 .byte va) (A5 : Al Z h0 a5 .byte vd) (hfa : ∀ v ∈ va, fits .byte v = true) (hfb : ∀ v ∈ vd, fits .byte v = true) (hla : va.length < 2147483648) (hlb : vd.length < 2147483648) (h3 : p3.toInt = (i : Int)) (h4 : p4.toInt = (q : Int)) (h6 : p6.toInt = (j : Int)) (hb1 : i + q ≤ va.length) (hb2 : j + q ≤ vd.length) (ge5 : n0 ≤ a5) (Z0 : n0 ≤ h0.size) : Con l Z y3 prog_6_method_4_code 6 (some .int) ({ frames := 1, cells := 0, slots := 0, locals := 40 } : Room) #[(.ref a1), (.ref a2), (.int p3), (.int p4), (.ref a5), (.int p6)] h0 n0 (fun v h => v = some (.int p4) ∧ Keep h0 h [a5] ∧ Al Z h a5 .byte (vd.take j ++ (va.drop i).take q ++ vd.drop (j + q))) := by
  refine Con.of pf_3 (fun m => ef_3 m a1 a2 p3 p4 a5 p6) ?_
  intro p e s m below meth c C
  refine W.aloadN C d3_0 rfl rfl ?_
  refine W.iloadN C d3_1 rfl ?_
  refine W.aload C d3_2 rfl rfl ?_
  refine W.iload C d3_4 rfl ?_
  refine W.iloadN C d3_6 rfl ?_
  refine W.arrcopy C i j q d3_7 (tkw hw 16 rfl) (tkw hw 19 rfl) (tkw hw 17 rfl) (tkw hw 18 rfl) A2 A5 rfl hfa hfb hla hlb h3 h6 h4 hb1 hb2 ge5 0 rfl (by decide) (by decide) rfl ?_
  intro h1 Kc A5'
  refine W.iloadN C d3_10 rfl ?_
  exact W.iret C d3_11 (by simp) rfl (by decide) (by decide) ⟨rfl, Kc, A5'⟩

theorem own_at {bs : List Int32} {i : Nat} (h : i < bs.length) : (bs.map Value.int)[i]? = some (.int (bs.getD i 0)) := by
  simp [List.getElem?_map, List.getD_eq_getElem?_getD, List.getElem?_eq_getElem h]
abbrev y4 : MethodName := ⟨"com/example/tightwire/tightwire/NoopCompressorCompressPinLaw", "at", "([B[B[BIIII)Z"⟩
theorem d4_0 : decode method_3_code 0 = .ok (.iload_n 3, 1) := by decide +kernel
theorem d4_1 : decode method_3_code 1 = .ok (.iload 6, 2) := by decide +kernel
theorem d4_3 : decode method_3_code 3 = .ok (.if_icmp .lt 26, 3) := by decide +kernel
theorem d4_6 : decode method_3_code 6 = .ok (.iload_n 3, 1) := by decide +kernel
theorem d4_7 : decode method_3_code 7 = .ok (.iload 6, 2) := by decide +kernel
theorem d4_9 : decode method_3_code 9 = .ok (.iload 5, 2) := by decide +kernel
theorem d4_11 : decode method_3_code 11 = .ok (.iadd, 1) := by decide +kernel
theorem d4_12 : decode method_3_code 12 = .ok (.if_icmp .ge 17, 3) := by decide +kernel
theorem d4_15 : decode method_3_code 15 = .ok (.aload_n 2, 1) := by decide +kernel
theorem d4_16 : decode method_3_code 16 = .ok (.iload 4, 2) := by decide +kernel
theorem d4_18 : decode method_3_code 18 = .ok (.iload_n 3, 1) := by decide +kernel
theorem d4_19 : decode method_3_code 19 = .ok (.iadd, 1) := by decide +kernel
theorem d4_20 : decode method_3_code 20 = .ok (.iload 6, 2) := by decide +kernel
theorem d4_22 : decode method_3_code 22 = .ok (.isub, 1) := by decide +kernel
theorem d4_23 : decode method_3_code 23 = .ok (.baload, 1) := by decide +kernel
theorem d4_24 : decode method_3_code 24 = .ok (.istore 7, 2) := by decide +kernel
theorem d4_26 : decode method_3_code 26 = .ok (.goto 8, 3) := by decide +kernel
theorem d4_29 : decode method_3_code 29 = .ok (.aload_n 1, 1) := by decide +kernel
theorem d4_30 : decode method_3_code 30 = .ok (.iload_n 3, 1) := by decide +kernel
theorem d4_31 : decode method_3_code 31 = .ok (.baload, 1) := by decide +kernel
theorem d4_32 : decode method_3_code 32 = .ok (.istore 7, 2) := by decide +kernel
theorem d4_34 : decode method_3_code 34 = .ok (.aload_n 0, 1) := by decide +kernel
theorem d4_35 : decode method_3_code 35 = .ok (.iload_n 3, 1) := by decide +kernel
theorem d4_36 : decode method_3_code 36 = .ok (.baload, 1) := by decide +kernel
theorem d4_37 : decode method_3_code 37 = .ok (.iload 7, 2) := by decide +kernel
theorem d4_39 : decode method_3_code 39 = .ok (.if_icmp .ne 7, 3) := by decide +kernel
theorem d4_42 : decode method_3_code 42 = .ok (.iconst 1, 1) := by decide +kernel
theorem d4_43 : decode method_3_code 43 = .ok (.goto 4, 3) := by decide +kernel
theorem d4_46 : decode method_3_code 46 = .ok (.iconst 0, 1) := by decide +kernel
theorem d4_47 : decode method_3_code 47 = .ok (.ireturn, 1) := by decide +kernel
theorem pf_4 : plainFor y4 = true := by first | exact plainFor_of_name (by first | (simp [plainName, overriddenIn]; done) | decide +kernel) | decide +kernel
theorem ef_4 (m : MethodId) (ad : Addr) (ao : Addr) (aq : Addr) (x3 : Int32) (x4 : Int32) (x5 : Int32) (x6 : Int32) : entryFrame m #[(.ref ad), (.ref ao), (.ref aq), (.int x3), (.int x4), (.int x5), (.int x6)] 8 = mkF m 0 #[.val (.ref ad), .val (.ref ao), .val (.ref aq), .val (.int x3), .val (.int x4), .val (.int x5), .val (.int x6), .unset] [] := by first | (simp [entryFrame, mkF, argsToLocals, Value.category]; done) | rfl
set_option maxRecDepth 65536 in
set_option maxHeartbeats 40000000 in
theorem con_4 (l : Launch) (Z : State) (a0 : Array Value) (hw : ∀ d ∈ tables_1, d.before a0 Z = true) (h0 : Heap) (n0 : Nat) (ad : Addr) (ao : Addr) (aq : Addr) (x3 : Int32) (x4 : Int32) (x5 : Int32) (x6 : Int32) (D : List Value) (O S : List Int32) (nj no nl nd : Nat) (Ad : Al Z h0 ad .byte D) (Ao : Al Z h0 ao .byte (O.map Value.int)) (Aq : Al Z h0 aq .byte (S.map Value.int)) (hj : x3.toInt = (nj : Int)) (ho : x4.toInt = (no : Int)) (hl : x5.toInt = (nl : Int)) (hd : x6.toInt = (nd : Int)) (sm : nj ≤ 9 ∧ no ≤ 9 ∧ nl ≤ 9 ∧ nd ≤ 9) (H1 : nd ≤ nj → nj < nd + nl → no + nj - nd < S.length ∧ D[nj]? = some (.int (S.getD (no + nj - nd) 0))) (H2 : ¬ (nd ≤ nj ∧ nj < nd + nl) → nj < O.length ∧ D[nj]? = some (.int (O.getD nj 0))) (Z0 : n0 ≤ h0.size) : Con l Z y4 method_3_code 8 (some .boolean) ({ frames := 0, cells := 0, slots := 0, locals := 0 } : Room) #[(.ref ad), (.ref ao), (.ref aq), (.int x3), (.int x4), (.int x5), (.int x6)] h0 n0 (Pu (some (.int 1)) h0) := by
  refine Con.of pf_4 (fun m => ef_4 m ad ao aq x3 x4 x5 x6) ?_
  intro p e s m below meth c C
  refine W.iloadN C d4_0 rfl ?_
  refine W.iload C d4_1 rfl ?_
  refine W.icmp_lt C 29 d4_3 rfl (fun b1 => ?_) (fun b1 => ?_)
  · skip
    refine W.aloadN C d4_29 rfl rfl ?_
    refine W.iloadN C d4_30 rfl ?_
    have g : ¬ (nd ≤ nj ∧ nj < nd + nl) := by have q := c_iadd x6 x5; have r := rng32 (x6 + x5); rw [Int32.lt_iff_toInt_lt] at b1; omega
    obtain ⟨hO, hD⟩ := H2 g
    refine W.baload C nj d4_31 Ao hj (own_at hO) ?_
    refine W.istore C #[.val (.ref ad), .val (.ref ao), .val (.ref aq), .val (.int x3), .val (.int x4), .val (.int x5), .val (.int x6), .val (.int (O.getD nj 0))] d4_32 rfl ?_
    refine W.aloadN C d4_34 rfl rfl ?_
    refine W.iloadN C d4_35 rfl ?_
    refine W.baload C nj d4_36 Ad hj hD ?_
    refine W.iload C d4_37 rfl ?_
    refine W.icmp_ne C 46 d4_39 rfl (fun b2 => absurd rfl b2) (fun b2 => ?_)
    refine W.iconst C (1 : Int32) d4_42 rfl ?_
    refine W.goto C 47 d4_43 rfl ?_
    exact W.iret C d4_47 (by simp) rfl (by decide) (by decide) ⟨rfl, rfl⟩
  · skip
    refine W.iloadN C d4_6 rfl ?_
    refine W.iload C d4_7 rfl ?_
    refine W.iload C d4_9 rfl ?_
    refine W.iadd C d4_11 ?_
    refine W.icmp_ge C 29 d4_12 rfl (fun b3 => ?_) (fun b3 => ?_)
    · skip
      refine W.aloadN C d4_29 rfl rfl ?_
      refine W.iloadN C d4_30 rfl ?_
      have g : ¬ (nd ≤ nj ∧ nj < nd + nl) := by have q := c_iadd x6 x5; have r := rng32 (x6 + x5); rw [Int32.lt_iff_toInt_lt] at b1; rw [Int32.lt_iff_toInt_lt] at b3; omega
      obtain ⟨hO, hD⟩ := H2 g
      refine W.baload C nj d4_31 Ao hj (own_at hO) ?_
      refine W.istore C #[.val (.ref ad), .val (.ref ao), .val (.ref aq), .val (.int x3), .val (.int x4), .val (.int x5), .val (.int x6), .val (.int (O.getD nj 0))] d4_32 rfl ?_
      refine W.aloadN C d4_34 rfl rfl ?_
      refine W.iloadN C d4_35 rfl ?_
      refine W.baload C nj d4_36 Ad hj hD ?_
      refine W.iload C d4_37 rfl ?_
      refine W.icmp_ne C 46 d4_39 rfl (fun b4 => absurd rfl b4) (fun b4 => ?_)
      refine W.iconst C (1 : Int32) d4_42 rfl ?_
      refine W.goto C 47 d4_43 rfl ?_
      exact W.iret C d4_47 (by simp) rfl (by decide) (by decide) ⟨rfl, rfl⟩
    · skip
      refine W.aloadN C d4_15 rfl rfl ?_
      refine W.iload C d4_16 rfl ?_
      refine W.iloadN C d4_18 rfl ?_
      refine W.iadd C d4_19 ?_
      refine W.iload C d4_20 rfl ?_
      refine W.isub C d4_22 ?_
      have g1 : nd ≤ nj := by rw [Int32.lt_iff_toInt_lt] at b1; omega
      have g2 : nj < nd + nl := by have q := c_iadd x6 x5; have r := rng32 (x6 + x5); rw [Int32.lt_iff_toInt_lt] at b3; omega
      obtain ⟨hS, hD⟩ := H1 g1 g2
      have hix : ((x4 + x3) - x6).toInt = ((no + nj - nd : Nat) : Int) := by have q := c_iadd x4 x3; have r := rng32 (x4 + x3); have q2 := c_isub (x4 + x3) x6; have r2 := rng32 ((x4 + x3) - x6); omega
      refine W.baload C (no + nj - nd) d4_23 Aq hix (own_at hS) ?_
      refine W.istore C #[.val (.ref ad), .val (.ref ao), .val (.ref aq), .val (.int x3), .val (.int x4), .val (.int x5), .val (.int x6), .val (.int (S.getD (no + nj - nd) 0))] d4_24 rfl ?_
      refine W.goto C 34 d4_26 rfl ?_
      refine W.aloadN C d4_34 rfl rfl ?_
      refine W.iloadN C d4_35 rfl ?_
      refine W.baload C nj d4_36 Ad hj hD ?_
      refine W.iload C d4_37 rfl ?_
      refine W.icmp_ne C 46 d4_39 rfl (fun b5 => absurd rfl b5) (fun b5 => ?_)
      refine W.iconst C (1 : Int32) d4_42 rfl ?_
      refine W.goto C 47 d4_43 rfl ?_
      exact W.iret C d4_47 (by simp) rfl (by decide) (by decide) ⟨rfl, rfl⟩

theorem own_q (x : Int32) : ∃ q : Nat, ((x &&& (7 : Int32)) % (5 : Int32)).toInt = (q : Int) ∧ q ≤ 4 := by
  have e1 : (x &&& 7).toInt = x.toInt % (2 ^ 3 : Nat) := c_mask x 7 3 (by decide) (by decide)
  generalize (x &&& 7) = z at *
  have e2 := (c_irem z 5 5 rfl).1 (by omega)
  exact ⟨(z.toInt % 5).toNat, by rw [e2]; omega, by omega⟩
theorem own_d {z : Int32} {q : Nat} (c : Int32) (hz : z.toInt = (q : Int)) (hc : 5 ≤ c.toInt ∧ c.toInt ≤ 6) (hq : q ≤ 4) : (c - z).toInt = c.toInt - q := by
  have a := c_isub c z
  have r := rng32 (c - z)
  omega
theorem own_nz {z : Int32} {q : Nat} (c : Int32) (hz : z.toInt = (q : Int)) (hc : 5 ≤ c.toInt ∧ c.toInt ≤ 6) (hq : q ≤ 4) : c - z ≠ 0 := fun e => by
  have a := own_d c hz hc hq
  rw [e] at a
  have z0 : (0 : Int32).toInt = 0 := rfl
  omega
theorem own_i (x c : Int32) {z : Int32} {q : Nat} (hz : z.toInt = (q : Int)) (hc : 5 ≤ c.toInt ∧ c.toInt ≤ 6) (hq : q ≤ 4) : ∃ i : Nat, ((x &&& (2147483647 : Int32)) % (c - z)).toInt = (i : Int) ∧ (i : Int) + q < c.toInt := by
  have e1 : (x &&& 2147483647).toInt = x.toInt % (2 ^ 31 : Nat) := c_mask x 2147483647 31 (by decide) (by decide)
  generalize (x &&& 2147483647) = y at *
  have d := own_d c hz hc hq
  have e2 := ((c_iremV y (c - z)).1 (by omega) (by omega))
  exact ⟨(y % (c - z)).toInt.toNat, by omega, by omega⟩
theorem own_H1 (S O : List Int32) (hS : S.length = 4) (hO : O.length = 5) {i q j t : Nat} (hi : i + q ≤ 4) (hj : j + q ≤ 5) (h1 : j ≤ t) (h2 : t < j + q) : i + t - j < S.length ∧ ((O.map Value.int).take j ++ ((S.map Value.int).drop i).take q ++ (O.map Value.int).drop (j + q))[t]? = some (.int (S.getD (i + t - j) 0)) := by
  refine ⟨by omega, ?_⟩
  have l1 : ((O.map Value.int).take j).length = j := by simp; omega
  have l2 : (((S.map Value.int).drop i).take q).length = q := by simp; omega
  rw [List.getElem?_append_left (by rw [List.length_append, l1, l2]; omega), List.getElem?_append_right (by omega), l1, List.getElem?_take_of_lt (by omega), List.getElem?_drop]
  have : i + (t - j) = i + t - j := by omega
  rw [this]
  exact own_at (by omega)
theorem own_H2 (S O : List Int32) (hS : S.length = 4) (hO : O.length = 5) {i q j t : Nat} (hi : i + q ≤ 4) (hj : j + q ≤ 5) (ht : t < 5) (h1 : ¬ (j ≤ t ∧ t < j + q)) : t < O.length ∧ ((O.map Value.int).take j ++ ((S.map Value.int).drop i).take q ++ (O.map Value.int).drop (j + q))[t]? = some (.int (O.getD t 0)) := by
  refine ⟨by omega, ?_⟩
  have l1 : ((O.map Value.int).take j).length = j := by simp; omega
  have l2 : (((S.map Value.int).drop i).take q).length = q := by simp; omega
  by_cases h2 : t < j
  · rw [List.getElem?_append_left (by rw [List.length_append, l1, l2]; omega), List.getElem?_append_left (by omega), List.getElem?_take_of_lt h2]
    exact own_at (by omega)
  · rw [List.getElem?_append_right (by rw [List.length_append, l1, l2]; omega), List.length_append, l1, l2, List.getElem?_drop]
    have : j + q + (t - (j + q)) = t := by omega
    rw [this]
    exact own_at (by omega)
theorem pf_0 : plainFor x = true := by first | exact plainFor_of_name (by first | (simp [plainName, overriddenIn]; done) | decide +kernel) | decide +kernel
theorem ef_0 (m : MethodId) (p0 : Int32) (p1 : Int64) (p2 : Int32) (p3 : Int32) (p4 : Int32) : entryFrame m #[(.int p0), (.long p1), (.int p2), (.int p3), (.int p4)] maxLocals = mkF m 0 #[.val (.int p0), .val (.long p1), .second, .val (.int p2), .val (.int p3), .val (.int p4), .unset, .unset, .unset, .unset, .unset, .unset, .unset, .unset, .unset] [] := by first | (simp [entryFrame, mkF, argsToLocals, Value.category, maxLocals]; done) | rfl
theorem pd_2 : parseMethodDescriptor "([BII[BI)I" = some ⟨[(.array .byte), .int, .int, (.array .byte), .int], some .int⟩ := by decide +kernel
theorem pd_3 : parseMethodDescriptor "([B[B[BIIII)Z" = some ⟨[(.array .byte), (.array .byte), (.array .byte), .int, .int, .int, .int], some .boolean⟩ := by decide +kernel
set_option maxRecDepth 65536 in
set_option maxHeartbeats 40000000 in
theorem con_0 (l : Launch) (Z : State) (a0 : Array Value) (hw : ∀ d ∈ tables_1, d.before a0 Z = true) (h0 : Heap) (n0 : Nat) (p0 : Int32) (p1 : Int64) (p2 : Int32) (p3 : Int32) (p4 : Int32)  (Z0 : n0 ≤ h0.size) : Con l Z x code maxLocals ret room_1 #[(.int p0), (.long p1), (.int p2), (.int p3), (.int p4)] h0 n0 (fun v _ => v = some (.int 1)) := by
  refine Con.of pf_0 (fun m => ef_0 m p0 p1 p2 p3 p4) ?_
  intro p e s m below meth c C
  refine W.iloadN C at_0 rfl ?_
  refine W.bipush C (7 : Int32) at_1 rfl ?_
  refine W.iand C at_3 ?_
  refine W.iconst C (5 : Int32) at_4 rfl ?_
  refine W.irem C at_5 (by decide) ?_
  obtain ⟨q, hq, hq4⟩ := own_q p2
  generalize ((p2 &&& (7 : Int32)) % (5 : Int32)) = z6 at *
  refine W.istore C #[.val (.int p0), .val (.long p1), .second, .val (.int p2), .val (.int p3), .val (.int p4), .val (.int z6), .unset, .unset, .unset, .unset, .unset, .unset, .unset, .unset] at_6 rfl ?_
  refine W.iload C at_8 rfl ?_
  refine W.ldcI C (v := (2147483647 : Int32)) at_10 (tkw hw 0 rfl) ?_
  refine W.iand C at_12 ?_
  refine W.iconst C (5 : Int32) at_13 rfl ?_
  refine W.iload C at_14 rfl ?_
  refine W.isub C at_16 ?_
  refine W.irem C at_17 (own_nz 5 hq (by decide) hq4) ?_
  obtain ⟨i, hi, hi4⟩ := own_i p3 5 hq (by decide) hq4
  generalize ((p3 &&& (2147483647 : Int32)) % ((5 : Int32) - z6)) = z7 at *
  refine W.istore C #[.val (.int p0), .val (.long p1), .second, .val (.int p2), .val (.int p3), .val (.int p4), .val (.int z6), .val (.int z7), .unset, .unset, .unset, .unset, .unset, .unset, .unset] at_18 rfl ?_
  refine W.iload C at_20 rfl ?_
  refine W.ldcI C (v := (2147483647 : Int32)) at_22 (tkw hw 0 rfl) ?_
  refine W.iand C at_24 ?_
  refine W.bipush C (6 : Int32) at_25 rfl ?_
  refine W.iload C at_27 rfl ?_
  refine W.isub C at_29 ?_
  refine W.irem C at_30 (own_nz 6 hq (by decide) hq4) ?_
  obtain ⟨j, hj, hj4⟩ := own_i p4 6 hq (by decide) hq4
  generalize ((p4 &&& (2147483647 : Int32)) % ((6 : Int32) - z6)) = z8 at *
  have e5 : (5 : Int32).toInt = 5 := rfl
  have e6 : (6 : Int32).toInt = 6 := rfl
  refine W.istore C #[.val (.int p0), .val (.long p1), .second, .val (.int p2), .val (.int p3), .val (.int p4), .val (.int z6), .val (.int z7), .val (.int z8), .unset, .unset, .unset, .unset, .unset, .unset] at_31 rfl ?_
  refine W.iconst C (4 : Int32) at_33 rfl ?_
  refine W.newP C 4 4 at_34 (tkw hw 1 rfl) rfl (Nat.le_refl _) (by decide) 1 4 rfl rfl (by decide) (by decide) ?_
  intro a1 h2 ha1 Ea1 La1
  have ge_a1 : n0 ≤ a1 := by rw [ha1]; exact Z0
  replace Z0 := Nat.le_trans Z0 Ea1.1
  replace La1 : Al Z h2 a1 .byte [(.int (0 : Int32)), (.int (0 : Int32)), (.int (0 : Int32)), (.int (0 : Int32))] := La1
  refine W.astore C #[.val (.int p0), .val (.long p1), .second, .val (.int p2), .val (.int p3), .val (.int p4), .val (.int z6), .val (.int z7), .val (.int z8), .val (.ref a1), .unset, .unset, .unset, .unset, .unset] at_36 rfl rfl ?_
  refine W.aload C at_38 rfl rfl ?_
  refine W.iconst C (0 : Int32) at_40 rfl ?_
  refine W.iloadN C at_41 rfl ?_
  refine W.i2b C at_42 ?_
  refine W.bastoreI C 0 at_43 La1 rfl (show (0 : Nat) < 4 by decide) ge_a1 ?_
  intro h3 U4 La1_
  replace Z0 := Nat.le_trans Z0 (Nat.le_of_eq (U4.size).symm)
  replace La1 : Al Z h3 a1 .byte [(.int ((p0).toInt8.toInt32)), (.int (0 : Int32)), (.int (0 : Int32)), (.int (0 : Int32))] := La1_
  refine W.aload C at_44 rfl rfl ?_
  refine W.iconst C (1 : Int32) at_46 rfl ?_
  refine W.iloadN C at_47 rfl ?_
  refine W.bipush C (8 : Int32) at_48 rfl ?_
  refine W.iushr C at_50 ?_
  refine W.i2b C at_51 ?_
  refine W.bastoreI C 1 at_52 La1 rfl (show (1 : Nat) < 4 by decide) ge_a1 ?_
  intro h5 U6 La1_
  replace Z0 := Nat.le_trans Z0 (Nat.le_of_eq (U6.size).symm)
  replace La1 : Al Z h5 a1 .byte [(.int ((p0).toInt8.toInt32)), (.int ((((p0).toUInt32 >>> ((8 : Int32) &&& 31).toUInt32).toInt32).toInt8.toInt32)), (.int (0 : Int32)), (.int (0 : Int32))] := La1_
  refine W.aload C at_53 rfl rfl ?_
  refine W.iconst C (2 : Int32) at_55 rfl ?_
  refine W.iloadN C at_56 rfl ?_
  refine W.bipush C (16 : Int32) at_57 rfl ?_
  refine W.iushr C at_59 ?_
  refine W.i2b C at_60 ?_
  refine W.bastoreI C 2 at_61 La1 rfl (show (2 : Nat) < 4 by decide) ge_a1 ?_
  intro h7 U8 La1_
  replace Z0 := Nat.le_trans Z0 (Nat.le_of_eq (U8.size).symm)
  replace La1 : Al Z h7 a1 .byte [(.int ((p0).toInt8.toInt32)), (.int ((((p0).toUInt32 >>> ((8 : Int32) &&& 31).toUInt32).toInt32).toInt8.toInt32)), (.int ((((p0).toUInt32 >>> ((16 : Int32) &&& 31).toUInt32).toInt32).toInt8.toInt32)), (.int (0 : Int32))] := La1_
  refine W.aload C at_62 rfl rfl ?_
  refine W.iconst C (3 : Int32) at_64 rfl ?_
  refine W.iloadN C at_65 rfl ?_
  refine W.bipush C (24 : Int32) at_66 rfl ?_
  refine W.iushr C at_68 ?_
  refine W.i2b C at_69 ?_
  refine W.bastoreI C 3 at_70 La1 rfl (show (3 : Nat) < 4 by decide) ge_a1 ?_
  intro h9 U10 La1_
  replace Z0 := Nat.le_trans Z0 (Nat.le_of_eq (U10.size).symm)
  replace La1 : Al Z h9 a1 .byte [(.int ((p0).toInt8.toInt32)), (.int ((((p0).toUInt32 >>> ((8 : Int32) &&& 31).toUInt32).toInt32).toInt8.toInt32)), (.int ((((p0).toUInt32 >>> ((16 : Int32) &&& 31).toUInt32).toInt32).toInt8.toInt32)), (.int ((((p0).toUInt32 >>> ((24 : Int32) &&& 31).toUInt32).toInt32).toInt8.toInt32))] := La1_
  refine W.iconst C (5 : Int32) at_71 rfl ?_
  refine W.newP C 5 5 at_72 (tkw hw 1 rfl) rfl (Nat.le_refl _) (by decide) 2 9 rfl rfl (by decide) (by decide) ?_
  intro a11 h12 ha11 Ea11 La11
  have ne_a1_a11 : a1 ≠ a11 := Nat.ne_of_lt (by rw [ha11]; exact La1.lt)
  have ge_a11 : n0 ≤ a11 := by rw [ha11]; exact Z0
  replace Z0 := Nat.le_trans Z0 Ea11.1
  replace La1 := La1.ext Ea11
  replace La11 : Al Z h12 a11 .byte [(.int (0 : Int32)), (.int (0 : Int32)), (.int (0 : Int32)), (.int (0 : Int32)), (.int (0 : Int32))] := La11
  refine W.astore C #[.val (.int p0), .val (.long p1), .second, .val (.int p2), .val (.int p3), .val (.int p4), .val (.int z6), .val (.int z7), .val (.int z8), .val (.ref a1), .val (.ref a11), .unset, .unset, .unset, .unset] at_74 rfl rfl ?_
  refine W.iconst C (5 : Int32) at_76 rfl ?_
  refine W.newP C 5 5 at_77 (tkw hw 1 rfl) rfl (Nat.le_refl _) (by decide) 3 14 rfl rfl (by decide) (by decide) ?_
  intro a13 h14 ha13 Ea13 La13
  have ne_a1_a13 : a1 ≠ a13 := Nat.ne_of_lt (by rw [ha13]; exact La1.lt)
  have ne_a11_a13 : a11 ≠ a13 := Nat.ne_of_lt (by rw [ha13]; exact La11.lt)
  have ge_a13 : n0 ≤ a13 := by rw [ha13]; exact Z0
  replace Z0 := Nat.le_trans Z0 Ea13.1
  replace La1 := La1.ext Ea13
  replace La11 := La11.ext Ea13
  replace La13 : Al Z h14 a13 .byte [(.int (0 : Int32)), (.int (0 : Int32)), (.int (0 : Int32)), (.int (0 : Int32)), (.int (0 : Int32))] := La13
  refine W.astore C #[.val (.int p0), .val (.long p1), .second, .val (.int p2), .val (.int p3), .val (.int p4), .val (.int z6), .val (.int z7), .val (.int z8), .val (.ref a1), .val (.ref a11), .val (.ref a13), .unset, .unset, .unset] at_79 rfl rfl ?_
  refine W.aload C at_81 rfl rfl ?_
  refine W.iconst C (0 : Int32) at_83 rfl ?_
  refine W.lloadN C at_84 rfl ?_
  refine W.l2i C at_85 ?_
  refine W.i2b C at_86 ?_
  refine W.bastoreI C 0 at_87 La11 rfl (show (0 : Nat) < 5 by decide) ge_a11 ?_
  intro h15 U16 La11_
  replace Z0 := Nat.le_trans Z0 (Nat.le_of_eq (U16.size).symm)
  replace La1 := La1.other U16 ne_a1_a11
  replace La13 := La13.other U16 (Ne.symm ne_a11_a13)
  replace La11 : Al Z h15 a11 .byte [(.int ((((p1).toInt32)).toInt8.toInt32)), (.int (0 : Int32)), (.int (0 : Int32)), (.int (0 : Int32)), (.int (0 : Int32))] := La11_
  refine W.aload C at_88 rfl rfl ?_
  refine W.iconst C (1 : Int32) at_90 rfl ?_
  refine W.lloadN C at_91 rfl ?_
  refine W.bipush C (8 : Int32) at_92 rfl ?_
  refine W.lushr C at_94 ?_
  refine W.l2i C at_95 ?_
  refine W.i2b C at_96 ?_
  refine W.bastoreI C 1 at_97 La11 rfl (show (1 : Nat) < 5 by decide) ge_a11 ?_
  intro h17 U18 La11_
  replace Z0 := Nat.le_trans Z0 (Nat.le_of_eq (U18.size).symm)
  replace La1 := La1.other U18 ne_a1_a11
  replace La13 := La13.other U18 (Ne.symm ne_a11_a13)
  replace La11 : Al Z h17 a11 .byte [(.int ((((p1).toInt32)).toInt8.toInt32)), (.int ((((((p1).toUInt64 >>> ((8 : Int32) &&& 0x3f).toInt64.toUInt64).toInt64).toInt32)).toInt8.toInt32)), (.int (0 : Int32)), (.int (0 : Int32)), (.int (0 : Int32))] := La11_
  refine W.aload C at_98 rfl rfl ?_
  refine W.iconst C (2 : Int32) at_100 rfl ?_
  refine W.lloadN C at_101 rfl ?_
  refine W.bipush C (16 : Int32) at_102 rfl ?_
  refine W.lushr C at_104 ?_
  refine W.l2i C at_105 ?_
  refine W.i2b C at_106 ?_
  refine W.bastoreI C 2 at_107 La11 rfl (show (2 : Nat) < 5 by decide) ge_a11 ?_
  intro h19 U20 La11_
  replace Z0 := Nat.le_trans Z0 (Nat.le_of_eq (U20.size).symm)
  replace La1 := La1.other U20 ne_a1_a11
  replace La13 := La13.other U20 (Ne.symm ne_a11_a13)
  replace La11 : Al Z h19 a11 .byte [(.int ((((p1).toInt32)).toInt8.toInt32)), (.int ((((((p1).toUInt64 >>> ((8 : Int32) &&& 0x3f).toInt64.toUInt64).toInt64).toInt32)).toInt8.toInt32)), (.int ((((((p1).toUInt64 >>> ((16 : Int32) &&& 0x3f).toInt64.toUInt64).toInt64).toInt32)).toInt8.toInt32)), (.int (0 : Int32)), (.int (0 : Int32))] := La11_
  refine W.aload C at_108 rfl rfl ?_
  refine W.iconst C (3 : Int32) at_110 rfl ?_
  refine W.lloadN C at_111 rfl ?_
  refine W.bipush C (24 : Int32) at_112 rfl ?_
  refine W.lushr C at_114 ?_
  refine W.l2i C at_115 ?_
  refine W.i2b C at_116 ?_
  refine W.bastoreI C 3 at_117 La11 rfl (show (3 : Nat) < 5 by decide) ge_a11 ?_
  intro h21 U22 La11_
  replace Z0 := Nat.le_trans Z0 (Nat.le_of_eq (U22.size).symm)
  replace La1 := La1.other U22 ne_a1_a11
  replace La13 := La13.other U22 (Ne.symm ne_a11_a13)
  replace La11 : Al Z h21 a11 .byte [(.int ((((p1).toInt32)).toInt8.toInt32)), (.int ((((((p1).toUInt64 >>> ((8 : Int32) &&& 0x3f).toInt64.toUInt64).toInt64).toInt32)).toInt8.toInt32)), (.int ((((((p1).toUInt64 >>> ((16 : Int32) &&& 0x3f).toInt64.toUInt64).toInt64).toInt32)).toInt8.toInt32)), (.int ((((((p1).toUInt64 >>> ((24 : Int32) &&& 0x3f).toInt64.toUInt64).toInt64).toInt32)).toInt8.toInt32)), (.int (0 : Int32))] := La11_
  refine W.aload C at_118 rfl rfl ?_
  refine W.iconst C (4 : Int32) at_120 rfl ?_
  refine W.lloadN C at_121 rfl ?_
  refine W.bipush C (32 : Int32) at_122 rfl ?_
  refine W.lushr C at_124 ?_
  refine W.l2i C at_125 ?_
  refine W.i2b C at_126 ?_
  refine W.bastoreI C 4 at_127 La11 rfl (show (4 : Nat) < 5 by decide) ge_a11 ?_
  intro h23 U24 La11_
  replace Z0 := Nat.le_trans Z0 (Nat.le_of_eq (U24.size).symm)
  replace La1 := La1.other U24 ne_a1_a11
  replace La13 := La13.other U24 (Ne.symm ne_a11_a13)
  replace La11 : Al Z h23 a11 .byte [(.int ((((p1).toInt32)).toInt8.toInt32)), (.int ((((((p1).toUInt64 >>> ((8 : Int32) &&& 0x3f).toInt64.toUInt64).toInt64).toInt32)).toInt8.toInt32)), (.int ((((((p1).toUInt64 >>> ((16 : Int32) &&& 0x3f).toInt64.toUInt64).toInt64).toInt32)).toInt8.toInt32)), (.int ((((((p1).toUInt64 >>> ((24 : Int32) &&& 0x3f).toInt64.toUInt64).toInt64).toInt32)).toInt8.toInt32)), (.int ((((((p1).toUInt64 >>> ((32 : Int32) &&& 0x3f).toInt64.toUInt64).toInt64).toInt32)).toInt8.toInt32))] := La11_
  refine W.aload C at_128 rfl rfl ?_
  refine W.iconst C (0 : Int32) at_130 rfl ?_
  refine W.aload C at_131 rfl rfl ?_
  refine W.iconst C (0 : Int32) at_133 rfl ?_
  refine W.baload C 0 at_134 La11 rfl rfl ?_
  refine W.bastoreI C 0 at_135 La13 rfl (show (0 : Nat) < 5 by decide) ge_a13 ?_
  intro h25 U26 La13_
  replace Z0 := Nat.le_trans Z0 (Nat.le_of_eq (U26.size).symm)
  replace La1 := La1.other U26 ne_a1_a13
  replace La11 := La11.other U26 ne_a11_a13
  replace La13 : Al Z h25 a13 .byte [(.int ((((p1).toInt32)).toInt8.toInt32)), (.int (0 : Int32)), (.int (0 : Int32)), (.int (0 : Int32)), (.int (0 : Int32))] := La13_
  refine W.aload C at_136 rfl rfl ?_
  refine W.iconst C (1 : Int32) at_138 rfl ?_
  refine W.aload C at_139 rfl rfl ?_
  refine W.iconst C (1 : Int32) at_141 rfl ?_
  refine W.baload C 1 at_142 La11 rfl rfl ?_
  refine W.bastoreI C 1 at_143 La13 rfl (show (1 : Nat) < 5 by decide) ge_a13 ?_
  intro h27 U28 La13_
  replace Z0 := Nat.le_trans Z0 (Nat.le_of_eq (U28.size).symm)
  replace La1 := La1.other U28 ne_a1_a13
  replace La11 := La11.other U28 ne_a11_a13
  replace La13 : Al Z h27 a13 .byte [(.int ((((p1).toInt32)).toInt8.toInt32)), (.int ((((((p1).toUInt64 >>> ((8 : Int32) &&& 0x3f).toInt64.toUInt64).toInt64).toInt32)).toInt8.toInt32)), (.int (0 : Int32)), (.int (0 : Int32)), (.int (0 : Int32))] := La13_
  refine W.aload C at_144 rfl rfl ?_
  refine W.iconst C (2 : Int32) at_146 rfl ?_
  refine W.aload C at_147 rfl rfl ?_
  refine W.iconst C (2 : Int32) at_149 rfl ?_
  refine W.baload C 2 at_150 La11 rfl rfl ?_
  refine W.bastoreI C 2 at_151 La13 rfl (show (2 : Nat) < 5 by decide) ge_a13 ?_
  intro h29 U30 La13_
  replace Z0 := Nat.le_trans Z0 (Nat.le_of_eq (U30.size).symm)
  replace La1 := La1.other U30 ne_a1_a13
  replace La11 := La11.other U30 ne_a11_a13
  replace La13 : Al Z h29 a13 .byte [(.int ((((p1).toInt32)).toInt8.toInt32)), (.int ((((((p1).toUInt64 >>> ((8 : Int32) &&& 0x3f).toInt64.toUInt64).toInt64).toInt32)).toInt8.toInt32)), (.int ((((((p1).toUInt64 >>> ((16 : Int32) &&& 0x3f).toInt64.toUInt64).toInt64).toInt32)).toInt8.toInt32)), (.int (0 : Int32)), (.int (0 : Int32))] := La13_
  refine W.aload C at_152 rfl rfl ?_
  refine W.iconst C (3 : Int32) at_154 rfl ?_
  refine W.aload C at_155 rfl rfl ?_
  refine W.iconst C (3 : Int32) at_157 rfl ?_
  refine W.baload C 3 at_158 La11 rfl rfl ?_
  refine W.bastoreI C 3 at_159 La13 rfl (show (3 : Nat) < 5 by decide) ge_a13 ?_
  intro h31 U32 La13_
  replace Z0 := Nat.le_trans Z0 (Nat.le_of_eq (U32.size).symm)
  replace La1 := La1.other U32 ne_a1_a13
  replace La11 := La11.other U32 ne_a11_a13
  replace La13 : Al Z h31 a13 .byte [(.int ((((p1).toInt32)).toInt8.toInt32)), (.int ((((((p1).toUInt64 >>> ((8 : Int32) &&& 0x3f).toInt64.toUInt64).toInt64).toInt32)).toInt8.toInt32)), (.int ((((((p1).toUInt64 >>> ((16 : Int32) &&& 0x3f).toInt64.toUInt64).toInt64).toInt32)).toInt8.toInt32)), (.int ((((((p1).toUInt64 >>> ((24 : Int32) &&& 0x3f).toInt64.toUInt64).toInt64).toInt32)).toInt8.toInt32)), (.int (0 : Int32))] := La13_
  refine W.aload C at_160 rfl rfl ?_
  refine W.iconst C (4 : Int32) at_162 rfl ?_
  refine W.aload C at_163 rfl rfl ?_
  refine W.iconst C (4 : Int32) at_165 rfl ?_
  refine W.baload C 4 at_166 La11 rfl rfl ?_
  refine W.bastoreI C 4 at_167 La13 rfl (show (4 : Nat) < 5 by decide) ge_a13 ?_
  intro h33 U34 La13_
  replace Z0 := Nat.le_trans Z0 (Nat.le_of_eq (U34.size).symm)
  replace La1 := La1.other U34 ne_a1_a13
  replace La11 := La11.other U34 ne_a11_a13
  replace La13 : Al Z h33 a13 .byte [(.int ((((p1).toInt32)).toInt8.toInt32)), (.int ((((((p1).toUInt64 >>> ((8 : Int32) &&& 0x3f).toInt64.toUInt64).toInt64).toInt32)).toInt8.toInt32)), (.int ((((((p1).toUInt64 >>> ((16 : Int32) &&& 0x3f).toInt64.toUInt64).toInt64).toInt32)).toInt8.toInt32)), (.int ((((((p1).toUInt64 >>> ((24 : Int32) &&& 0x3f).toInt64.toUInt64).toInt64).toInt32)).toInt8.toInt32)), (.int ((((((p1).toUInt64 >>> ((32 : Int32) &&& 0x3f).toInt64.toUInt64).toInt64).toInt32)).toInt8.toInt32))] := La13_
  refine W.new C at_168 (tkw hw 2 rfl) (tkw hw 3 rfl) (tkw hw 4 rfl) 4 14 rfl rfl (by decide) (by decide) ?_
  intro a35 h36 ha35 Ea35 Aa35 Da35
  have ne_a1_a35 : a1 ≠ a35 := Nat.ne_of_lt (by rw [ha35]; exact La1.lt)
  have ne_a11_a35 : a11 ≠ a35 := Nat.ne_of_lt (by rw [ha35]; exact La11.lt)
  have ne_a13_a35 : a13 ≠ a35 := Nat.ne_of_lt (by rw [ha35]; exact La13.lt)
  have ge_a35 : n0 ≤ a35 := by rw [ha35]; exact Z0
  replace Z0 := Nat.le_trans Z0 Ea35.1
  replace La1 := La1.ext Ea35
  replace La11 := La11.ext Ea35
  replace La13 := La13.ext Ea35
  refine W.dup C at_171 rfl ?_
  refine W.callI C (y' := y1) at_172 rfl (tkw hw 5 rfl) (tkw hw 6 rfl) (tkw hw 4 rfl) (tkw hw 7 rfl) (by decide) (a := a35) (argsL := []) (rest := [(.ref a35)]) rfl (lenOf pd_0 rfl) (con_1 l Z a0 hw h36 n0 a35 Z0) 1 4 14 rfl rfl rfl (by decide) (by decide) (by decide) (by decide) rfl ?_
  rintro _ _ ⟨rfl, rfl⟩
  refine W.astore C #[.val (.int p0), .val (.long p1), .second, .val (.int p2), .val (.int p3), .val (.int p4), .val (.int z6), .val (.int z7), .val (.int z8), .val (.ref a1), .val (.ref a11), .val (.ref a13), .val (.ref a35), .unset, .unset] at_175 rfl rfl ?_
  refine W.aload C at_177 rfl rfl ?_
  refine W.aload C at_179 rfl rfl ?_
  refine W.iload C at_181 rfl ?_
  refine W.iload C at_183 rfl ?_
  refine W.aload C at_185 rfl rfl ?_
  refine W.iload C at_187 rfl ?_
  refine W.callV C (y' := y3) at_189 (tkw hw 11 rfl) (tkw hw 12 rfl) (tkw hw 14 rfl) (tkw hw 13 rfl) (tkw hw 4 rfl) (tkw hw 15 rfl) (by decide) Aa35 (argsL := [(.ref a1), (.int z7), (.int z6), (.ref a13), (.int z8)]) (rest := []) rfl (lenOf pd_2 rfl) (con_3 l Z a0 hw h36 n0 a35 a1 z7 z6 a13 z8 [(.int ((p0).toInt8.toInt32)), (.int ((((p0).toUInt32 >>> ((8 : Int32) &&& 31).toUInt32).toInt32).toInt8.toInt32)), (.int ((((p0).toUInt32 >>> ((16 : Int32) &&& 31).toUInt32).toInt32).toInt8.toInt32)), (.int ((((p0).toUInt32 >>> ((24 : Int32) &&& 31).toUInt32).toInt32).toInt8.toInt32))] [(.int ((((p1).toInt32)).toInt8.toInt32)), (.int ((((((p1).toUInt64 >>> ((8 : Int32) &&& 0x3f).toInt64.toUInt64).toInt64).toInt32)).toInt8.toInt32)), (.int ((((((p1).toUInt64 >>> ((16 : Int32) &&& 0x3f).toInt64.toUInt64).toInt64).toInt32)).toInt8.toInt32)), (.int ((((((p1).toUInt64 >>> ((24 : Int32) &&& 0x3f).toInt64.toUInt64).toInt64).toInt32)).toInt8.toInt32)), (.int ((((((p1).toUInt64 >>> ((32 : Int32) &&& 0x3f).toInt64.toUInt64).toInt64).toInt32)).toInt8.toInt32))] i q j La1 La13 (by intro v hv; simp only [List.mem_cons, List.not_mem_nil, or_false] at hv; rcases hv with rfl | rfl | rfl | rfl <;> exact fits_nar_byte _) (by intro v hv; simp only [List.mem_cons, List.not_mem_nil, or_false] at hv; rcases hv with rfl | rfl | rfl | rfl | rfl <;> exact fits_nar_byte _) (show (4 : Nat) < 2147483648 by decide) (show (5 : Nat) < 2147483648 by decide) hi hq hj (show i + q ≤ 4 by omega) (show j + q ≤ 5 by omega) ge_a13 Z0) 0 4 14 rfl rfl rfl (by decide) (by decide) (by decide) (by decide) rfl ?_
  rintro _ h37 ⟨rfl, Kc, La13'⟩
  replace Z0 := Nat.le_trans Z0 Kc.1
  replace La1 := La1.keep Kc (ninS ne_a1_a13 nin0)
  replace La11 := La11.keep Kc (ninS ne_a11_a13 nin0)
  replace Aa35 := Aa35.keep Kc
  refine W.istore C #[.val (.int p0), .val (.long p1), .second, .val (.int p2), .val (.int p3), .val (.int p4), .val (.int z6), .val (.int z7), .val (.int z8), .val (.ref a1), .val (.ref a11), .val (.ref a13), .val (.ref a35), .val (.int z6), .unset] at_192 rfl ?_
  refine W.iload C at_194 rfl ?_
  refine W.iload C at_196 rfl ?_
  refine W.icmp_eq C 203 at_198 rfl (fun b1 => ?_) (fun b1 => absurd rfl b1)
  refine W.aload C at_203 rfl rfl ?_
  refine W.iconst C (0 : Int32) at_205 rfl ?_
  refine W.baload C 0 at_206 La1 rfl rfl ?_
  refine W.iloadN C at_207 rfl ?_
  refine W.i2b C at_208 ?_
  refine W.icmp_ne C 252 at_209 rfl (fun b2 => absurd rfl b2) (fun b2 => ?_)
  refine W.aload C at_212 rfl rfl ?_
  refine W.iconst C (1 : Int32) at_214 rfl ?_
  refine W.baload C 1 at_215 La1 rfl rfl ?_
  refine W.iloadN C at_216 rfl ?_
  refine W.bipush C (8 : Int32) at_217 rfl ?_
  refine W.iushr C at_219 ?_
  refine W.i2b C at_220 ?_
  refine W.icmp_ne C 252 at_221 rfl (fun b3 => absurd rfl b3) (fun b3 => ?_)
  refine W.aload C at_224 rfl rfl ?_
  refine W.iconst C (2 : Int32) at_226 rfl ?_
  refine W.baload C 2 at_227 La1 rfl rfl ?_
  refine W.iloadN C at_228 rfl ?_
  refine W.bipush C (16 : Int32) at_229 rfl ?_
  refine W.iushr C at_231 ?_
  refine W.i2b C at_232 ?_
  refine W.icmp_ne C 252 at_233 rfl (fun b4 => absurd rfl b4) (fun b4 => ?_)
  refine W.aload C at_236 rfl rfl ?_
  refine W.iconst C (3 : Int32) at_238 rfl ?_
  refine W.baload C 3 at_239 La1 rfl rfl ?_
  refine W.iloadN C at_240 rfl ?_
  refine W.bipush C (24 : Int32) at_241 rfl ?_
  refine W.iushr C at_243 ?_
  refine W.i2b C at_244 ?_
  refine W.icmp_ne C 252 at_245 rfl (fun b5 => absurd rfl b5) (fun b5 => ?_)
  refine W.iconst C (1 : Int32) at_248 rfl ?_
  refine W.goto C 253 at_249 rfl ?_
  refine W.istore C #[.val (.int p0), .val (.long p1), .second, .val (.int p2), .val (.int p3), .val (.int p4), .val (.int z6), .val (.int z7), .val (.int z8), .val (.ref a1), .val (.ref a11), .val (.ref a13), .val (.ref a35), .val (.int z6), .val (.int (1 : Int32))] at_253 rfl ?_
  refine W.iload C at_255 rfl ?_
  refine W.if_eq C 359 at_257 rfl (fun b => absurd b (by decide)) (fun _ => ?_)
  refine W.aload C at_260 rfl rfl ?_
  refine W.aload C at_262 rfl rfl ?_
  refine W.aload C at_264 rfl rfl ?_
  refine W.iconst C (0 : Int32) at_266 rfl ?_
  refine W.iload C at_267 rfl ?_
  refine W.iload C at_269 rfl ?_
  refine W.iload C at_271 rfl ?_
  obtain ⟨OL, eO⟩ : ∃ L : List Int32, L = [((((p1).toInt32)).toInt8.toInt32), ((((((p1).toUInt64 >>> ((8 : Int32) &&& 0x3f).toInt64.toUInt64).toInt64).toInt32)).toInt8.toInt32), ((((((p1).toUInt64 >>> ((16 : Int32) &&& 0x3f).toInt64.toUInt64).toInt64).toInt32)).toInt8.toInt32), ((((((p1).toUInt64 >>> ((24 : Int32) &&& 0x3f).toInt64.toUInt64).toInt64).toInt32)).toInt8.toInt32), ((((((p1).toUInt64 >>> ((32 : Int32) &&& 0x3f).toInt64.toUInt64).toInt64).toInt32)).toInt8.toInt32)] := ⟨_, rfl⟩
  obtain ⟨SL, eS⟩ : ∃ L : List Int32, L = [((p0).toInt8.toInt32), ((((p0).toUInt32 >>> ((8 : Int32) &&& 31).toUInt32).toInt32).toInt8.toInt32), ((((p0).toUInt32 >>> ((16 : Int32) &&& 31).toUInt32).toInt32).toInt8.toInt32), ((((p0).toUInt32 >>> ((24 : Int32) &&& 31).toUInt32).toInt32).toInt8.toInt32)] := ⟨_, rfl⟩
  have lO : OL.length = 5 := by rw [eO]; rfl
  have lS : SL.length = 4 := by rw [eS]; rfl
  have A1 : Al Z h37 a13 .byte ((OL.map Value.int).take j ++ ((SL.map Value.int).drop i).take q ++ (OL.map Value.int).drop (j + q)) := by rw [eO, eS]; exact La13'
  have A2 : Al Z h37 a11 .byte (OL.map Value.int) := by rw [eO]; exact La11
  have A3 : Al Z h37 a1 .byte (SL.map Value.int) := by rw [eS]; exact La1
  refine W.callS C (y' := y4) at_273 (tkw hw 20 rfl) (tkw hw 21 rfl) (tkw hw 22 rfl) (tkw hw 23 rfl) (by decide) (argsL := [(.ref a13), (.ref a11), (.ref a1), (.int (0 : Int32)), (.int z7), (.int z6), (.int z8)]) (rest := []) rfl (lenOf pd_3 rfl) (con_4 l Z a0 hw h37 n0 a13 a11 a1 (0 : Int32) z7 z6 z8 _ OL SL 0 i q j A1 A2 A3 rfl hi hq hj (by omega) (own_H1 SL OL lS lO (by omega) (by omega)) (own_H2 SL OL lS lO (by omega) (by omega) (by decide)) Z0) 0 4 14 rfl rfl rfl (by decide) (by decide) (by decide) (by decide) rfl ?_
  rintro _ _ ⟨rfl, rfl⟩
  refine W.if_eq C 359 at_276 rfl (fun b => absurd b (by decide)) (fun _ => ?_)
  refine W.aload C at_279 rfl rfl ?_
  refine W.aload C at_281 rfl rfl ?_
  refine W.aload C at_283 rfl rfl ?_
  refine W.iconst C (1 : Int32) at_285 rfl ?_
  refine W.iload C at_286 rfl ?_
  refine W.iload C at_288 rfl ?_
  refine W.iload C at_290 rfl ?_
  refine W.callS C (y' := y4) at_292 (tkw hw 20 rfl) (tkw hw 21 rfl) (tkw hw 22 rfl) (tkw hw 23 rfl) (by decide) (argsL := [(.ref a13), (.ref a11), (.ref a1), (.int (1 : Int32)), (.int z7), (.int z6), (.int z8)]) (rest := []) rfl (lenOf pd_3 rfl) (con_4 l Z a0 hw h37 n0 a13 a11 a1 (1 : Int32) z7 z6 z8 _ OL SL 1 i q j A1 A2 A3 rfl hi hq hj (by omega) (own_H1 SL OL lS lO (by omega) (by omega)) (own_H2 SL OL lS lO (by omega) (by omega) (by decide)) Z0) 0 4 14 rfl rfl rfl (by decide) (by decide) (by decide) (by decide) rfl ?_
  rintro _ _ ⟨rfl, rfl⟩
  refine W.if_eq C 359 at_295 rfl (fun b => absurd b (by decide)) (fun _ => ?_)
  refine W.aload C at_298 rfl rfl ?_
  refine W.aload C at_300 rfl rfl ?_
  refine W.aload C at_302 rfl rfl ?_
  refine W.iconst C (2 : Int32) at_304 rfl ?_
  refine W.iload C at_305 rfl ?_
  refine W.iload C at_307 rfl ?_
  refine W.iload C at_309 rfl ?_
  refine W.callS C (y' := y4) at_311 (tkw hw 20 rfl) (tkw hw 21 rfl) (tkw hw 22 rfl) (tkw hw 23 rfl) (by decide) (argsL := [(.ref a13), (.ref a11), (.ref a1), (.int (2 : Int32)), (.int z7), (.int z6), (.int z8)]) (rest := []) rfl (lenOf pd_3 rfl) (con_4 l Z a0 hw h37 n0 a13 a11 a1 (2 : Int32) z7 z6 z8 _ OL SL 2 i q j A1 A2 A3 rfl hi hq hj (by omega) (own_H1 SL OL lS lO (by omega) (by omega)) (own_H2 SL OL lS lO (by omega) (by omega) (by decide)) Z0) 0 4 14 rfl rfl rfl (by decide) (by decide) (by decide) (by decide) rfl ?_
  rintro _ _ ⟨rfl, rfl⟩
  refine W.if_eq C 359 at_314 rfl (fun b => absurd b (by decide)) (fun _ => ?_)
  refine W.aload C at_317 rfl rfl ?_
  refine W.aload C at_319 rfl rfl ?_
  refine W.aload C at_321 rfl rfl ?_
  refine W.iconst C (3 : Int32) at_323 rfl ?_
  refine W.iload C at_324 rfl ?_
  refine W.iload C at_326 rfl ?_
  refine W.iload C at_328 rfl ?_
  refine W.callS C (y' := y4) at_330 (tkw hw 20 rfl) (tkw hw 21 rfl) (tkw hw 22 rfl) (tkw hw 23 rfl) (by decide) (argsL := [(.ref a13), (.ref a11), (.ref a1), (.int (3 : Int32)), (.int z7), (.int z6), (.int z8)]) (rest := []) rfl (lenOf pd_3 rfl) (con_4 l Z a0 hw h37 n0 a13 a11 a1 (3 : Int32) z7 z6 z8 _ OL SL 3 i q j A1 A2 A3 rfl hi hq hj (by omega) (own_H1 SL OL lS lO (by omega) (by omega)) (own_H2 SL OL lS lO (by omega) (by omega) (by decide)) Z0) 0 4 14 rfl rfl rfl (by decide) (by decide) (by decide) (by decide) rfl ?_
  rintro _ _ ⟨rfl, rfl⟩
  refine W.if_eq C 359 at_333 rfl (fun b => absurd b (by decide)) (fun _ => ?_)
  refine W.aload C at_336 rfl rfl ?_
  refine W.aload C at_338 rfl rfl ?_
  refine W.aload C at_340 rfl rfl ?_
  refine W.iconst C (4 : Int32) at_342 rfl ?_
  refine W.iload C at_343 rfl ?_
  refine W.iload C at_345 rfl ?_
  refine W.iload C at_347 rfl ?_
  refine W.callS C (y' := y4) at_349 (tkw hw 20 rfl) (tkw hw 21 rfl) (tkw hw 22 rfl) (tkw hw 23 rfl) (by decide) (argsL := [(.ref a13), (.ref a11), (.ref a1), (.int (4 : Int32)), (.int z7), (.int z6), (.int z8)]) (rest := []) rfl (lenOf pd_3 rfl) (con_4 l Z a0 hw h37 n0 a13 a11 a1 (4 : Int32) z7 z6 z8 _ OL SL 4 i q j A1 A2 A3 rfl hi hq hj (by omega) (own_H1 SL OL lS lO (by omega) (by omega)) (own_H2 SL OL lS lO (by omega) (by omega) (by decide)) Z0) 0 4 14 rfl rfl rfl (by decide) (by decide) (by decide) (by decide) rfl ?_
  rintro _ _ ⟨rfl, rfl⟩
  refine W.if_eq C 359 at_352 rfl (fun b => absurd b (by decide)) (fun _ => ?_)
  refine W.iconst C (1 : Int32) at_355 rfl ?_
  refine W.goto C 360 at_356 rfl ?_
  exact W.iret C at_360 (by simp) rfl (by decide) (by decide) rfl

set_option maxRecDepth 65536 in
set_option maxHeartbeats 40000000 in
theorem comes_1 {Post : Tables → Env → Array Value → State → Outcome → State → Prop} (hpost : ∀ tb e args s v u, (limb_1_1.after args s (.returned v) u = true ∧ limb_1_2.after args s (.returned v) u = true ∧ True) → FrameEnd s (.returned v) u (Jvm.fieldLocs frame_1_writes args s ++ Jvm.arrayLocs frame_1_arrays args s ++ Jvm.staticLocs frame_1_statics s) 16 128 → Post tb e args s (.returned v) u) :
    ArmFor flags0 classFile x code maxLocals ret World_1 tables_1 room_1 Calls_1 rest_1 Pre_1 Post := by
  intro l hfl _ _ p e ha hc hk s m args below hf hA hF happ hP
  obtain ⟨hcalls, hrest, hpre⟩ := hP
  obtain ⟨-, -, -, hnamed, -, -, -, hat⟩ := (Spec.applies_iff hf).mp happ
  obtain ⟨hg, hn⟩ := and_e (Cond.before_iff.mp (show (Jvm.Cond.and given_1 narrow_1).before args s = true from hpre))
  obtain ⟨gc, g0⟩ := and_e hg
  obtain ⟨i0h, g1⟩ := and_e g0
  obtain ⟨i1h, g2⟩ := and_e g1
  obtain ⟨i2h, g3⟩ := and_e g2
  obtain ⟨i3h, g4⟩ := and_e g3
  obtain ⟨w0, w1, w2, w3, w4, rfl⟩ : ∃ w0 w1 w2 w3 w4 : Value, args = #[w0, w1, w2, w3, w4] := by
    have hs : args.size = 5 := by simpa [Cond.value, given_1] using gc
    obtain ⟨L⟩ := args
    match L, hs with
    | [w0, w1, w2, w3, w4], _ => exact ⟨w0, w1, w2, w3, w4, rfl⟩
  have hw := fun d (hd : d ∈ tables_1) => atoms_spec (ws := Jvm.Cond.code x code maxLocals ret :: tables_1) hat d (List.mem_cons_of_mem _ hd)
  have hfit : Fit s := fun {y c} hc i hi => by
    obtain ⟨ha, rfl⟩ := Array.getElem?_eq_some_iff.mp hc
    have q := List.all_eq_true.mp ((Array.all_eq_true_iff_forall_mem.mp hF) _ (Array.getElem_mem ha)) i (List.mem_range.mpr hi)
    simpa [Array.getElem?_eq_getElem hi] using q
  obtain ⟨i0, ei0⟩ := is_v i0h
  obtain rfl : w0 = (.int i0) := Option.some.inj ei0
  obtain ⟨i1, ei1⟩ := isL_v i1h
  obtain rfl : w1 = (.long i1) := Option.some.inj ei1
  obtain ⟨i2, ei2⟩ := is_v i2h
  obtain rfl : w2 = (.int i2) := Option.some.inj ei2
  obtain ⟨i3, ei3⟩ := is_v i3h
  obtain rfl : w3 = (.int i3) := Option.some.inj ei3
  obtain ⟨i4, ei4⟩ := is_v g4
  obtain rfl : w4 = (.int i4) := Option.some.inj ei4
  obtain ⟨n, o, h1, h2, h3, _, L, rfl, ⟨rfl, N⟩, hq⟩ := (con_0 l s _ hw s.heap s.heap.size i0 i1 i2 i3 i4 (Nat.le_refl _)) tables_1 p e ha hc hk s m _ below hf ((Spec.applies_iff_loose hf).mp happ).1 ⟨rfl, State.Warmed39.refl s, rfl⟩ trivial
  refine ⟨n, _, h1, h2, h3, hpost _ _ _ _ _ _ ⟨Cond.after_iff.mpr rfl, Cond.after_iff.mpr (eq_i res_at (Term.int_eval (1)) rfl), trivial⟩ ⟨hq.1, hq.2.1, (hq.2.2.sift fun y hy => Or.inr (N y hy)).mono (by decide) (by decide)⟩⟩
theorem main_1_1 : Claimed_1_1 := comes_1 fun _ _ _ _ _ _ h hF => ⟨h.1, hF⟩
theorem main_1_2 : Claimed_1_2 := comes_1 fun _ _ _ _ _ _ h hF => ⟨h.2.1, hF⟩
end Jvm.Pilot.@@N@@
namespace Jvm.Pilot.@@N@@
open Jvm Jvm.ClassFile Sem Op Lib Jvm.Free Jvm.Stand Jvm.Pilot.@@N@@.Jvm.D
/-! MADE BY PROGRAM (witnessworld.py) out of the Statement's table words and the real class files: 11 classes; the members and pool entries that the words name. The judged class is class 1, her method 1. -/
namespace start1
open Jvm.ClassFile
def u (s : String) : CpInfo := .utf8 (stringToUtf16 s)
/-- a pool by its gaps: so many unusable entries, then the entry; so many at the end -/
def gap : Nat → List CpInfo → List CpInfo
  | 0, r => r
  | n + 1, r => .unusable :: gap n r
def poolList (es : List (Nat × CpInfo)) (last : Nat) : List CpInfo := es.foldr (fun e r => gap e.1 (e.2 :: r)) (gap last [])
def pool (es : List (Nat × CpInfo)) (last : Nat) : Array CpInfo := ⟨poolList es last⟩
def fileOf (pool : Array CpInfo) (this : Nat) (attrs : Array Attribute := #[]) (ms : Array MethodInfo := #[]) (fl : Nat := 33) (sup : Nat := 0) (ifs : Array Nat := #[]) (fds : Array FieldInfo := #[]) : ClassFile where
  minorVersion := 0
  majorVersion := 65
  constantPool := pool
  accessFlags := fl
  thisClass := this
  superClass := sup
  interfaces := ifs
  fields := fds
  methods := ms
  attributes := attrs
def plain (name : String) (sup : Option ClassId) : Class where
  name := name
  kind := .ordinary
  loader := none
  accessFlags := 33
  super := sup
  interfaces := #[]
  cf := none
  fields := #[]
  methods := #[]
  instanceTypes := #[]
  staticTypes := #[]
  resolved := #[]
  callSites := []
  init := .initialized
  statics := none
  mirror := none

def pool0 : Array CpInfo := pool [(5, u "<init>"), (0, u "()V"), (1, .class_ 10), (1, u "java/lang/Object")] 113

def k0c0 : Code := { maxStack := 0, maxLocals := 1, code := object_method_1_code, exceptionTable := #[], attributes := #[] }
def k0m0 : Method := { name := "<init>", desc := "()V", sig := { parameters := [], returnType := none }, accessFlags := 1, code := some k0c0 }
/-- java/lang/Object -/
def k0 : Class := { plain "java/lang/Object" none with
  accessFlags := 33
  interfaces := #[]
  cf := some (fileOf pool0 8 #[] #[{ accessFlags := 1, nameIndex := 5, descriptorIndex := 6, attributes := #[] }] 33 0 #[] #[])
  fields := #[]
  methods := #[k0m0]
  instanceTypes := #[]
  staticTypes := #[]
  resolved := Array.replicate 124 none
  statics := none }

def pool1 : Array CpInfo := pool [(2, .class_ 4), (0, .nameAndType 5 6), (0, u "java/lang/Object"), (0, u "<init>"), (0, u "()V"), (0, .integer 2147483647), (0, .class_ 9), (0, u "com/example/tightwire/tightwire/NoopCompressor"), (0, .methodref 8 3), (0, .methodref 8 12), (0, .nameAndType 13 14), (0, u "compress"), (0, u "([BII[BI)I"), (0, .methodref 16 17), (0, .class_ 18), (0, .nameAndType 19 20), (0, u "com/example/tightwire/tightwire/NoopCompressorCompressPinLaw"), (0, u "at"), (0, u "([B[B[BIIII)Z"), (2, u "law"), (0, u "(IJIII)Z")] 5

def k1m0 : Method := { name := "<init>", desc := "()V", sig := { parameters := [], returnType := none }, accessFlags := 1, code := none }
def k1c1 : Code := { maxStack := 7, maxLocals := 15, code := code, exceptionTable := #[], attributes := #[] }
def k1m1 : Method := { name := "law", desc := "(IJIII)Z", sig := { parameters := [.int, .long, .int, .int, .int], returnType := some .boolean }, accessFlags := 9, code := some k1c1 }
def k1c2 : Code := { maxStack := 3, maxLocals := 8, code := method_3_code, exceptionTable := #[], attributes := #[] }
def k1m2 : Method := { name := "at", desc := "([B[B[BIIII)Z", sig := { parameters := [(.array .byte), (.array .byte), (.array .byte), .int, .int, .int, .int], returnType := some .boolean }, accessFlags := 10, code := some k1c2 }
/-- com/example/tightwire/tightwire/NoopCompressorCompressPinLaw -/
def k1 : Class := { plain "com/example/tightwire/tightwire/NoopCompressorCompressPinLaw" (some 0) with
  accessFlags := 49
  interfaces := #[]
  cf := some (fileOf pool1 16 #[] #[{ accessFlags := 1, nameIndex := 5, descriptorIndex := 6, attributes := #[] }, { accessFlags := 9, nameIndex := 23, descriptorIndex := 24, attributes := #[] }, { accessFlags := 10, nameIndex := 19, descriptorIndex := 20, attributes := #[] }] 49 2 #[] #[])
  fields := #[]
  methods := #[k1m0, k1m1, k1m2]
  instanceTypes := #[]
  staticTypes := #[]
  resolved := Array.replicate 30 none
  statics := none }

def pool2 : Array CpInfo := pool [(1, .class_ 2), (0, u "com/example/tightwire/tightwire/Compressor"), (0, .class_ 4), (0, u "java/lang/Object")] 12

/-- com/example/tightwire/tightwire/Compressor -/
def k2 : Class := { plain "com/example/tightwire/tightwire/Compressor" (some 0) with
  accessFlags := 1537
  interfaces := #[]
  cf := some (fileOf pool2 1 #[] #[] 1537 3 #[] #[])
  fields := #[]
  methods := #[]
  instanceTypes := #[]
  staticTypes := #[]
  resolved := Array.replicate 17 none
  statics := none }

def pool3 : Array CpInfo := pool [(1, .methodref 2 3), (0, .class_ 4), (0, .nameAndType 5 6), (0, u "java/lang/Object"), (0, u "<init>"), (0, u "()V"), (2, .methodref 10 11), (0, .class_ 12), (0, .nameAndType 13 14), (0, u "java/lang/System"), (0, u "arraycopy"), (0, u "(Ljava/lang/Object;ILjava/lang/Object;II)V"), (0, .class_ 16), (0, u "com/example/tightwire/tightwire/NoopCompressor$Copy"), (3, .class_ 21), (0, u "com/example/tightwire/tightwire/NoopCompressor"), (0, .class_ 23), (0, u "com/example/tightwire/tightwire/Compressor"), (6, u "compress"), (0, u "([BII[BI)I")] 9

def k3c0 : Code := { maxStack := 1, maxLocals := 1, code := prog_6_method_1_code, exceptionTable := #[], attributes := #[] }
def k3m0 : Method := { name := "<init>", desc := "()V", sig := { parameters := [], returnType := none }, accessFlags := 0, code := some k3c0 }
def k3c1 : Code := { maxStack := 5, maxLocals := 6, code := prog_6_method_4_code, exceptionTable := #[], attributes := #[] }
def k3m1 : Method := { name := "compress", desc := "([BII[BI)I", sig := { parameters := [(.array .byte), .int, .int, (.array .byte), .int], returnType := some .int }, accessFlags := 1, code := some k3c1 }
/-- com/example/tightwire/tightwire/NoopCompressor -/
def k3 : Class := { plain "com/example/tightwire/tightwire/NoopCompressor" (some 0) with
  accessFlags := 48
  interfaces := #[2]
  cf := some (fileOf pool3 20 #[.nestMembers #[15]] #[{ accessFlags := 0, nameIndex := 5, descriptorIndex := 6, attributes := #[] }, { accessFlags := 1, nameIndex := 30, descriptorIndex := 31, attributes := #[] }] 48 2 #[22] #[])
  fields := #[]
  methods := #[k3m0, k3m1]
  instanceTypes := #[]
  staticTypes := #[]
  resolved := Array.replicate 41 none
  statics := none }

def pool4 : Array CpInfo := pool [(2, .class_ 4), (1, u "java/lang/Object"), (0, u "<init>"), (0, u "()V"), (1, .class_ 10), (1, u "java/lang/System"), (0, u "allowSecurityManager"), (0, u "I"), (16, u "cons"), (0, u "Ljava/io/Console;"), (77, .class_ 110), (1, u "java/lang/System$CallersHolder"), (43, u "initialErrStream"), (0, u "Ljava/io/PrintStream;"), (19, u "security"), (0, u "Ljava/lang/SecurityManager;"), (31, .class_ 209), (0, u "java/lang/System$1"), (7, u "props"), (0, u "Ljava/util/Properties;"), (2, u "lineSeparator"), (0, u "Ljava/lang/String;"), (96, .class_ 321), (1, u "java/lang/System$LoggerFinder"), (5, .class_ 328), (0, u "java/lang/System$Logger"), (67, u "err"), (2, u "out"), (91, u "notSupportedJnuEncoding"), (15, u "in"), (17, u "initialIn"), (0, u "Ljava/io/InputStream;"), (35, u "bootLayer"), (0, u "Ljava/lang/ModuleLayer;"), (99, .class_ 664), (0, u "java/lang/System$2"), (9, u "NEVER"), (2, u "MAYBE"), (49, u "arraycopy"), (0, u "(Ljava/lang/Object;ILjava/lang/Object;II)V"), (72, .class_ 802), (0, u "java/lang/System$Logger$Level")] 31

def k4m0 : Method := { name := "<init>", desc := "()V", sig := { parameters := [], returnType := none }, accessFlags := 2, code := none }
def k4m1 : Method := { name := "arraycopy", desc := "(Ljava/lang/Object;ILjava/lang/Object;II)V", sig := { parameters := [(.object "java/lang/Object"), .int, (.object "java/lang/Object"), .int, .int], returnType := none }, accessFlags := 265, code := none }
/-- java/lang/System -/
def k4 : Class := { plain "java/lang/System" (some 0) with
  accessFlags := 49
  interfaces := #[]
  cf := some (fileOf pool4 8 #[.nestMembers #[319, 327, 801, 108, 663, 208]] #[{ accessFlags := 2, nameIndex := 5, descriptorIndex := 6, attributes := #[] }, { accessFlags := 265, nameIndex := 727, descriptorIndex := 728, attributes := #[] }] 49 2 #[] #[{ accessFlags := 25, nameIndex := 507, descriptorIndex := 526, attributes := #[] }, { accessFlags := 25, nameIndex := 399, descriptorIndex := 155, attributes := #[] }, { accessFlags := 25, nameIndex := 396, descriptorIndex := 155, attributes := #[] }, { accessFlags := 10, nameIndex := 525, descriptorIndex := 526, attributes := #[] }, { accessFlags := 26, nameIndex := 674, descriptorIndex := 12, attributes := #[] }, { accessFlags := 26, nameIndex := 677, descriptorIndex := 12, attributes := #[] }, { accessFlags := 10, nameIndex := 11, descriptorIndex := 12, attributes := #[] }, { accessFlags := 74, nameIndex := 175, descriptorIndex := 176, attributes := #[] }, { accessFlags := 10, nameIndex := 491, descriptorIndex := 222, attributes := #[] }, { accessFlags := 74, nameIndex := 29, descriptorIndex := 30, attributes := #[] }, { accessFlags := 74, nameIndex := 154, descriptorIndex := 155, attributes := #[] }, { accessFlags := 10, nameIndex := 217, descriptorIndex := 218, attributes := #[] }, { accessFlags := 10, nameIndex := 221, descriptorIndex := 222, attributes := #[] }, { accessFlags := 8, nameIndex := 562, descriptorIndex := 563, attributes := #[] }])
  fields := #[{ name := "in", type := (.object "java/io/InputStream"), accessFlags := 25, slot := 0, constantValue := 0 }, { name := "out", type := (.object "java/io/PrintStream"), accessFlags := 25, slot := 1, constantValue := 0 }, { name := "err", type := (.object "java/io/PrintStream"), accessFlags := 25, slot := 2, constantValue := 0 }, { name := "initialIn", type := (.object "java/io/InputStream"), accessFlags := 10, slot := 3, constantValue := 0 }, { name := "NEVER", type := .int, accessFlags := 26, slot := 4, constantValue := 0 }, { name := "MAYBE", type := .int, accessFlags := 26, slot := 5, constantValue := 0 }, { name := "allowSecurityManager", type := .int, accessFlags := 10, slot := 6, constantValue := 0 }, { name := "security", type := (.object "java/lang/SecurityManager"), accessFlags := 74, slot := 7, constantValue := 0 }, { name := "notSupportedJnuEncoding", type := (.object "java/lang/String"), accessFlags := 10, slot := 8, constantValue := 0 }, { name := "cons", type := (.object "java/io/Console"), accessFlags := 74, slot := 9, constantValue := 0 }, { name := "initialErrStream", type := (.object "java/io/PrintStream"), accessFlags := 74, slot := 10, constantValue := 0 }, { name := "props", type := (.object "java/util/Properties"), accessFlags := 10, slot := 11, constantValue := 0 }, { name := "lineSeparator", type := (.object "java/lang/String"), accessFlags := 10, slot := 12, constantValue := 0 }, { name := "bootLayer", type := (.object "java/lang/ModuleLayer"), accessFlags := 8, slot := 13, constantValue := 0 }]
  methods := #[k4m0, k4m1]
  instanceTypes := #[]
  staticTypes := #[(.object "java/io/InputStream"), (.object "java/io/PrintStream"), (.object "java/io/PrintStream"), (.object "java/io/InputStream"), .int, .int, .int, (.object "java/lang/SecurityManager"), (.object "java/lang/String"), (.object "java/io/Console"), (.object "java/io/PrintStream"), (.object "java/util/Properties"), (.object "java/lang/String"), (.object "java/lang/ModuleLayer")]
  resolved := Array.replicate 834 none
  statics := none }

def pool5 : Array CpInfo := pool [(1, u "java/lang/Cloneable"), (0, .class_ 1), (0, u "java/lang/Object"), (0, .class_ 3)] 3

/-- java/lang/Cloneable -/
def k5 : Class := { plain "java/lang/Cloneable" (some 0) with
  accessFlags := 1537
  interfaces := #[]
  cf := some (fileOf pool5 2 #[] #[] 1537 4 #[] #[])
  fields := #[]
  methods := #[]
  instanceTypes := #[]
  staticTypes := #[]
  resolved := Array.replicate 8 none
  statics := none }

def pool6 : Array CpInfo := pool [(1, u "java/io/Serializable"), (0, .class_ 1), (0, u "java/lang/Object"), (0, .class_ 3)] 3

/-- java/io/Serializable -/
def k6 : Class := { plain "java/io/Serializable" (some 0) with
  accessFlags := 1537
  interfaces := #[]
  cf := some (fileOf pool6 2 #[] #[] 1537 4 #[] #[])
  fields := #[]
  methods := #[]
  instanceTypes := #[]
  staticTypes := #[]
  resolved := Array.replicate 8 none
  statics := none }

/-- the primitive byte -/
def k7 : Class := { plain "byte" none with kind := .primitive 'B', accessFlags := 0x411 }
/-- [B -/
def k8 : Class := { plain "[B" (some 0) with kind := .array 7 .byte, interfaces := #[5, 6], accessFlags := 1041 }

/-- the primitive int -/
def k9 : Class := { plain "int" none with kind := .primitive 'I', accessFlags := 0x411 }
/-- [I -/
def k10 : Class := { plain "[I" (some 0) with kind := .array 9 .int, interfaces := #[5, 6], accessFlags := 1041 }

def heap : Heap := #[]
def classes : Array Class := #[k0, k1, k2, k3, k4, k5, k6, k7, k8, k9, k10]
def interned : List (Array UInt16 × Addr) := []
def slotsUsed : Nat := 0
def theMethod : MethodId := ⟨1, 1⟩
def args0 : Array Value := #[.int 5, .long 70000, .int 3, .int 7, .int 9]
def aboutOver (below : List Frame) : State where
  vm := { classes := classes, interned := interned.toArray }
  heap := heap
  slotsUsed := slotsUsed
  threads := #[{ frames := .invoking theMethod args0 :: below }]
def below0 : List Frame := [.native { method := ⟨0, 0⟩, args := #[] }]
def about1 : State := aboutOver below0
def p0 : Program := .bare "" "" ""
def e0 : Env := launch0.env 0 0 0
theorem w_frames : about1.frames = Frame.invoking theMethod args0 :: below0 := rfl
set_option maxRecDepth 65536 in
theorem w_args : argsFit about1.vm theMethod args0 = true := by decide +kernel
set_option maxRecDepth 65536 in
theorem w_heap : heapFits about1 = true := by decide +kernel
set_option maxRecDepth 65536 in
theorem w_runnable : about1.curStatus? = some .runnable := by decide +kernel
set_option maxRecDepth 65536 in
theorem w_alone : about1.alone = true := by decide +kernel
set_option maxRecDepth 65536 in
theorem w_named : about1.methodNamed? x = some theMethod := by decide +kernel
set_option maxRecDepth 65536 in
theorem w_hears : about1.hears theMethod below0 = true := by decide +kernel
set_option maxRecDepth 65536 in
theorem w_ripe : about1.ripe theMethod args0 below0 = true := by decide +kernel
theorem w_running : about1.status = .running := rfl
set_option maxRecDepth 65536 in
theorem w_room : about1.hasRoom e0.platform room_1 = true :=
  launch0.hasRoom_least _ room_1 (by decide +kernel) (by decide +kernel) (by decide +kernel) (by decide +kernel) (by decide +kernel) (by decide +kernel)
theorem allAtoms_all (ts : List Jvm.Cond) (a : Array Jvm.Value) (st : Jvm.State) : (allAtoms ts).before a st = ts.all (fun c => c.before a st) := by
  induction ts with
  | nil => rfl
  | cons c t ih =>
    show (Jvm.Cond.and c (allAtoms t)).before a st = _
    rw [Jvm.Cond.before_and, ih, List.all_cons]
def words1 : List Jvm.Cond := Jvm.Cond.code x code maxLocals ret :: tables_1
/-- a 'code' word, met by the world's own term for the bytes: nothing is compared byte by byte -/
theorem code_word {y : MethodName} {bytes : ByteArray} {mx : Nat} {rt : Option FieldType} {a : Array Value} {s : State} {m : MethodId} {meth : Method} {c : Code} (h1 : s.methodNamed? y = some m) (h2 : s.vm.method? m = some meth) (h3 : meth.code = some c) (h4 : c.code = bytes)
    (h5 : (c.maxLocals == mx && c.exceptionTable.isEmpty && decide (c.maxStack ≤ mostOperands) && decide (meth.sig.returnType = rt) && !meth.locks && decide (parseMethodDescriptor y.desc = some meth.sig)) = true) : (Jvm.Cond.code y bytes mx rt).before a s = true := by
  simp only [Bool.and_eq_true, beq_iff_eq, Bool.not_eq_true', decide_eq_true_eq] at h5
  obtain ⟨⟨⟨⟨⟨g1, g2⟩, g3⟩, g4⟩, g5⟩, g6⟩ := h5
  simp [Cond.before, Cond.holds, Cond.value, h1, h2, h3, h4, g1, g2, g3, g4, g5, g6]
def isCode : Jvm.Cond → Bool
  | .code _ _ _ _ => true
  | _ => false
theorem all_split {L : List Jvm.Cond} {P : Jvm.Cond → Bool} (h1 : L.all (fun c => isCode c || P c) = true) (h2 : ∀ c ∈ L.filter isCode, P c = true) : L.all P = true := by
  refine List.all_eq_true.mpr fun c hc => ?_
  have h := List.all_eq_true.mp h1 c hc
  rcases Bool.eq_false_or_eq_true (isCode c) with hi | hi
  · exact h2 c (List.mem_filter.mpr ⟨hc, hi⟩)
  · simpa [hi] using h
set_option maxRecDepth 65536 in
theorem w_c0 : (Jvm.Cond.code x code maxLocals ret).before args0 about1 = true := code_word (m := ⟨1, 1⟩) (meth := k1m1) (c := k1c1) (by decide +kernel) rfl rfl rfl (by decide +kernel)
set_option maxRecDepth 65536 in
theorem w_c1 : (Jvm.Cond.code ({ cls := "com/example/tightwire/tightwire/NoopCompressor", name := "<init>", desc := "()V" } : Jvm.MethodName) prog_6_method_1_code (1 : Nat) (Option.none : Option Jvm.ClassFile.FieldType)).before args0 about1 = true := code_word (m := ⟨3, 0⟩) (meth := k3m0) (c := k3c0) (by decide +kernel) rfl rfl rfl (by decide +kernel)
set_option maxRecDepth 65536 in
theorem w_c2 : (Jvm.Cond.code ({ cls := "java/lang/Object", name := "<init>", desc := "()V" } : Jvm.MethodName) object_method_1_code (1 : Nat) (Option.none : Option Jvm.ClassFile.FieldType)).before args0 about1 = true := code_word (m := ⟨0, 0⟩) (meth := k0m0) (c := k0c0) (by decide +kernel) rfl rfl rfl (by decide +kernel)
set_option maxRecDepth 65536 in
theorem w_c3 : (Jvm.Cond.code ({ cls := "com/example/tightwire/tightwire/NoopCompressor", name := "compress", desc := "([BII[BI)I" } : Jvm.MethodName) prog_6_method_4_code (6 : Nat) (Option.some Jvm.ClassFile.FieldType.int)).before args0 about1 = true := code_word (m := ⟨3, 1⟩) (meth := k3m1) (c := k3c1) (by decide +kernel) rfl rfl rfl (by decide +kernel)
set_option maxRecDepth 65536 in
theorem w_c4 : (Jvm.Cond.code ({ cls := "com/example/tightwire/tightwire/NoopCompressorCompressPinLaw", name := "at", desc := "([B[B[BIIII)Z" } : Jvm.MethodName) method_3_code (8 : Nat) (Option.some Jvm.ClassFile.FieldType.boolean)).before args0 about1 = true := code_word (m := ⟨1, 2⟩) (meth := k1m2) (c := k1c2) (by decide +kernel) rfl rfl rfl (by decide +kernel)
def codes1 : List Jvm.Cond := [Jvm.Cond.code x code maxLocals ret, Jvm.Cond.code ({ cls := "com/example/tightwire/tightwire/NoopCompressor", name := "<init>", desc := "()V" } : Jvm.MethodName) prog_6_method_1_code (1 : Nat) (Option.none : Option Jvm.ClassFile.FieldType), Jvm.Cond.code ({ cls := "java/lang/Object", name := "<init>", desc := "()V" } : Jvm.MethodName) object_method_1_code (1 : Nat) (Option.none : Option Jvm.ClassFile.FieldType), Jvm.Cond.code ({ cls := "com/example/tightwire/tightwire/NoopCompressor", name := "compress", desc := "([BII[BI)I" } : Jvm.MethodName) prog_6_method_4_code (6 : Nat) (Option.some Jvm.ClassFile.FieldType.int), Jvm.Cond.code ({ cls := "com/example/tightwire/tightwire/NoopCompressorCompressPinLaw", name := "at", desc := "([B[B[BIIII)Z" } : Jvm.MethodName) method_3_code (8 : Nat) (Option.some Jvm.ClassFile.FieldType.boolean)]
set_option maxRecDepth 65536 in
theorem codes_eq : words1.filter isCode = codes1 := rfl
theorem w_codes : ∀ c ∈ words1.filter isCode, c.before args0 about1 = true := by
  rw [codes_eq]
  intro c hc
  simp only [codes1, List.mem_cons, List.not_mem_nil, or_false] at hc
  rcases hc with rfl | rfl | rfl | rfl | rfl
  · exact w_c0
  · exact w_c1
  · exact w_c2
  · exact w_c3
  · exact w_c4
set_option maxRecDepth 65536 in
theorem w_t1 : (words1.take 24).all (fun c => isCode c || c.before args0 about1) = true := by decide +kernel
set_option maxRecDepth 65536 in
theorem w_t2 : (words1.drop 24).all (fun c => isCode c || c.before args0 about1) = true := by decide +kernel
theorem w_tables : (allAtoms (Jvm.Cond.code x code maxLocals ret :: tables_1)).before args0 about1 = true := by
  rw [allAtoms_all]
  show words1.all (fun c => c.before args0 about1) = true
  refine all_split ?_ w_codes
  rw [← List.take_append_drop 24 words1, List.all_append, w_t1, w_t2]
  rfl
set_option maxRecDepth 65536 in
theorem w_case : (Jvm.Cond.and given_1 narrow_1).before args0 about1 = true := by decide +kernel
theorem w_applies : (headSpec (Jvm.Cond.code x code maxLocals ret :: tables_1) room_1).applies x e0.platform about1 = true :=
  (Spec.applies_iff w_frames).mpr ⟨w_running, w_runnable, w_alone, w_named, w_hears, w_ripe, w_room, w_tables⟩
theorem atStart : AtStart classFile x code maxLocals ret World_1 tables_1 room_1 Calls_1 rest_1 Pre_1 launch0 p0 e0 about1 theMethod args0 below0 :=
  ⟨lists_1, trivial, launch0.admits_env _ _ _, launch0.least_env, fairChoices_fair.cas, fairChoices_fair.clock, w_frames, w_args, w_heap, w_applies, trivial, trivial, w_case⟩
end start1
theorem witness_1 : WitnessClaimed_1 := ⟨start1.p0, start1.e0, start1.about1, start1.theMethod, start1.args0, start1.below0, start1.atStart⟩
end Jvm.Pilot.@@N@@
