import JvmDerived
import JvmDerived.Pilot.@@N@@Statement
import JvmDerived.Pilot.@@N@@Code
set_option linter.unusedVariables false
set_option linter.unusedSimpArgs false
namespace Jvm.OwnKit
open Jvm Sem ClassFile Op Lib Jvm.Stand Jvm.Free Jvm.LawKit Jvm.RoadKit
/-- what a body's walk knows of its frame throughout -/
def Cx (p : Program) (s : State) (m : MethodId) (meth : Method) (c : Code) (Z : State) (y : MethodName) (bytes : ByteArray) (ml : Nat) (ret : Option FieldType) : Prop :=
  p.tables.exec = Jvm.exec ∧ Z.Warmed39 s.vm ∧ s.vm.findClass y.cls = some m.cls ∧ c.code = bytes ∧ c.maxLocals = ml ∧ meth.sig.returnType = ret ∧ meth.locks = false ∧ meth.name = y.name
/-- from the heap h, k cells and n slots made so far, the frame at pc with these locals and this stack comes to its end, and Q holds of the result and the last heap -/
def W (p : Program) (l : Launch) (e : Env) (R : Room) (s : State) (m : MethodId) (args : Array Value) (below : List Frame) (meth : Method) (c : Code) (n0 : Nat) (Q : Option Value → Heap → Prop) (kc ks : Nat)
    (k n : Nat) (h : Heap) (pc : Nat) (ls : Array Slot) (st : List Value) : Prop :=
  ∀ (T : State) (locs : List Loc), Stand p l e R s m args below meth c T locs k n → T.heap = h → Fr n0 locs →
    ∃ s₂ o, Steps p.tables e below (T.setTop (mkF m pc ls st)) s₂ ∧ s₂.status = .running ∧ Ended s₂ below o ∧ ∃ v L, o = .returned v ∧ (Q v s₂.heap ∧ Fr n0 L) ∧ FrameEnd s o s₂ L kc ks
/-- a body's contract -/
def Con (l : Launch) (Z : State) (y : MethodName) (bytes : ByteArray) (ml : Nat) (ret : Option FieldType) (rm : Room) (as' : Array Value) (h0 : Heap) (n0 : Nat) (Q : Option Value → Heap → Prop) : Prop :=
  ∀ ws : List Jvm.Cond, MetFree l y (head1 (Jvm.Cond.code y bytes ml ret :: ws) rm) (fun a U => a = as' ∧ Z.Warmed39 U.vm ∧ U.heap = h0) (fun _ _ _ _ _ => True) (fun _ U o U' => ∃ v L, o = .returned v ∧ (Q v U'.heap ∧ Fr n0 L) ∧ FrameEnd U o U' L rm.cells rm.slots)
/-- it returns v and leaves the heap -/
def Pu (v : Option Value) (h : Heap) : Option Value → Heap → Prop := fun v' h' => v' = v ∧ h = h'
section
variable {p : Program} {l : Launch} {e : Env} {R : Room} {s : State} {m : MethodId} {args : Array Value} {below : List Frame} {meth : Method} {c : Code} {Z : State} {y : MethodName} {bytes : ByteArray} {ml : Nat} {ret : Option FieldType} {n0 : Nat} {Q : Option Value → Heap → Prop} {kc ks k n : Nat} {h : Heap} {pc : Nat} {ls : Array Slot} {st : List Value} {a0 : Array Value}
theorem Cx.a (C : Cx p s m meth c Z y bytes ml ret) {pc : Nat} {r : Except ClassFile.DecodeError (ClassFile.Instr × Nat)} (h2 : ClassFile.decode bytes pc = r) : ClassFile.decode c.code pc = r := C.2.2.2.1 ▸ h2
theorem Con.of {rm : Room} {as' : Array Value} {h0 : Heap} (hpn : plainFor y = true) {ls : Array Slot} (hent : ∀ m, entryFrame m as' ml = mkF m 0 ls [])
    (hW : ∀ p e s m below meth c, Cx p s m meth c Z y bytes ml ret → W p l e rm s m as' below meth c n0 Q rm.cells rm.slots 0 0 h0 0 ls []) : Con l Z y bytes ml ret rm as' h0 n0 Q := by
  intro ws
  refine MetFree.of_bodySF hpn hisR ?_
  intro p e s m args below meth c s₁ Bd hml0 hP hK
  obtain ⟨rfl, hZ, hh⟩ := hP
  have X0 : Stand p l e rm s m _ below meth c s₁ [] 0 0 := Stand.of_body Bd
  have e0 : s₁.heap = h0 := by rw [← hh, Bd.state]; rfl
  obtain ⟨s₂, o, h1, h2⟩ := hW p e s m below meth c ⟨Bd.exec, hZ, findClass_of_methodNamed Bd.named, Bd.bytes, hml0, Bd.returns, Bd.notSynchronized, (name_of_methodNamed Bd.named Bd.method).1⟩ s₁ [] X0 e0 (Fr.nil n0)
  exact ⟨s₂, o, castTop (hent m) h1, h2⟩
theorem W.lift {pc' : Nat} {ls' : Array Slot} {st' : List Value} (f : ∀ T target, At T m c below → Steps p.tables e below (T.setTop (mkF m pc' ls' st')) target → Steps p.tables e below (T.setTop (mkF m pc ls st)) target) (K : W p l e R s m args below meth c n0 Q kc ks k n h pc' ls' st') : W p l e R s m args below meth c n0 Q kc ks k n h pc ls st := fun T locs X eT N => by
  obtain ⟨s₂, o, h1, h2⟩ := K T locs X eT N
  exact ⟨s₂, o, f T _ X.here h1, h2⟩
theorem W.heap {h' : Heap} (q : h = h') (K : W p l e R s m args below meth c n0 Q kc ks k n h' pc ls st) : W p l e R s m args below meth c n0 Q kc ks k n h pc ls st := q ▸ K
theorem W.room {k' n' : Nat} (hk : k ≤ k') (hn : n ≤ n') (K : W p l e R s m args below meth c n0 Q kc ks k' n' h pc ls st) : W p l e R s m args below meth c n0 Q kc ks k n h pc ls st := fun T locs X eT N => K T locs ⟨X.admits, X.cas, X.clock, X.frames, X.room, X.hears, X.method, X.code, X.here, X.tail, X.warmed, X.limits, X.bytes, X.same.mono hk hn⟩ eT N
theorem W.iaddV (C : Cx p s m meth c Z y bytes ml ret) {u v : Int32} (z : Int32) (d : decode bytes pc = .ok (.iadd, 1)) (hz : (u + v) = z) (K : W p l e R s m args below meth c n0 Q kc ks k n h (pc + 1) ls (.int z :: st)) : W p l e R s m args below meth c n0 Q kc ks k n h pc ls (.int v :: .int u :: st) :=
  W.lift (fun T t H S => XS.iadd H C.1 rfl (C.a d) rfl (by subst hz; exact S)) K
theorem W.iadd (C : Cx p s m meth c Z y bytes ml ret) {u v : Int32} (d : decode bytes pc = .ok (.iadd, 1)) (K : W p l e R s m args below meth c n0 Q kc ks k n h (pc + 1) ls (.int (u + v) :: st)) : W p l e R s m args below meth c n0 Q kc ks k n h pc ls (.int v :: .int u :: st) :=
  W.lift (fun T t H S => XS.iadd H C.1 rfl (C.a d) rfl S) K
theorem W.isubV (C : Cx p s m meth c Z y bytes ml ret) {u v : Int32} (z : Int32) (d : decode bytes pc = .ok (.isub, 1)) (hz : (u - v) = z) (K : W p l e R s m args below meth c n0 Q kc ks k n h (pc + 1) ls (.int z :: st)) : W p l e R s m args below meth c n0 Q kc ks k n h pc ls (.int v :: .int u :: st) :=
  W.lift (fun T t H S => XS.isub H C.1 rfl (C.a d) rfl (by subst hz; exact S)) K
theorem W.isub (C : Cx p s m meth c Z y bytes ml ret) {u v : Int32} (d : decode bytes pc = .ok (.isub, 1)) (K : W p l e R s m args below meth c n0 Q kc ks k n h (pc + 1) ls (.int (u - v) :: st)) : W p l e R s m args below meth c n0 Q kc ks k n h pc ls (.int v :: .int u :: st) :=
  W.lift (fun T t H S => XS.isub H C.1 rfl (C.a d) rfl S) K
theorem W.imulV (C : Cx p s m meth c Z y bytes ml ret) {u v : Int32} (z : Int32) (d : decode bytes pc = .ok (.imul, 1)) (hz : (u * v) = z) (K : W p l e R s m args below meth c n0 Q kc ks k n h (pc + 1) ls (.int z :: st)) : W p l e R s m args below meth c n0 Q kc ks k n h pc ls (.int v :: .int u :: st) :=
  W.lift (fun T t H S => XS.imul H C.1 rfl (C.a d) rfl (by subst hz; exact S)) K
theorem W.imul (C : Cx p s m meth c Z y bytes ml ret) {u v : Int32} (d : decode bytes pc = .ok (.imul, 1)) (K : W p l e R s m args below meth c n0 Q kc ks k n h (pc + 1) ls (.int (u * v) :: st)) : W p l e R s m args below meth c n0 Q kc ks k n h pc ls (.int v :: .int u :: st) :=
  W.lift (fun T t H S => XS.imul H C.1 rfl (C.a d) rfl S) K
theorem W.iandV (C : Cx p s m meth c Z y bytes ml ret) {u v : Int32} (z : Int32) (d : decode bytes pc = .ok (.iand, 1)) (hz : (u &&& v) = z) (K : W p l e R s m args below meth c n0 Q kc ks k n h (pc + 1) ls (.int z :: st)) : W p l e R s m args below meth c n0 Q kc ks k n h pc ls (.int v :: .int u :: st) :=
  W.lift (fun T t H S => XS.iand H C.1 rfl (C.a d) rfl (by subst hz; exact S)) K
theorem W.iand (C : Cx p s m meth c Z y bytes ml ret) {u v : Int32} (d : decode bytes pc = .ok (.iand, 1)) (K : W p l e R s m args below meth c n0 Q kc ks k n h (pc + 1) ls (.int (u &&& v) :: st)) : W p l e R s m args below meth c n0 Q kc ks k n h pc ls (.int v :: .int u :: st) :=
  W.lift (fun T t H S => XS.iand H C.1 rfl (C.a d) rfl S) K
theorem W.iorV (C : Cx p s m meth c Z y bytes ml ret) {u v : Int32} (z : Int32) (d : decode bytes pc = .ok (.ior, 1)) (hz : (u ||| v) = z) (K : W p l e R s m args below meth c n0 Q kc ks k n h (pc + 1) ls (.int z :: st)) : W p l e R s m args below meth c n0 Q kc ks k n h pc ls (.int v :: .int u :: st) :=
  W.lift (fun T t H S => XS.ior H C.1 rfl (C.a d) rfl (by subst hz; exact S)) K
theorem W.ior (C : Cx p s m meth c Z y bytes ml ret) {u v : Int32} (d : decode bytes pc = .ok (.ior, 1)) (K : W p l e R s m args below meth c n0 Q kc ks k n h (pc + 1) ls (.int (u ||| v) :: st)) : W p l e R s m args below meth c n0 Q kc ks k n h pc ls (.int v :: .int u :: st) :=
  W.lift (fun T t H S => XS.ior H C.1 rfl (C.a d) rfl S) K
theorem W.ixorV (C : Cx p s m meth c Z y bytes ml ret) {u v : Int32} (z : Int32) (d : decode bytes pc = .ok (.ixor, 1)) (hz : (u ^^^ v) = z) (K : W p l e R s m args below meth c n0 Q kc ks k n h (pc + 1) ls (.int z :: st)) : W p l e R s m args below meth c n0 Q kc ks k n h pc ls (.int v :: .int u :: st) :=
  W.lift (fun T t H S => XS.ixor H C.1 rfl (C.a d) rfl (by subst hz; exact S)) K
theorem W.ixor (C : Cx p s m meth c Z y bytes ml ret) {u v : Int32} (d : decode bytes pc = .ok (.ixor, 1)) (K : W p l e R s m args below meth c n0 Q kc ks k n h (pc + 1) ls (.int (u ^^^ v) :: st)) : W p l e R s m args below meth c n0 Q kc ks k n h pc ls (.int v :: .int u :: st) :=
  W.lift (fun T t H S => XS.ixor H C.1 rfl (C.a d) rfl S) K
theorem W.ishlV (C : Cx p s m meth c Z y bytes ml ret) {u v : Int32} (z : Int32) (d : decode bytes pc = .ok (.ishl, 1)) (hz : (u <<< (v &&& 31)) = z) (K : W p l e R s m args below meth c n0 Q kc ks k n h (pc + 1) ls (.int z :: st)) : W p l e R s m args below meth c n0 Q kc ks k n h pc ls (.int v :: .int u :: st) :=
  W.lift (fun T t H S => XS.ishl H C.1 rfl (C.a d) rfl (by subst hz; exact S)) K
theorem W.ishl (C : Cx p s m meth c Z y bytes ml ret) {u v : Int32} (d : decode bytes pc = .ok (.ishl, 1)) (K : W p l e R s m args below meth c n0 Q kc ks k n h (pc + 1) ls (.int (u <<< (v &&& 31)) :: st)) : W p l e R s m args below meth c n0 Q kc ks k n h pc ls (.int v :: .int u :: st) :=
  W.lift (fun T t H S => XS.ishl H C.1 rfl (C.a d) rfl S) K
theorem W.ishrV (C : Cx p s m meth c Z y bytes ml ret) {u v : Int32} (z : Int32) (d : decode bytes pc = .ok (.ishr, 1)) (hz : (u >>> (v &&& 31)) = z) (K : W p l e R s m args below meth c n0 Q kc ks k n h (pc + 1) ls (.int z :: st)) : W p l e R s m args below meth c n0 Q kc ks k n h pc ls (.int v :: .int u :: st) :=
  W.lift (fun T t H S => XS.ishr H C.1 rfl (C.a d) rfl (by subst hz; exact S)) K
theorem W.ishr (C : Cx p s m meth c Z y bytes ml ret) {u v : Int32} (d : decode bytes pc = .ok (.ishr, 1)) (K : W p l e R s m args below meth c n0 Q kc ks k n h (pc + 1) ls (.int (u >>> (v &&& 31)) :: st)) : W p l e R s m args below meth c n0 Q kc ks k n h pc ls (.int v :: .int u :: st) :=
  W.lift (fun T t H S => XS.ishr H C.1 rfl (C.a d) rfl S) K
theorem W.iushrV (C : Cx p s m meth c Z y bytes ml ret) {u v : Int32} (z : Int32) (d : decode bytes pc = .ok (.iushr, 1)) (hz : ((u.toUInt32 >>> (v &&& 31).toUInt32).toInt32) = z) (K : W p l e R s m args below meth c n0 Q kc ks k n h (pc + 1) ls (.int z :: st)) : W p l e R s m args below meth c n0 Q kc ks k n h pc ls (.int v :: .int u :: st) :=
  W.lift (fun T t H S => XS.iushr H C.1 rfl (C.a d) rfl (by subst hz; exact S)) K
theorem W.iushr (C : Cx p s m meth c Z y bytes ml ret) {u v : Int32} (d : decode bytes pc = .ok (.iushr, 1)) (K : W p l e R s m args below meth c n0 Q kc ks k n h (pc + 1) ls (.int ((u.toUInt32 >>> (v &&& 31).toUInt32).toInt32) :: st)) : W p l e R s m args below meth c n0 Q kc ks k n h pc ls (.int v :: .int u :: st) :=
  W.lift (fun T t H S => XS.iushr H C.1 rfl (C.a d) rfl S) K
theorem W.laddV (C : Cx p s m meth c Z y bytes ml ret) {u v : Int64} (z : Int64) (d : decode bytes pc = .ok (.ladd, 1)) (hz : (u + v) = z) (K : W p l e R s m args below meth c n0 Q kc ks k n h (pc + 1) ls (.long z :: st)) : W p l e R s m args below meth c n0 Q kc ks k n h pc ls (.long v :: .long u :: st) :=
  W.lift (fun T t H S => XS.ladd H C.1 rfl (C.a d) rfl (by subst hz; exact S)) K
theorem W.ladd (C : Cx p s m meth c Z y bytes ml ret) {u v : Int64} (d : decode bytes pc = .ok (.ladd, 1)) (K : W p l e R s m args below meth c n0 Q kc ks k n h (pc + 1) ls (.long (u + v) :: st)) : W p l e R s m args below meth c n0 Q kc ks k n h pc ls (.long v :: .long u :: st) :=
  W.lift (fun T t H S => XS.ladd H C.1 rfl (C.a d) rfl S) K
theorem W.lsubV (C : Cx p s m meth c Z y bytes ml ret) {u v : Int64} (z : Int64) (d : decode bytes pc = .ok (.lsub, 1)) (hz : (u - v) = z) (K : W p l e R s m args below meth c n0 Q kc ks k n h (pc + 1) ls (.long z :: st)) : W p l e R s m args below meth c n0 Q kc ks k n h pc ls (.long v :: .long u :: st) :=
  W.lift (fun T t H S => XS.lsub H C.1 rfl (C.a d) rfl (by subst hz; exact S)) K
theorem W.lsub (C : Cx p s m meth c Z y bytes ml ret) {u v : Int64} (d : decode bytes pc = .ok (.lsub, 1)) (K : W p l e R s m args below meth c n0 Q kc ks k n h (pc + 1) ls (.long (u - v) :: st)) : W p l e R s m args below meth c n0 Q kc ks k n h pc ls (.long v :: .long u :: st) :=
  W.lift (fun T t H S => XS.lsub H C.1 rfl (C.a d) rfl S) K
theorem W.lmulV (C : Cx p s m meth c Z y bytes ml ret) {u v : Int64} (z : Int64) (d : decode bytes pc = .ok (.lmul, 1)) (hz : (u * v) = z) (K : W p l e R s m args below meth c n0 Q kc ks k n h (pc + 1) ls (.long z :: st)) : W p l e R s m args below meth c n0 Q kc ks k n h pc ls (.long v :: .long u :: st) :=
  W.lift (fun T t H S => XS.lmul H C.1 rfl (C.a d) rfl (by subst hz; exact S)) K
theorem W.lmul (C : Cx p s m meth c Z y bytes ml ret) {u v : Int64} (d : decode bytes pc = .ok (.lmul, 1)) (K : W p l e R s m args below meth c n0 Q kc ks k n h (pc + 1) ls (.long (u * v) :: st)) : W p l e R s m args below meth c n0 Q kc ks k n h pc ls (.long v :: .long u :: st) :=
  W.lift (fun T t H S => XS.lmul H C.1 rfl (C.a d) rfl S) K
theorem W.landV (C : Cx p s m meth c Z y bytes ml ret) {u v : Int64} (z : Int64) (d : decode bytes pc = .ok (.land, 1)) (hz : (u &&& v) = z) (K : W p l e R s m args below meth c n0 Q kc ks k n h (pc + 1) ls (.long z :: st)) : W p l e R s m args below meth c n0 Q kc ks k n h pc ls (.long v :: .long u :: st) :=
  W.lift (fun T t H S => XS.land H C.1 rfl (C.a d) rfl (by subst hz; exact S)) K
theorem W.land (C : Cx p s m meth c Z y bytes ml ret) {u v : Int64} (d : decode bytes pc = .ok (.land, 1)) (K : W p l e R s m args below meth c n0 Q kc ks k n h (pc + 1) ls (.long (u &&& v) :: st)) : W p l e R s m args below meth c n0 Q kc ks k n h pc ls (.long v :: .long u :: st) :=
  W.lift (fun T t H S => XS.land H C.1 rfl (C.a d) rfl S) K
theorem W.lorV (C : Cx p s m meth c Z y bytes ml ret) {u v : Int64} (z : Int64) (d : decode bytes pc = .ok (.lor, 1)) (hz : (u ||| v) = z) (K : W p l e R s m args below meth c n0 Q kc ks k n h (pc + 1) ls (.long z :: st)) : W p l e R s m args below meth c n0 Q kc ks k n h pc ls (.long v :: .long u :: st) :=
  W.lift (fun T t H S => XS.lor H C.1 rfl (C.a d) rfl (by subst hz; exact S)) K
theorem W.lor (C : Cx p s m meth c Z y bytes ml ret) {u v : Int64} (d : decode bytes pc = .ok (.lor, 1)) (K : W p l e R s m args below meth c n0 Q kc ks k n h (pc + 1) ls (.long (u ||| v) :: st)) : W p l e R s m args below meth c n0 Q kc ks k n h pc ls (.long v :: .long u :: st) :=
  W.lift (fun T t H S => XS.lor H C.1 rfl (C.a d) rfl S) K
theorem W.lxorV (C : Cx p s m meth c Z y bytes ml ret) {u v : Int64} (z : Int64) (d : decode bytes pc = .ok (.lxor, 1)) (hz : (u ^^^ v) = z) (K : W p l e R s m args below meth c n0 Q kc ks k n h (pc + 1) ls (.long z :: st)) : W p l e R s m args below meth c n0 Q kc ks k n h pc ls (.long v :: .long u :: st) :=
  W.lift (fun T t H S => XS.lxor H C.1 rfl (C.a d) rfl (by subst hz; exact S)) K
theorem W.lxor (C : Cx p s m meth c Z y bytes ml ret) {u v : Int64} (d : decode bytes pc = .ok (.lxor, 1)) (K : W p l e R s m args below meth c n0 Q kc ks k n h (pc + 1) ls (.long (u ^^^ v) :: st)) : W p l e R s m args below meth c n0 Q kc ks k n h pc ls (.long v :: .long u :: st) :=
  W.lift (fun T t H S => XS.lxor H C.1 rfl (C.a d) rfl S) K
theorem W.lshlV (C : Cx p s m meth c Z y bytes ml ret) {u : Int64} {v : Int32} (z : Int64) (d : decode bytes pc = .ok (.lshl, 1)) (hz : (u <<< (v &&& 0x3f).toInt64) = z) (K : W p l e R s m args below meth c n0 Q kc ks k n h (pc + 1) ls (.long z :: st)) : W p l e R s m args below meth c n0 Q kc ks k n h pc ls (.int v :: .long u :: st) :=
  W.lift (fun T t H S => XS.lshl H C.1 rfl (C.a d) rfl (by subst hz; exact S)) K
theorem W.lshl (C : Cx p s m meth c Z y bytes ml ret) {u : Int64} {v : Int32} (d : decode bytes pc = .ok (.lshl, 1)) (K : W p l e R s m args below meth c n0 Q kc ks k n h (pc + 1) ls (.long (u <<< (v &&& 0x3f).toInt64) :: st)) : W p l e R s m args below meth c n0 Q kc ks k n h pc ls (.int v :: .long u :: st) :=
  W.lift (fun T t H S => XS.lshl H C.1 rfl (C.a d) rfl S) K
theorem W.lshrV (C : Cx p s m meth c Z y bytes ml ret) {u : Int64} {v : Int32} (z : Int64) (d : decode bytes pc = .ok (.lshr, 1)) (hz : (u >>> (v &&& 0x3f).toInt64) = z) (K : W p l e R s m args below meth c n0 Q kc ks k n h (pc + 1) ls (.long z :: st)) : W p l e R s m args below meth c n0 Q kc ks k n h pc ls (.int v :: .long u :: st) :=
  W.lift (fun T t H S => XS.lshr H C.1 rfl (C.a d) rfl (by subst hz; exact S)) K
theorem W.lshr (C : Cx p s m meth c Z y bytes ml ret) {u : Int64} {v : Int32} (d : decode bytes pc = .ok (.lshr, 1)) (K : W p l e R s m args below meth c n0 Q kc ks k n h (pc + 1) ls (.long (u >>> (v &&& 0x3f).toInt64) :: st)) : W p l e R s m args below meth c n0 Q kc ks k n h pc ls (.int v :: .long u :: st) :=
  W.lift (fun T t H S => XS.lshr H C.1 rfl (C.a d) rfl S) K
theorem W.lushrV (C : Cx p s m meth c Z y bytes ml ret) {u : Int64} {v : Int32} (z : Int64) (d : decode bytes pc = .ok (.lushr, 1)) (hz : ((u.toUInt64 >>> (v &&& 0x3f).toInt64.toUInt64).toInt64) = z) (K : W p l e R s m args below meth c n0 Q kc ks k n h (pc + 1) ls (.long z :: st)) : W p l e R s m args below meth c n0 Q kc ks k n h pc ls (.int v :: .long u :: st) :=
  W.lift (fun T t H S => XS.lushr H C.1 rfl (C.a d) rfl (by subst hz; exact S)) K
theorem W.lushr (C : Cx p s m meth c Z y bytes ml ret) {u : Int64} {v : Int32} (d : decode bytes pc = .ok (.lushr, 1)) (K : W p l e R s m args below meth c n0 Q kc ks k n h (pc + 1) ls (.long ((u.toUInt64 >>> (v &&& 0x3f).toInt64.toUInt64).toInt64) :: st)) : W p l e R s m args below meth c n0 Q kc ks k n h pc ls (.int v :: .long u :: st) :=
  W.lift (fun T t H S => XS.lushr H C.1 rfl (C.a d) rfl S) K
theorem W.idivV (C : Cx p s m meth c Z y bytes ml ret) {u v : Int32} (z : Int32) (d : decode bytes pc = .ok (.idiv, 1)) (hy : v ≠ 0) (hz : (u / v) = z) (K : W p l e R s m args below meth c n0 Q kc ks k n h (pc + 1) ls (.int z :: st)) : W p l e R s m args below meth c n0 Q kc ks k n h pc ls (.int v :: .int u :: st) :=
  W.lift (fun T t H S => XS.idiv H C.1 rfl (C.a d) rfl hy (by subst hz; exact S)) K
theorem W.idiv (C : Cx p s m meth c Z y bytes ml ret) {u v : Int32} (d : decode bytes pc = .ok (.idiv, 1)) (hy : v ≠ 0) (K : W p l e R s m args below meth c n0 Q kc ks k n h (pc + 1) ls (.int (u / v) :: st)) : W p l e R s m args below meth c n0 Q kc ks k n h pc ls (.int v :: .int u :: st) :=
  W.lift (fun T t H S => XS.idiv H C.1 rfl (C.a d) rfl hy S) K
theorem W.irem (C : Cx p s m meth c Z y bytes ml ret) {u v : Int32} (d : decode bytes pc = .ok (.irem, 1)) (hy : v ≠ 0) (K : W p l e R s m args below meth c n0 Q kc ks k n h (pc + 1) ls (.int (u % v) :: st)) : W p l e R s m args below meth c n0 Q kc ks k n h pc ls (.int v :: .int u :: st) :=
  W.lift (fun T t H S => XS.irem H C.1 rfl (C.a d) rfl hy (by rw [irem_eq_mod u v]; exact S)) K
theorem W.ldivV (C : Cx p s m meth c Z y bytes ml ret) {u v : Int64} (z : Int64) (d : decode bytes pc = .ok (.ldiv, 1)) (hy : v ≠ 0) (hz : (u / v) = z) (K : W p l e R s m args below meth c n0 Q kc ks k n h (pc + 1) ls (.long z :: st)) : W p l e R s m args below meth c n0 Q kc ks k n h pc ls (.long v :: .long u :: st) :=
  W.lift (fun T t H S => XS.ldiv H C.1 rfl (C.a d) rfl hy (by subst hz; exact S)) K
theorem W.ldiv (C : Cx p s m meth c Z y bytes ml ret) {u v : Int64} (d : decode bytes pc = .ok (.ldiv, 1)) (hy : v ≠ 0) (K : W p l e R s m args below meth c n0 Q kc ks k n h (pc + 1) ls (.long (u / v) :: st)) : W p l e R s m args below meth c n0 Q kc ks k n h pc ls (.long v :: .long u :: st) :=
  W.lift (fun T t H S => XS.ldiv H C.1 rfl (C.a d) rfl hy S) K
theorem W.lrem (C : Cx p s m meth c Z y bytes ml ret) {u v : Int64} (d : decode bytes pc = .ok (.lrem, 1)) (hy : v ≠ 0) (K : W p l e R s m args below meth c n0 Q kc ks k n h (pc + 1) ls (.long (u % v) :: st)) : W p l e R s m args below meth c n0 Q kc ks k n h pc ls (.long v :: .long u :: st) :=
  W.lift (fun T t H S => XS.lrem H C.1 rfl (C.a d) rfl hy (by rw [lrem_mod u v]; exact S)) K
theorem W.inegV (C : Cx p s m meth c Z y bytes ml ret) {u : Int32} (z : Int32) (d : decode bytes pc = .ok (.ineg, 1)) (hz : (-u) = z) (K : W p l e R s m args below meth c n0 Q kc ks k n h (pc + 1) ls (.int z :: st)) : W p l e R s m args below meth c n0 Q kc ks k n h pc ls (.int u :: st) :=
  W.lift (fun T t H S => XS.ineg H C.1 rfl (C.a d) rfl (by subst hz; exact S)) K
theorem W.ineg (C : Cx p s m meth c Z y bytes ml ret) {u : Int32} (d : decode bytes pc = .ok (.ineg, 1)) (K : W p l e R s m args below meth c n0 Q kc ks k n h (pc + 1) ls (.int (-u) :: st)) : W p l e R s m args below meth c n0 Q kc ks k n h pc ls (.int u :: st) :=
  W.lift (fun T t H S => XS.ineg H C.1 rfl (C.a d) rfl S) K
theorem W.i2bV (C : Cx p s m meth c Z y bytes ml ret) {u : Int32} (z : Int32) (d : decode bytes pc = .ok (.i2b, 1)) (hz : (u.toInt8.toInt32) = z) (K : W p l e R s m args below meth c n0 Q kc ks k n h (pc + 1) ls (.int z :: st)) : W p l e R s m args below meth c n0 Q kc ks k n h pc ls (.int u :: st) :=
  W.lift (fun T t H S => XS.i2b H C.1 rfl (C.a d) rfl (by subst hz; exact S)) K
theorem W.i2b (C : Cx p s m meth c Z y bytes ml ret) {u : Int32} (d : decode bytes pc = .ok (.i2b, 1)) (K : W p l e R s m args below meth c n0 Q kc ks k n h (pc + 1) ls (.int (u.toInt8.toInt32) :: st)) : W p l e R s m args below meth c n0 Q kc ks k n h pc ls (.int u :: st) :=
  W.lift (fun T t H S => XS.i2b H C.1 rfl (C.a d) rfl S) K
theorem W.i2cV (C : Cx p s m meth c Z y bytes ml ret) {u : Int32} (z : Int32) (d : decode bytes pc = .ok (.i2c, 1)) (hz : (u.toUInt32.toUInt16.toUInt32.toInt32) = z) (K : W p l e R s m args below meth c n0 Q kc ks k n h (pc + 1) ls (.int z :: st)) : W p l e R s m args below meth c n0 Q kc ks k n h pc ls (.int u :: st) :=
  W.lift (fun T t H S => XS.i2c H C.1 rfl (C.a d) rfl (by subst hz; exact S)) K
theorem W.i2c (C : Cx p s m meth c Z y bytes ml ret) {u : Int32} (d : decode bytes pc = .ok (.i2c, 1)) (K : W p l e R s m args below meth c n0 Q kc ks k n h (pc + 1) ls (.int (u.toUInt32.toUInt16.toUInt32.toInt32) :: st)) : W p l e R s m args below meth c n0 Q kc ks k n h pc ls (.int u :: st) :=
  W.lift (fun T t H S => XS.i2c H C.1 rfl (C.a d) rfl S) K
theorem W.i2sV (C : Cx p s m meth c Z y bytes ml ret) {u : Int32} (z : Int32) (d : decode bytes pc = .ok (.i2s, 1)) (hz : (u.toInt16.toInt32) = z) (K : W p l e R s m args below meth c n0 Q kc ks k n h (pc + 1) ls (.int z :: st)) : W p l e R s m args below meth c n0 Q kc ks k n h pc ls (.int u :: st) :=
  W.lift (fun T t H S => XS.i2s H C.1 rfl (C.a d) rfl (by subst hz; exact S)) K
theorem W.i2s (C : Cx p s m meth c Z y bytes ml ret) {u : Int32} (d : decode bytes pc = .ok (.i2s, 1)) (K : W p l e R s m args below meth c n0 Q kc ks k n h (pc + 1) ls (.int (u.toInt16.toInt32) :: st)) : W p l e R s m args below meth c n0 Q kc ks k n h pc ls (.int u :: st) :=
  W.lift (fun T t H S => XS.i2s H C.1 rfl (C.a d) rfl S) K
theorem W.i2lV (C : Cx p s m meth c Z y bytes ml ret) {u : Int32} (z : Int64) (d : decode bytes pc = .ok (.i2l, 1)) (hz : u.toInt64 = z) (K : W p l e R s m args below meth c n0 Q kc ks k n h (pc + 1) ls (.long z :: st)) : W p l e R s m args below meth c n0 Q kc ks k n h pc ls (.int u :: st) :=
  W.lift (fun T t H S => XS.i2l H C.1 rfl (C.a d) rfl (by subst hz; exact S)) K
theorem W.i2l (C : Cx p s m meth c Z y bytes ml ret) {u : Int32} (d : decode bytes pc = .ok (.i2l, 1)) (K : W p l e R s m args below meth c n0 Q kc ks k n h (pc + 1) ls (.long u.toInt64 :: st)) : W p l e R s m args below meth c n0 Q kc ks k n h pc ls (.int u :: st) :=
  W.lift (fun T t H S => XS.i2l H C.1 rfl (C.a d) rfl S) K
theorem W.l2iV (C : Cx p s m meth c Z y bytes ml ret) {u : Int64} (z : Int32) (d : decode bytes pc = .ok (.l2i, 1)) (hz : u.toInt32 = z) (K : W p l e R s m args below meth c n0 Q kc ks k n h (pc + 1) ls (.int z :: st)) : W p l e R s m args below meth c n0 Q kc ks k n h pc ls (.long u :: st) :=
  W.lift (fun T t H S => XS.l2i H C.1 rfl (C.a d) rfl (by subst hz; exact S)) K
theorem W.l2i (C : Cx p s m meth c Z y bytes ml ret) {u : Int64} (d : decode bytes pc = .ok (.l2i, 1)) (K : W p l e R s m args below meth c n0 Q kc ks k n h (pc + 1) ls (.int u.toInt32 :: st)) : W p l e R s m args below meth c n0 Q kc ks k n h pc ls (.long u :: st) :=
  W.lift (fun T t H S => XS.l2i H C.1 rfl (C.a d) rfl S) K
theorem W.lnegV (C : Cx p s m meth c Z y bytes ml ret) {u : Int64} (z : Int64) (d : decode bytes pc = .ok (.lneg, 1)) (hz : (-u) = z) (K : W p l e R s m args below meth c n0 Q kc ks k n h (pc + 1) ls (.long z :: st)) : W p l e R s m args below meth c n0 Q kc ks k n h pc ls (.long u :: st) :=
  W.lift (fun T t H S => XS.lneg H C.1 rfl (C.a d) rfl (by subst hz; exact S)) K
theorem W.lneg (C : Cx p s m meth c Z y bytes ml ret) {u : Int64} (d : decode bytes pc = .ok (.lneg, 1)) (K : W p l e R s m args below meth c n0 Q kc ks k n h (pc + 1) ls (.long (-u) :: st)) : W p l e R s m args below meth c n0 Q kc ks k n h pc ls (.long u :: st) :=
  W.lift (fun T t H S => XS.lneg H C.1 rfl (C.a d) rfl S) K
theorem W.lcmpV (C : Cx p s m meth c Z y bytes ml ret) {u v : Int64} (z : Int32) (d : decode bytes pc = .ok (.lcmp, 1)) (hz : (lcmpW u v) = z) (K : W p l e R s m args below meth c n0 Q kc ks k n h (pc + 1) ls (.int z :: st)) : W p l e R s m args below meth c n0 Q kc ks k n h pc ls (.long v :: .long u :: st) :=
  W.lift (fun T t H S => XS.lcmp H C.1 rfl (C.a d) rfl (by subst hz; exact S)) K
theorem W.lcmp (C : Cx p s m meth c Z y bytes ml ret) {u v : Int64} (d : decode bytes pc = .ok (.lcmp, 1)) (K : W p l e R s m args below meth c n0 Q kc ks k n h (pc + 1) ls (.int (lcmpW u v) :: st)) : W p l e R s m args below meth c n0 Q kc ks k n h pc ls (.long v :: .long u :: st) :=
  W.lift (fun T t H S => XS.lcmp H C.1 rfl (C.a d) rfl S) K
theorem W.pop (C : Cx p s m meth c Z y bytes ml ret) {u : Value} (d : decode bytes pc = .ok (.pop, 1)) (hc : u.category = 1) (K : W p l e R s m args below meth c n0 Q kc ks k n h (pc + 1) ls (st)) : W p l e R s m args below meth c n0 Q kc ks k n h pc ls (u :: st) :=
  W.lift (fun T t H S => XS.pop H C.1 rfl (C.a d) rfl hc S) K
theorem W.dup (C : Cx p s m meth c Z y bytes ml ret) {u : Value} (d : decode bytes pc = .ok (.dup, 1)) (hc : u.category = 1) (K : W p l e R s m args below meth c n0 Q kc ks k n h (pc + 1) ls (u :: u :: st)) : W p l e R s m args below meth c n0 Q kc ks k n h pc ls (u :: st) :=
  W.lift (fun T t H S => XS.dup H C.1 rfl (C.a d) rfl hc S) K
theorem W.dupX1 (C : Cx p s m meth c Z y bytes ml ret) {u v : Value} (d : decode bytes pc = .ok (.dup_x1, 1)) (hc : u.category = 1) (hc' : v.category = 1) (K : W p l e R s m args below meth c n0 Q kc ks k n h (pc + 1) ls (u :: v :: u :: st)) : W p l e R s m args below meth c n0 Q kc ks k n h pc ls (u :: v :: st) :=
  W.lift (fun T t H S => XT.dupX1 H C.1 rfl (C.a d) rfl hc hc' S) K
theorem W.dup2 (C : Cx p s m meth c Z y bytes ml ret) {u v : Value} (d : decode bytes pc = .ok (.dup2, 1)) (hc : u.category = 1) (hc' : v.category = 1) (K : W p l e R s m args below meth c n0 Q kc ks k n h (pc + 1) ls (u :: v :: u :: v :: st)) : W p l e R s m args below meth c n0 Q kc ks k n h pc ls (u :: v :: st) :=
  W.lift (fun T t H S => XT.dup2 H C.1 rfl (C.a d) rfl hc hc' S) K
theorem W.dup2L (C : Cx p s m meth c Z y bytes ml ret) {u : Int64} (d : decode bytes pc = .ok (.dup2, 1)) (K : W p l e R s m args below meth c n0 Q kc ks k n h (pc + 1) ls (.long u :: .long u :: st)) : W p l e R s m args below meth c n0 Q kc ks k n h pc ls (.long u :: st) :=
  W.lift (fun T t H S => XT.dup2L H C.1 rfl (C.a d) rfl S) K
theorem W.aconstNull (C : Cx p s m meth c Z y bytes ml ret)  (d : decode bytes pc = .ok (.aconst_null, 1)) (K : W p l e R s m args below meth c n0 Q kc ks k n h (pc + 1) ls (.null :: st)) : W p l e R s m args below meth c n0 Q kc ks k n h pc ls (st) :=
  W.lift (fun T t H S => XS.aconstNull H C.1 rfl (C.a d)  S) K
theorem W.iconst (C : Cx p s m meth c Z y bytes ml ret) {i : Int} (v : Int32) (d : decode bytes pc = .ok (.iconst i, 1)) (hv : Int32.ofInt i = v) (K : W p l e R s m args below meth c n0 Q kc ks k n h (pc + 1) ls (.int v :: st)) : W p l e R s m args below meth c n0 Q kc ks k n h pc ls st :=
  W.lift (fun T t H S => XS.iconst H C.1 rfl (C.a d) (by rw [hv]; exact S)) K
theorem W.bipush (C : Cx p s m meth c Z y bytes ml ret) {i : Int} (v : Int32) (d : decode bytes pc = .ok (.bipush i, 2)) (hv : (Int8.ofInt i).toInt32 = v) (K : W p l e R s m args below meth c n0 Q kc ks k n h (pc + 2) ls (.int v :: st)) : W p l e R s m args below meth c n0 Q kc ks k n h pc ls st :=
  W.lift (fun T t H S => XS.bipush H C.1 rfl (C.a d) (by rw [hv]; exact S)) K
theorem W.sipush (C : Cx p s m meth c Z y bytes ml ret) {i : Int} (v : Int32) (d : decode bytes pc = .ok (.sipush i, 3)) (hv : (Int16.ofInt i).toInt32 = v) (K : W p l e R s m args below meth c n0 Q kc ks k n h (pc + 3) ls (.int v :: st)) : W p l e R s m args below meth c n0 Q kc ks k n h pc ls st :=
  W.lift (fun T t H S => XS.sipush H C.1 rfl (C.a d) (by rw [hv]; exact S)) K
theorem W.lconst (C : Cx p s m meth c Z y bytes ml ret) {i : Fin 2} (v : Int64) (d : decode bytes pc = .ok (.lconst i, 1)) (hv : Int64.ofNat i = v) (K : W p l e R s m args below meth c n0 Q kc ks k n h (pc + 1) ls (.long v :: st)) : W p l e R s m args below meth c n0 Q kc ks k n h pc ls st :=
  W.lift (fun T t H S => XS.lconst H C.1 rfl (C.a d) (by rw [hv]; exact S)) K
theorem W.iloadN (C : Cx p s m meth c Z y bytes ml ret) {i : Fin 4} {v : Int32} (d : decode bytes pc = .ok (.iload_n i, 1)) (hl : ls[i.val]? = some (.val (.int v))) (K : W p l e R s m args below meth c n0 Q kc ks k n h (pc + 1) ls (.int v :: st)) : W p l e R s m args below meth c n0 Q kc ks k n h pc ls st :=
  W.lift (fun T t H S => XS.iloadN H C.1 rfl (C.a d) hl S) K
theorem W.iload (C : Cx p s m meth c Z y bytes ml ret) {i : Nat} {v : Int32} (d : decode bytes pc = .ok (.iload i, 2)) (hl : ls[i]? = some (.val (.int v))) (K : W p l e R s m args below meth c n0 Q kc ks k n h (pc + 2) ls (.int v :: st)) : W p l e R s m args below meth c n0 Q kc ks k n h pc ls st :=
  W.lift (fun T t H S => XS.iload H C.1 rfl (C.a d) hl S) K
theorem W.istoreN (C : Cx p s m meth c Z y bytes ml ret) {i : Fin 4} {v : Int32} (l' : Array Slot) (d : decode bytes pc = .ok (.istore_n i, 1)) (hl : storeLocals ls i.val (.int v) = some l') (K : W p l e R s m args below meth c n0 Q kc ks k n h (pc + 1) l' st) : W p l e R s m args below meth c n0 Q kc ks k n h pc ls (.int v :: st) :=
  W.lift (fun T t H S => XS.istoreN H C.1 rfl (C.a d) rfl hl S) K
theorem W.istore (C : Cx p s m meth c Z y bytes ml ret) {i : Nat} {v : Int32} (l' : Array Slot) (d : decode bytes pc = .ok (.istore i, 2)) (hl : storeLocals ls i (.int v) = some l') (K : W p l e R s m args below meth c n0 Q kc ks k n h (pc + 2) l' st) : W p l e R s m args below meth c n0 Q kc ks k n h pc ls (.int v :: st) :=
  W.lift (fun T t H S => XS.istore H C.1 rfl (C.a d) rfl hl S) K
theorem W.lloadN (C : Cx p s m meth c Z y bytes ml ret) {i : Fin 4} {v : Int64} (d : decode bytes pc = .ok (.lload_n i, 1)) (hl : ls[i.val]? = some (.val (.long v))) (K : W p l e R s m args below meth c n0 Q kc ks k n h (pc + 1) ls (.long v :: st)) : W p l e R s m args below meth c n0 Q kc ks k n h pc ls st :=
  W.lift (fun T t H S => XS.lloadN H C.1 rfl (C.a d) hl S) K
theorem W.lload (C : Cx p s m meth c Z y bytes ml ret) {i : Nat} {v : Int64} (d : decode bytes pc = .ok (.lload i, 2)) (hl : ls[i]? = some (.val (.long v))) (K : W p l e R s m args below meth c n0 Q kc ks k n h (pc + 2) ls (.long v :: st)) : W p l e R s m args below meth c n0 Q kc ks k n h pc ls st :=
  W.lift (fun T t H S => XS.lload H C.1 rfl (C.a d) hl S) K
theorem W.lstoreN (C : Cx p s m meth c Z y bytes ml ret) {i : Fin 4} {v : Int64} (l' : Array Slot) (d : decode bytes pc = .ok (.lstore_n i, 1)) (hl : storeLocals ls i.val (.long v) = some l') (K : W p l e R s m args below meth c n0 Q kc ks k n h (pc + 1) l' st) : W p l e R s m args below meth c n0 Q kc ks k n h pc ls (.long v :: st) :=
  W.lift (fun T t H S => XS.lstoreN H C.1 rfl (C.a d) rfl hl S) K
theorem W.lstore (C : Cx p s m meth c Z y bytes ml ret) {i : Nat} {v : Int64} (l' : Array Slot) (d : decode bytes pc = .ok (.lstore i, 2)) (hl : storeLocals ls i (.long v) = some l') (K : W p l e R s m args below meth c n0 Q kc ks k n h (pc + 2) l' st) : W p l e R s m args below meth c n0 Q kc ks k n h pc ls (.long v :: st) :=
  W.lift (fun T t H S => XS.lstore H C.1 rfl (C.a d) rfl hl S) K
theorem W.aloadN (C : Cx p s m meth c Z y bytes ml ret) {i : Fin 4} {v : Value} (d : decode bytes pc = .ok (.aload_n i, 1)) (hl : ls[i.val]? = some (.val v)) (hv : v.isRef = true) (K : W p l e R s m args below meth c n0 Q kc ks k n h (pc + 1) ls (v :: st)) : W p l e R s m args below meth c n0 Q kc ks k n h pc ls st :=
  W.lift (fun T t H S => XS.aloadN H C.1 rfl (C.a d) hl hv S) K
theorem W.aload (C : Cx p s m meth c Z y bytes ml ret) {i : Nat} {v : Value} (d : decode bytes pc = .ok (.aload i, 2)) (hl : ls[i]? = some (.val v)) (hv : v.isRef = true) (K : W p l e R s m args below meth c n0 Q kc ks k n h (pc + 2) ls (v :: st)) : W p l e R s m args below meth c n0 Q kc ks k n h pc ls st :=
  W.lift (fun T t H S => XS.aload H C.1 rfl (C.a d) hl hv S) K
theorem W.astoreN (C : Cx p s m meth c Z y bytes ml ret) {i : Fin 4} {v : Value} (l' : Array Slot) (d : decode bytes pc = .ok (.astore_n i, 1)) (hv : v.isRef = true) (hl : storeLocals ls i.val v = some l') (K : W p l e R s m args below meth c n0 Q kc ks k n h (pc + 1) l' st) : W p l e R s m args below meth c n0 Q kc ks k n h pc ls (v :: st) :=
  W.lift (fun T t H S => XS.astoreN H C.1 rfl (C.a d) rfl hv hl S) K
theorem W.astore (C : Cx p s m meth c Z y bytes ml ret) {i : Nat} {v : Value} (l' : Array Slot) (d : decode bytes pc = .ok (.astore i, 2)) (hv : v.isRef = true) (hl : storeLocals ls i v = some l') (K : W p l e R s m args below meth c n0 Q kc ks k n h (pc + 2) l' st) : W p l e R s m args below meth c n0 Q kc ks k n h pc ls (v :: st) :=
  W.lift (fun T t H S => XS.astore H C.1 rfl (C.a d) rfl hv hl S) K
theorem W.istoreO (C : Cx p s m meth c Z y bytes ml ret) {i : Nat} {v : Int32} {o : Slot} (l' : Array Slot) (d : decode bytes pc = .ok (.istore i, 2)) (hold : ls[i]? = some o) (ho : One o) (hl : ls.setIfInBounds i (.val (.int v)) = l') (K : W p l e R s m args below meth c n0 Q kc ks k n h (pc + 2) l' st) : W p l e R s m args below meth c n0 Q kc ks k n h pc ls (.int v :: st) :=
  W.lift (fun T t H S => XS.istoreS H C.1 rfl (C.a d) rfl hold ho (by rw [hl]; exact S)) K
theorem W.istoreNO (C : Cx p s m meth c Z y bytes ml ret) {i : Fin 4} {v : Int32} {o : Slot} (l' : Array Slot) (d : decode bytes pc = .ok (.istore_n i, 1)) (hold : ls[i.val]? = some o) (ho : One o) (hl : ls.setIfInBounds i.val (.val (.int v)) = l') (K : W p l e R s m args below meth c n0 Q kc ks k n h (pc + 1) l' st) : W p l e R s m args below meth c n0 Q kc ks k n h pc ls (.int v :: st) :=
  W.lift (fun T t H S => XS.istoreNS H C.1 rfl (C.a d) rfl hold ho (by rw [hl]; exact S)) K
theorem W.iinc (C : Cx p s m meth c Z y bytes ml ret) {i : Nat} {cst : Int} {u : Int32} (v : Int32) (l' : Array Slot) (d : decode bytes pc = .ok (.iinc i cst, 3)) (hl : ls[i]? = some (.val (.int u))) (hv : u + Int32.ofInt cst = v) (hl' : storeLocals ls i (.int v) = some l') (K : W p l e R s m args below meth c n0 Q kc ks k n h (pc + 3) l' st) : W p l e R s m args below meth c n0 Q kc ks k n h pc ls st :=
  W.lift (fun T t H S => XS.iinc H C.1 rfl (C.a d) hl (by rw [hv]; exact hl') S) K
theorem jmp {pc pc' : Nat} {o : Int} (hp : (pc : Int) + o = pc') : 0 ≤ (pc : Int) + o ∧ ((pc : Int) + o).toNat = pc' := by omega
theorem W.goto (C : Cx p s m meth c Z y bytes ml ret) {o : Int} (pc' : Nat) (d : decode bytes pc = .ok (.goto o, 3)) (hp : (pc : Int) + o = pc') (K : W p l e R s m args below meth c n0 Q kc ks k n h pc' ls st) : W p l e R s m args below meth c n0 Q kc ks k n h pc ls st :=
  W.lift (fun T t H S => XS.goto H C.1 rfl (pc0 := pc) (pc' := pc') rfl (C.a d) (jmp hp).1 (jmp hp).2 S) K
theorem W.icmp_eq (C : Cx p s m meth c Z y bytes ml ret) {u v : Int32} {o : Int} (pc' : Nat) (d : decode bytes pc = .ok (.if_icmp .eq o, 3)) (hp : (pc : Int) + o = pc') (yes : u = v → W p l e R s m args below meth c n0 Q kc ks k n h pc' ls st) (no : ¬ u = v → W p l e R s m args below meth c n0 Q kc ks k n h (pc + 3) ls st) : W p l e R s m args below meth c n0 Q kc ks k n h pc ls (.int v :: .int u :: st) := by
  by_cases b : u = v
  · exact W.lift (fun T t H S => XS.icmpYes H C.1 rfl (pc0 := pc) (pc' := pc') rfl (C.a d) rfl (XT.ii_eq_t b) (jmp hp).1 (jmp hp).2 S) (yes b)
  · exact W.lift (fun T t H S => XS.icmpNo H C.1 rfl (C.a d) rfl (XT.ii_eq_f b) S) (no b)
theorem W.if_eq (C : Cx p s m meth c Z y bytes ml ret) {u : Int32} {o : Int} (pc' : Nat) (d : decode bytes pc = .ok (.ifCond .eq o, 3)) (hp : (pc : Int) + o = pc') (yes : u = 0 → W p l e R s m args below meth c n0 Q kc ks k n h pc' ls st) (no : ¬ u = 0 → W p l e R s m args below meth c n0 Q kc ks k n h (pc + 3) ls st) : W p l e R s m args below meth c n0 Q kc ks k n h pc ls (.int u :: st) := by
  by_cases b : u = 0
  · exact W.lift (fun T t H S => XS.ifYes H C.1 rfl (pc0 := pc) (pc' := pc') rfl (C.a d) rfl (XT.i0_eq_t b) (jmp hp).1 (jmp hp).2 S) (yes b)
  · exact W.lift (fun T t H S => XS.ifNo H C.1 rfl (C.a d) rfl (XT.i0_eq_f b) S) (no b)
theorem ll_eq_t {u v : Int64} (b : u = v) : ifCond.holds .eq (lcmpW u v) = true := XT.ll_eq_t b
theorem ll_eq_f {u v : Int64} (b : ¬ u = v) : ifCond.holds .eq (lcmpW u v) = false := XT.ll_eq_f b
theorem W.lif_eq (C : Cx p s m meth c Z y bytes ml ret) {u v : Int64} {o : Int} (pc' : Nat) (d : decode bytes pc = .ok (.ifCond .eq o, 3)) (hp : (pc : Int) + o = pc') (yes : u = v → W p l e R s m args below meth c n0 Q kc ks k n h pc' ls st) (no : ¬ u = v → W p l e R s m args below meth c n0 Q kc ks k n h (pc + 3) ls st) : W p l e R s m args below meth c n0 Q kc ks k n h pc ls (.int (lcmpW u v) :: st) := by
  by_cases b : u = v
  · exact W.lift (fun T t H S => XS.ifYes H C.1 rfl (pc0 := pc) (pc' := pc') rfl (C.a d) rfl (ll_eq_t b) (jmp hp).1 (jmp hp).2 S) (yes b)
  · exact W.lift (fun T t H S => XS.ifNo H C.1 rfl (C.a d) rfl (ll_eq_f b) S) (no b)
theorem W.icmp_ne (C : Cx p s m meth c Z y bytes ml ret) {u v : Int32} {o : Int} (pc' : Nat) (d : decode bytes pc = .ok (.if_icmp .ne o, 3)) (hp : (pc : Int) + o = pc') (yes : ¬ u = v → W p l e R s m args below meth c n0 Q kc ks k n h pc' ls st) (no : u = v → W p l e R s m args below meth c n0 Q kc ks k n h (pc + 3) ls st) : W p l e R s m args below meth c n0 Q kc ks k n h pc ls (.int v :: .int u :: st) := by
  by_cases b : u = v
  · exact W.lift (fun T t H S => XS.icmpNo H C.1 rfl (C.a d) rfl (XT.ii_ne_f b) S) (no b)
  · exact W.lift (fun T t H S => XS.icmpYes H C.1 rfl (pc0 := pc) (pc' := pc') rfl (C.a d) rfl (XT.ii_ne_t b) (jmp hp).1 (jmp hp).2 S) (yes b)
theorem W.if_ne (C : Cx p s m meth c Z y bytes ml ret) {u : Int32} {o : Int} (pc' : Nat) (d : decode bytes pc = .ok (.ifCond .ne o, 3)) (hp : (pc : Int) + o = pc') (yes : ¬ u = 0 → W p l e R s m args below meth c n0 Q kc ks k n h pc' ls st) (no : u = 0 → W p l e R s m args below meth c n0 Q kc ks k n h (pc + 3) ls st) : W p l e R s m args below meth c n0 Q kc ks k n h pc ls (.int u :: st) := by
  by_cases b : u = 0
  · exact W.lift (fun T t H S => XS.ifNo H C.1 rfl (C.a d) rfl (XT.i0_ne_f b) S) (no b)
  · exact W.lift (fun T t H S => XS.ifYes H C.1 rfl (pc0 := pc) (pc' := pc') rfl (C.a d) rfl (XT.i0_ne_t b) (jmp hp).1 (jmp hp).2 S) (yes b)
theorem ll_ne_t {u v : Int64} (b : ¬ u = v) : ifCond.holds .ne (lcmpW u v) = true := XT.ll_ne_t b
theorem ll_ne_f {u v : Int64} (b : u = v) : ifCond.holds .ne (lcmpW u v) = false := XT.ll_ne_f b
theorem W.lif_ne (C : Cx p s m meth c Z y bytes ml ret) {u v : Int64} {o : Int} (pc' : Nat) (d : decode bytes pc = .ok (.ifCond .ne o, 3)) (hp : (pc : Int) + o = pc') (yes : ¬ u = v → W p l e R s m args below meth c n0 Q kc ks k n h pc' ls st) (no : u = v → W p l e R s m args below meth c n0 Q kc ks k n h (pc + 3) ls st) : W p l e R s m args below meth c n0 Q kc ks k n h pc ls (.int (lcmpW u v) :: st) := by
  by_cases b : u = v
  · exact W.lift (fun T t H S => XS.ifNo H C.1 rfl (C.a d) rfl (ll_ne_f b) S) (no b)
  · exact W.lift (fun T t H S => XS.ifYes H C.1 rfl (pc0 := pc) (pc' := pc') rfl (C.a d) rfl (ll_ne_t b) (jmp hp).1 (jmp hp).2 S) (yes b)
theorem W.icmp_lt (C : Cx p s m meth c Z y bytes ml ret) {u v : Int32} {o : Int} (pc' : Nat) (d : decode bytes pc = .ok (.if_icmp .lt o, 3)) (hp : (pc : Int) + o = pc') (yes : u < v → W p l e R s m args below meth c n0 Q kc ks k n h pc' ls st) (no : ¬ u < v → W p l e R s m args below meth c n0 Q kc ks k n h (pc + 3) ls st) : W p l e R s m args below meth c n0 Q kc ks k n h pc ls (.int v :: .int u :: st) := by
  by_cases b : u < v
  · exact W.lift (fun T t H S => XS.icmpYes H C.1 rfl (pc0 := pc) (pc' := pc') rfl (C.a d) rfl (XT.ii_lt_t b) (jmp hp).1 (jmp hp).2 S) (yes b)
  · exact W.lift (fun T t H S => XS.icmpNo H C.1 rfl (C.a d) rfl (XT.ii_lt_f b) S) (no b)
theorem W.if_lt (C : Cx p s m meth c Z y bytes ml ret) {u : Int32} {o : Int} (pc' : Nat) (d : decode bytes pc = .ok (.ifCond .lt o, 3)) (hp : (pc : Int) + o = pc') (yes : u < 0 → W p l e R s m args below meth c n0 Q kc ks k n h pc' ls st) (no : ¬ u < 0 → W p l e R s m args below meth c n0 Q kc ks k n h (pc + 3) ls st) : W p l e R s m args below meth c n0 Q kc ks k n h pc ls (.int u :: st) := by
  by_cases b : u < 0
  · exact W.lift (fun T t H S => XS.ifYes H C.1 rfl (pc0 := pc) (pc' := pc') rfl (C.a d) rfl (XT.i0_lt_t b) (jmp hp).1 (jmp hp).2 S) (yes b)
  · exact W.lift (fun T t H S => XS.ifNo H C.1 rfl (C.a d) rfl (XT.i0_lt_f b) S) (no b)
theorem ll_lt_t {u v : Int64} (b : u < v) : ifCond.holds .lt (lcmpW u v) = true := XT.ll_lt_t b
theorem ll_lt_f {u v : Int64} (b : ¬ u < v) : ifCond.holds .lt (lcmpW u v) = false := XT.ll_lt_f b
theorem W.lif_lt (C : Cx p s m meth c Z y bytes ml ret) {u v : Int64} {o : Int} (pc' : Nat) (d : decode bytes pc = .ok (.ifCond .lt o, 3)) (hp : (pc : Int) + o = pc') (yes : u < v → W p l e R s m args below meth c n0 Q kc ks k n h pc' ls st) (no : ¬ u < v → W p l e R s m args below meth c n0 Q kc ks k n h (pc + 3) ls st) : W p l e R s m args below meth c n0 Q kc ks k n h pc ls (.int (lcmpW u v) :: st) := by
  by_cases b : u < v
  · exact W.lift (fun T t H S => XS.ifYes H C.1 rfl (pc0 := pc) (pc' := pc') rfl (C.a d) rfl (ll_lt_t b) (jmp hp).1 (jmp hp).2 S) (yes b)
  · exact W.lift (fun T t H S => XS.ifNo H C.1 rfl (C.a d) rfl (ll_lt_f b) S) (no b)
theorem W.icmp_ge (C : Cx p s m meth c Z y bytes ml ret) {u v : Int32} {o : Int} (pc' : Nat) (d : decode bytes pc = .ok (.if_icmp .ge o, 3)) (hp : (pc : Int) + o = pc') (yes : ¬ u < v → W p l e R s m args below meth c n0 Q kc ks k n h pc' ls st) (no : u < v → W p l e R s m args below meth c n0 Q kc ks k n h (pc + 3) ls st) : W p l e R s m args below meth c n0 Q kc ks k n h pc ls (.int v :: .int u :: st) := by
  by_cases b : u < v
  · exact W.lift (fun T t H S => XS.icmpNo H C.1 rfl (C.a d) rfl (XT.ii_ge_f b) S) (no b)
  · exact W.lift (fun T t H S => XS.icmpYes H C.1 rfl (pc0 := pc) (pc' := pc') rfl (C.a d) rfl (XT.ii_ge_t b) (jmp hp).1 (jmp hp).2 S) (yes b)
theorem W.if_ge (C : Cx p s m meth c Z y bytes ml ret) {u : Int32} {o : Int} (pc' : Nat) (d : decode bytes pc = .ok (.ifCond .ge o, 3)) (hp : (pc : Int) + o = pc') (yes : ¬ u < 0 → W p l e R s m args below meth c n0 Q kc ks k n h pc' ls st) (no : u < 0 → W p l e R s m args below meth c n0 Q kc ks k n h (pc + 3) ls st) : W p l e R s m args below meth c n0 Q kc ks k n h pc ls (.int u :: st) := by
  by_cases b : u < 0
  · exact W.lift (fun T t H S => XS.ifNo H C.1 rfl (C.a d) rfl (XT.i0_ge_f b) S) (no b)
  · exact W.lift (fun T t H S => XS.ifYes H C.1 rfl (pc0 := pc) (pc' := pc') rfl (C.a d) rfl (XT.i0_ge_t b) (jmp hp).1 (jmp hp).2 S) (yes b)
theorem ll_ge_t {u v : Int64} (b : ¬ u < v) : ifCond.holds .ge (lcmpW u v) = true := XT.ll_ge_t b
theorem ll_ge_f {u v : Int64} (b : u < v) : ifCond.holds .ge (lcmpW u v) = false := XT.ll_ge_f b
theorem W.lif_ge (C : Cx p s m meth c Z y bytes ml ret) {u v : Int64} {o : Int} (pc' : Nat) (d : decode bytes pc = .ok (.ifCond .ge o, 3)) (hp : (pc : Int) + o = pc') (yes : ¬ u < v → W p l e R s m args below meth c n0 Q kc ks k n h pc' ls st) (no : u < v → W p l e R s m args below meth c n0 Q kc ks k n h (pc + 3) ls st) : W p l e R s m args below meth c n0 Q kc ks k n h pc ls (.int (lcmpW u v) :: st) := by
  by_cases b : u < v
  · exact W.lift (fun T t H S => XS.ifNo H C.1 rfl (C.a d) rfl (ll_ge_f b) S) (no b)
  · exact W.lift (fun T t H S => XS.ifYes H C.1 rfl (pc0 := pc) (pc' := pc') rfl (C.a d) rfl (ll_ge_t b) (jmp hp).1 (jmp hp).2 S) (yes b)
theorem W.icmp_gt (C : Cx p s m meth c Z y bytes ml ret) {u v : Int32} {o : Int} (pc' : Nat) (d : decode bytes pc = .ok (.if_icmp .gt o, 3)) (hp : (pc : Int) + o = pc') (yes : v < u → W p l e R s m args below meth c n0 Q kc ks k n h pc' ls st) (no : ¬ v < u → W p l e R s m args below meth c n0 Q kc ks k n h (pc + 3) ls st) : W p l e R s m args below meth c n0 Q kc ks k n h pc ls (.int v :: .int u :: st) := by
  by_cases b : v < u
  · exact W.lift (fun T t H S => XS.icmpYes H C.1 rfl (pc0 := pc) (pc' := pc') rfl (C.a d) rfl (XT.ii_gt_t b) (jmp hp).1 (jmp hp).2 S) (yes b)
  · exact W.lift (fun T t H S => XS.icmpNo H C.1 rfl (C.a d) rfl (XT.ii_gt_f b) S) (no b)
theorem W.if_gt (C : Cx p s m meth c Z y bytes ml ret) {u : Int32} {o : Int} (pc' : Nat) (d : decode bytes pc = .ok (.ifCond .gt o, 3)) (hp : (pc : Int) + o = pc') (yes : 0 < u → W p l e R s m args below meth c n0 Q kc ks k n h pc' ls st) (no : ¬ 0 < u → W p l e R s m args below meth c n0 Q kc ks k n h (pc + 3) ls st) : W p l e R s m args below meth c n0 Q kc ks k n h pc ls (.int u :: st) := by
  by_cases b : 0 < u
  · exact W.lift (fun T t H S => XS.ifYes H C.1 rfl (pc0 := pc) (pc' := pc') rfl (C.a d) rfl (XT.i0_gt_t b) (jmp hp).1 (jmp hp).2 S) (yes b)
  · exact W.lift (fun T t H S => XS.ifNo H C.1 rfl (C.a d) rfl (XT.i0_gt_f b) S) (no b)
theorem ll_gt_t {u v : Int64} (b : v < u) : ifCond.holds .gt (lcmpW u v) = true := XT.ll_gt_t b
theorem ll_gt_f {u v : Int64} (b : ¬ v < u) : ifCond.holds .gt (lcmpW u v) = false := XT.ll_gt_f b
theorem W.lif_gt (C : Cx p s m meth c Z y bytes ml ret) {u v : Int64} {o : Int} (pc' : Nat) (d : decode bytes pc = .ok (.ifCond .gt o, 3)) (hp : (pc : Int) + o = pc') (yes : v < u → W p l e R s m args below meth c n0 Q kc ks k n h pc' ls st) (no : ¬ v < u → W p l e R s m args below meth c n0 Q kc ks k n h (pc + 3) ls st) : W p l e R s m args below meth c n0 Q kc ks k n h pc ls (.int (lcmpW u v) :: st) := by
  by_cases b : v < u
  · exact W.lift (fun T t H S => XS.ifYes H C.1 rfl (pc0 := pc) (pc' := pc') rfl (C.a d) rfl (ll_gt_t b) (jmp hp).1 (jmp hp).2 S) (yes b)
  · exact W.lift (fun T t H S => XS.ifNo H C.1 rfl (C.a d) rfl (ll_gt_f b) S) (no b)
theorem W.icmp_le (C : Cx p s m meth c Z y bytes ml ret) {u v : Int32} {o : Int} (pc' : Nat) (d : decode bytes pc = .ok (.if_icmp .le o, 3)) (hp : (pc : Int) + o = pc') (yes : ¬ v < u → W p l e R s m args below meth c n0 Q kc ks k n h pc' ls st) (no : v < u → W p l e R s m args below meth c n0 Q kc ks k n h (pc + 3) ls st) : W p l e R s m args below meth c n0 Q kc ks k n h pc ls (.int v :: .int u :: st) := by
  by_cases b : v < u
  · exact W.lift (fun T t H S => XS.icmpNo H C.1 rfl (C.a d) rfl (XT.ii_le_f b) S) (no b)
  · exact W.lift (fun T t H S => XS.icmpYes H C.1 rfl (pc0 := pc) (pc' := pc') rfl (C.a d) rfl (XT.ii_le_t b) (jmp hp).1 (jmp hp).2 S) (yes b)
theorem W.if_le (C : Cx p s m meth c Z y bytes ml ret) {u : Int32} {o : Int} (pc' : Nat) (d : decode bytes pc = .ok (.ifCond .le o, 3)) (hp : (pc : Int) + o = pc') (yes : ¬ 0 < u → W p l e R s m args below meth c n0 Q kc ks k n h pc' ls st) (no : 0 < u → W p l e R s m args below meth c n0 Q kc ks k n h (pc + 3) ls st) : W p l e R s m args below meth c n0 Q kc ks k n h pc ls (.int u :: st) := by
  by_cases b : 0 < u
  · exact W.lift (fun T t H S => XS.ifNo H C.1 rfl (C.a d) rfl (XT.i0_le_f b) S) (no b)
  · exact W.lift (fun T t H S => XS.ifYes H C.1 rfl (pc0 := pc) (pc' := pc') rfl (C.a d) rfl (XT.i0_le_t b) (jmp hp).1 (jmp hp).2 S) (yes b)
theorem ll_le_t {u v : Int64} (b : ¬ v < u) : ifCond.holds .le (lcmpW u v) = true := XT.ll_le_t b
theorem ll_le_f {u v : Int64} (b : v < u) : ifCond.holds .le (lcmpW u v) = false := XT.ll_le_f b
theorem W.lif_le (C : Cx p s m meth c Z y bytes ml ret) {u v : Int64} {o : Int} (pc' : Nat) (d : decode bytes pc = .ok (.ifCond .le o, 3)) (hp : (pc : Int) + o = pc') (yes : ¬ v < u → W p l e R s m args below meth c n0 Q kc ks k n h pc' ls st) (no : v < u → W p l e R s m args below meth c n0 Q kc ks k n h (pc + 3) ls st) : W p l e R s m args below meth c n0 Q kc ks k n h pc ls (.int (lcmpW u v) :: st) := by
  by_cases b : v < u
  · exact W.lift (fun T t H S => XS.ifNo H C.1 rfl (C.a d) rfl (ll_le_f b) S) (no b)
  · exact W.lift (fun T t H S => XS.ifYes H C.1 rfl (pc0 := pc) (pc' := pc') rfl (C.a d) rfl (ll_le_t b) (jmp hp).1 (jmp hp).2 S) (yes b)
theorem W.ifnullNo (C : Cx p s m meth c Z y bytes ml ret) {b : Addr} {o : Int} (d : decode bytes pc = .ok (.ifnull o, 3)) (K : W p l e R s m args below meth c n0 Q kc ks k n h (pc + 3) ls st) : W p l e R s m args below meth c n0 Q kc ks k n h pc ls (.ref b :: st) :=
  W.lift (fun T t H S => XS.ifnullNo H C.1 rfl (C.a d) rfl S) K
theorem W.ifnullYes (C : Cx p s m meth c Z y bytes ml ret) {o : Int} (pc' : Nat) (d : decode bytes pc = .ok (.ifnull o, 3)) (hp : (pc : Int) + o = pc') (K : W p l e R s m args below meth c n0 Q kc ks k n h pc' ls st) : W p l e R s m args below meth c n0 Q kc ks k n h pc ls (.null :: st) :=
  W.lift (fun T t H S => XS.ifnullYes H C.1 rfl (pc0 := pc) (pc' := pc') rfl (C.a d) rfl (jmp hp).1 (jmp hp).2 S) K
theorem W.ifnonnullYes (C : Cx p s m meth c Z y bytes ml ret) {b : Addr} {o : Int} (pc' : Nat) (d : decode bytes pc = .ok (.ifnonnull o, 3)) (hp : (pc : Int) + o = pc') (K : W p l e R s m args below meth c n0 Q kc ks k n h pc' ls st) : W p l e R s m args below meth c n0 Q kc ks k n h pc ls (.ref b :: st) :=
  W.lift (fun T t H S => XT.ifnonnullYes H C.1 rfl (pc0 := pc) (pc' := pc') rfl (C.a d) rfl (jmp hp).1 (jmp hp).2 S) K
theorem W.ifnonnullNo (C : Cx p s m meth c Z y bytes ml ret) {o : Int} (d : decode bytes pc = .ok (.ifnonnull o, 3)) (K : W p l e R s m args below meth c n0 Q kc ks k n h (pc + 3) ls st) : W p l e R s m args below meth c n0 Q kc ks k n h pc ls (.null :: st) :=
  W.lift (fun T t H S => XT.ifnonnullNo H C.1 rfl (C.a d) rfl S) K
theorem W.acmp_eq (C : Cx p s m meth c Z y bytes ml ret) {u v : Value} {o : Int} (pc' : Nat) (d : decode bytes pc = .ok (.if_acmp .eq o, 3)) (hu : u.isRef = true) (hv : v.isRef = true) (hp : (pc : Int) + o = pc') (yes : u = v → W p l e R s m args below meth c n0 Q kc ks k n h pc' ls st) (no : ¬ u = v → W p l e R s m args below meth c n0 Q kc ks k n h (pc + 3) ls st) : W p l e R s m args below meth c n0 Q kc ks k n h pc ls (v :: u :: st) := by
  by_cases b : u = v
  · exact W.lift (fun T t H S => XT.acmpYes H C.1 rfl (pc0 := pc) (pc' := pc') rfl (C.a d) rfl hu hv (XT.aa_eq_t b) (jmp hp).1 (jmp hp).2 S) (yes b)
  · exact W.lift (fun T t H S => XT.acmpNo H C.1 rfl (C.a d) rfl hu hv (XT.aa_eq_f b) S) (no b)
theorem W.acmp_ne (C : Cx p s m meth c Z y bytes ml ret) {u v : Value} {o : Int} (pc' : Nat) (d : decode bytes pc = .ok (.if_acmp .ne o, 3)) (hu : u.isRef = true) (hv : v.isRef = true) (hp : (pc : Int) + o = pc') (yes : ¬ u = v → W p l e R s m args below meth c n0 Q kc ks k n h pc' ls st) (no : u = v → W p l e R s m args below meth c n0 Q kc ks k n h (pc + 3) ls st) : W p l e R s m args below meth c n0 Q kc ks k n h pc ls (v :: u :: st) := by
  by_cases b : u = v
  · exact W.lift (fun T t H S => XT.acmpNo H C.1 rfl (C.a d) rfl hu hv (XT.aa_ne_f b) S) (no b)
  · exact W.lift (fun T t H S => XT.acmpYes H C.1 rfl (pc0 := pc) (pc' := pc') rfl (C.a d) rfl hu hv (XT.aa_ne_t b) (jmp hp).1 (jmp hp).2 S) (yes b)
theorem W.ldcI (C : Cx p s m meth c Z y bytes ml ret) {i : Nat} {v : Int32} (d : decode bytes pc = .ok (.ldc i, 2)) (w : (Jvm.Cond.constant y.cls i v).before a0 Z = true) (K : W p l e R s m args below meth c n0 Q kc ks k n h (pc + 2) ls (.int v :: st)) : W p l e R s m args below meth c n0 Q kc ks k n h pc ls st := fun T locs X eT N => by
  obtain ⟨s₂, o, h1, h2⟩ := K T locs X eT N
  exact ⟨s₂, o, X.ldcI C.1 C.2.2.1 (mvT C.2.1 w) rfl (C.a d) h1, h2⟩
theorem W.ldcWI (C : Cx p s m meth c Z y bytes ml ret) {i : Nat} {v : Int32} (d : decode bytes pc = .ok (.ldc_w i, 3)) (w : (Jvm.Cond.constant y.cls i v).before a0 Z = true) (K : W p l e R s m args below meth c n0 Q kc ks k n h (pc + 3) ls (.int v :: st)) : W p l e R s m args below meth c n0 Q kc ks k n h pc ls st := fun T locs X eT N => by
  obtain ⟨s₂, o, h1, h2⟩ := K T locs X eT N
  exact ⟨s₂, o, X.ldcWI C.1 C.2.2.1 (mvT C.2.1 w) rfl (C.a d) h1, h2⟩
theorem W.ldc2J (C : Cx p s m meth c Z y bytes ml ret) {i : Nat} {v : Int64} (d : decode bytes pc = .ok (.ldc2_w i, 3)) (w : (Jvm.Cond.constantLong y.cls i v).before a0 Z = true) (K : W p l e R s m args below meth c n0 Q kc ks k n h (pc + 3) ls (.long v :: st)) : W p l e R s m args below meth c n0 Q kc ks k n h pc ls st := fun T locs X eT N => by
  obtain ⟨s₂, o, h1, h2⟩ := K T locs X eT N
  exact ⟨s₂, o, X.ldc2J C.1 C.2.2.1 (mvT C.2.1 w) rfl (C.a d) h1, h2⟩
theorem W.iret {t : FieldType} {z : Int32} (C : Cx p s m meth c Z y bytes ml (some t)) (d : decode bytes pc = .ok (.ireturn, 1)) (ht : t = .int ∨ t = .boolean ∨ t = .byte ∨ t = .char ∨ t = .short) (hn : narrow t (.int z) = .int z) (hk : k ≤ kc) (hs : n ≤ ks) (q : Q (some (.int z)) h) : W p l e R s m args below meth c n0 Q kc ks k n h pc ls (.int z :: st) := fun T locs X eT N => by
  obtain ⟨fs, hr, hrun, hended, hW, hsame⟩ := X.leave (v := some (.int z)) (fun q => by rw [C.2.2.2.2.2.1] at q; cases q) C.2.2.2.2.2.2.1
  exact ⟨_, _, retOut X C.1 C.2.2.2.2.2.1 hn (Or.inl ⟨rfl, ht, z, rfl⟩) (C.a d) hr, hrun, hended, _, _, rfl, ⟨by subst eT; exact q, N⟩, ⟨_, rfl⟩, hW, hsame.mono hk hs⟩
theorem W.lret {t : FieldType} {z : Int64} (C : Cx p s m meth c Z y bytes ml (some t)) (d : decode bytes pc = .ok (.lreturn, 1)) (ht : t = .long) (hn : narrow t (.long z) = .long z) (hk : k ≤ kc) (hs : n ≤ ks) (q : Q (some (.long z)) h) : W p l e R s m args below meth c n0 Q kc ks k n h pc ls (.long z :: st) := fun T locs X eT N => by
  obtain ⟨fs, hr, hrun, hended, hW, hsame⟩ := X.leave (v := some (.long z)) (fun q => by rw [C.2.2.2.2.2.1] at q; cases q) C.2.2.2.2.2.2.1
  exact ⟨_, _, retOut X C.1 C.2.2.2.2.2.1 hn (Or.inr (Or.inl ⟨rfl, ht, z, rfl⟩)) (C.a d) hr, hrun, hended, _, _, rfl, ⟨by subst eT; exact q, N⟩, ⟨_, rfl⟩, hW, hsame.mono hk hs⟩
theorem W.aret {t : FieldType} {z : Value} (C : Cx p s m meth c Z y bytes ml (some t)) (d : decode bytes pc = .ok (.areturn, 1)) (ht : t.isReference = true) (hz : z.isRef = true) (hn : narrow t (z) = z) (hk : k ≤ kc) (hs : n ≤ ks) (q : Q (some (z)) h) : W p l e R s m args below meth c n0 Q kc ks k n h pc ls (z :: st) := fun T locs X eT N => by
  obtain ⟨fs, hr, hrun, hended, hW, hsame⟩ := X.leave (v := some (z)) (fun q => by rw [C.2.2.2.2.2.1] at q; cases q) C.2.2.2.2.2.2.1
  exact ⟨_, _, retOut X C.1 C.2.2.2.2.2.1 hn (Or.inr (Or.inr (Or.inr (Or.inr ⟨rfl, ht, hz⟩)))) (C.a d) hr, hrun, hended, _, _, rfl, ⟨by subst eT; exact q, N⟩, ⟨_, rfl⟩, hW, hsame.mono hk hs⟩
theorem W.retV (C : Cx p s m meth c Z y bytes ml none) (d : decode bytes pc = .ok (.return_, 1)) (hk : k ≤ kc) (hs : n ≤ ks) (q : Q none h) : W p l e R s m args below meth c n0 Q kc ks k n h pc ls [] := fun T locs X eT N => by
  obtain ⟨fs, hr, hrun, hended, hW, hsame⟩ := X.leave (v := none) (fun _ => rfl) C.2.2.2.2.2.2.1
  exact ⟨_, _, X.returnOut C.1 C.2.2.2.2.2.1 (C.a d) hr, hrun, hended, _, _, rfl, ⟨by subst eT; exact q, N⟩, ⟨_, rfl⟩, hW, hsame.mono hk hs⟩
theorem W.callS (C : Cx p s m meth c Z y bytes ml ret) {y' : MethodName} {index : Nat} {bytes' : ByteArray} {ml' : Nat} {ret' : Option FieldType} {rm : Room} {Q' : Option Value → Heap → Prop} (d : decode bytes pc = .ok (.invokestatic index, 3)) (w1 : (Jvm.Cond.methodLink y.cls index y').before a0 Z = true) (w2 : (Jvm.Cond.static y').before a0 Z = true) (w3 : (Jvm.Cond.initialized y'.cls).before a0 Z = true) (w4 : (Jvm.Cond.code y' bytes' ml' ret').before a0 Z = true) (hy : y'.cls ≠ "java/lang/invoke/MethodHandle" ∧ y'.cls ≠ "java/lang/invoke/VarHandle")
    {argsL rest : List Value} (hst : st = argsL.reverse ++ rest) (hlen : ∀ sig, parseMethodDescriptor y'.desc = some sig → argsL.length = sig.parameters.length) (D : Con l Z y' bytes' ml' ret' rm argsL.toArray h n0 Q') (w k' n' : Nat) (hW : (rest.map fun v => v.category).sum = w) (hk : k + rm.cells = k') (hn : n + rm.slots = n') (hf : rm.frames + 1 ≤ R.frames) (hl : w + (ml' + 11) + rm.locals ≤ R.locals) (hc : k' ≤ R.cells) (hs : n' ≤ R.slots) (hsz : ls.size = ml)
    (K : ∀ v h', Q' v h' → W p l e R s m args below meth c n0 Q kc ks k' n' h' (pc + 3) ls (v.toList ++ rest)) : W p l e R s m args below meth c n0 Q kc ks k n h pc ls st := fun T locs X eT N => by
  obtain ⟨_, _, ⟨T1, L1, k1, n1⟩, -, X1, ⟨Lc1, hQ1, l1, y1, z1⟩, st1⟩ := Jvm.LawKit.callS X C.1 (y := y') C.2.2.1 (mvT C.2.1 w1) (mvT C.2.1 w2) (mvT C.2.1 w3) (mvT C.2.1 w4) hy (backOf (W := w) (Q := fun v h' L => Q' v h' ∧ Fr n0 L) (D []) C.2.1 w4 w3 hf hl) (g := mkF m pc ls st) rfl (hsz.trans C.2.2.2.2.1.symm) (argsL := argsL) (rest := rest) hlen hst (by show 2 * 0 + _ ≤ _; omega) (C.a d) (fun _ _ => ⟨rfl, eT, by rw [hk]; exact hc, by rw [hn]; exact hs⟩)
  dsimp only [Pt.U, Pt.locs, Pt.cells, Pt.slots] at X1 l1 y1 z1 st1 hQ1
  subst l1
  rw [hk] at y1
  rw [hn] at z1
  subst y1 z1
  obtain ⟨s₂, o, g1, g2⟩ := K _ _ hQ1.1 T1 _ X1 rfl (Fr.app N hQ1.2)
  exact ⟨s₂, o, st1 _ g1, g2⟩
theorem W.callI (C : Cx p s m meth c Z y bytes ml ret) {y' : MethodName} {index : Nat} {bytes' : ByteArray} {ml' : Nat} {rm : Room} {Q' : Option Value → Heap → Prop} (d : decode bytes pc = .ok (.invokespecial index, 3)) (hi : y'.name = "<init>") (w1 : (Jvm.Cond.methodLink y.cls index y').before a0 Z = true) (w2 : (Jvm.Cond.instanceMethod y').before a0 Z = true) (w3 : (Jvm.Cond.initialized y'.cls).before a0 Z = true) (w4 : (Jvm.Cond.code y' bytes' ml' none).before a0 Z = true) (hy : y'.cls ≠ "java/lang/invoke/MethodHandle" ∧ y'.cls ≠ "java/lang/invoke/VarHandle")
    {a : Addr} {argsL rest : List Value} (hst : st = argsL.reverse ++ .ref a :: rest) (hlen : ∀ sig, parseMethodDescriptor y'.desc = some sig → argsL.length = sig.parameters.length) (D : Con l Z y' bytes' ml' none rm (.ref a :: argsL).toArray h n0 Q') (w k' n' : Nat) (hW : (rest.map fun v => v.category).sum = w) (hk : k + rm.cells = k') (hn : n + rm.slots = n') (hf : rm.frames + 1 ≤ R.frames) (hl : w + (ml' + 11) + rm.locals ≤ R.locals) (hc : k' ≤ R.cells) (hs : n' ≤ R.slots) (hsz : ls.size = ml)
    (K : ∀ v h', Q' v h' → W p l e R s m args below meth c n0 Q kc ks k' n' h' (pc + 3) ls (v.toList ++ rest)) : W p l e R s m args below meth c n0 Q kc ks k n h pc ls st := fun T locs X eT N => by
  obtain ⟨_, _, ⟨T1, L1, k1, n1⟩, -, X1, ⟨Lc1, hQ1, l1, y1, z1⟩, st1⟩ := X.specialBack C.1 (y := y') hi C.2.2.1 (mvT C.2.1 w1) (mvT C.2.1 w2) (mvT C.2.1 w4) hy (backOf (W := w) (Q := fun v h' L => Q' v h' ∧ Fr n0 L) (D []) C.2.1 w4 w3 hf hl) (g := mkF m pc ls st) rfl (hsz.trans C.2.2.2.2.1.symm) (Steps.refl _) (a := a) (argsL := argsL) (rest := rest) hlen hst (by show 2 * 0 + _ ≤ _; omega) (C.a d) (fun _ _ => ⟨rfl, eT, by rw [hk]; exact hc, by rw [hn]; exact hs⟩)
  dsimp only [Pt.U, Pt.locs, Pt.cells, Pt.slots] at X1 l1 y1 z1 st1 hQ1
  subst l1
  rw [hk] at y1
  rw [hn] at z1
  subst y1 z1
  obtain ⟨s₂, o, g1, g2⟩ := K _ _ hQ1.1 T1 _ X1 rfl (Fr.app N hQ1.2)
  exact ⟨s₂, o, st1.trans g1, g2⟩
theorem W.callV (C : Cx p s m meth c Z y bytes ml ret) {y' : MethodName} {K0 : String} {index : Nat} {bytes' : ByteArray} {ml' : Nat} {ret' : Option FieldType} {rm : Room} {Q' : Option Value → Heap → Prop} (d : decode bytes pc = .ok (.invokevirtual index, 3)) (w1 : (Jvm.Cond.methodLink y.cls index y').before a0 Z = true) (w2 : (Jvm.Cond.declares y').before a0 Z = true) (w5 : (Jvm.Cond.selects K0 y' y').before a0 Z = true) (w6 : (Jvm.Cond.instanceMethod y').before a0 Z = true) (w3 : (Jvm.Cond.initialized y'.cls).before a0 Z = true) (w4 : (Jvm.Cond.code y' bytes' ml' ret').before a0 Z = true) (hy : y'.cls ≠ "java/lang/invoke/MethodHandle" ∧ y'.cls ≠ "java/lang/invoke/VarHandle")
    {a : Addr} (E : Exa Z h a K0) {argsL rest : List Value} (hst : st = argsL.reverse ++ .ref a :: rest) (hlen : ∀ sig, parseMethodDescriptor y'.desc = some sig → argsL.length = sig.parameters.length) (D : Con l Z y' bytes' ml' ret' rm (.ref a :: argsL).toArray h n0 Q') (w k' n' : Nat) (hW : (rest.map fun v => v.category).sum = w) (hk : k + rm.cells = k') (hn : n + rm.slots = n') (hf : rm.frames + 1 ≤ R.frames) (hl : w + (ml' + 11) + rm.locals ≤ R.locals) (hc : k' ≤ R.cells) (hs : n' ≤ R.slots) (hsz : ls.size = ml)
    (K : ∀ v h', Q' v h' → W p l e R s m args below meth c n0 Q kc ks k' n' h' (pc + 3) ls (v.toList ++ rest)) : W p l e R s m args below meth c n0 Q kc ks k n h pc ls st := fun T locs X eT N => by
  obtain ⟨cq, kq, qa, qb, qc⟩ := isOf C.2.1 eT E
  obtain ⟨_, _, ⟨T1, L1, k1, n1⟩, -, X1, ⟨Lc1, hQ1, l1, y1, z1⟩, st1⟩ := X.virtualBack C.1 (y := y') (z := y') C.2.2.1 (mvT C.2.1 w1) (mvT C.2.1 w2) (notFace_of_selects (args := #[]) (mvT C.2.1 w5)) (mvT C.2.1 w5) (mvT C.2.1 w6) hy (backOf (W := w) (Q := fun v h' L => Q' v h' ∧ Fr n0 L) (D []) C.2.1 w4 w3 hf hl) qa qc (g := mkF m pc ls st) rfl (hsz.trans C.2.2.2.2.1.symm) (Steps.refl _) (argsL := argsL) (rest := rest) hlen hst (by show 2 * 0 + _ ≤ _; omega) (C.a d) (fun _ _ => ⟨rfl, eT, by rw [hk]; exact hc, by rw [hn]; exact hs⟩)
  dsimp only [Pt.U, Pt.locs, Pt.cells, Pt.slots] at X1 l1 y1 z1 st1 hQ1
  subst l1
  rw [hk] at y1
  rw [hn] at z1
  subst y1 z1
  obtain ⟨s₂, o, g1, g2⟩ := K _ _ hQ1.1 T1 _ X1 rfl (Fr.app N hQ1.2)
  exact ⟨s₂, o, st1.trans g1, g2⟩
theorem W.initO (C : Cx p s m meth c Z y bytes ml ret) {index : Nat} (d : decode bytes pc = .ok (.invokespecial index, 3)) (w1 : (Jvm.Cond.methodLink y.cls index Lib.objectInit).before a0 Z = true) (w2 : (Jvm.Cond.instanceMethod Lib.objectInit).before a0 Z = true) (w3 : (Jvm.Cond.code Lib.objectInit ⟨#[0xb1]⟩ 1 none).before a0 Z = true)
    {a : Addr} (w : Nat) (hW : (st.map fun v => v.category).sum = w) (hf : 1 ≤ R.frames) (hl : w + 12 ≤ R.locals) (hsz : ls.size = ml) (K : W p l e R s m args below meth c n0 Q kc ks k n h (pc + 3) ls st) : W p l e R s m args below meth c n0 Q kc ks k n h pc ls (.ref a :: st) := fun T locs X eT N => by
  obtain ⟨T1, X1, e1, st1⟩ := Jvm.RoadKit.initO X C.1 C.2.1 C.2.2.1 w1 w2 w3 eT (g := mkF m pc ls (.ref a :: st)) rfl (hsz.trans C.2.2.2.2.1.symm) rfl (C.a d) hf (W := w) (by show 2 * 0 + _ ≤ _; omega) hl
  obtain ⟨s₂, o, g1, g2⟩ := K T1 _ X1 e1 N
  exact ⟨s₂, o, st1 _ g1, g2⟩
theorem W.new (C : Cx p s m meth c Z y bytes ml ret) {index sz : Nat} {K0 : String} (d : decode bytes pc = .ok (.new index, 3)) (w1 : (Jvm.Cond.classLink y.cls index K0).before a0 Z = true) (w2 : (Jvm.Cond.instantiable K0 sz).before a0 Z = true) (w3 : (Jvm.Cond.initialized K0).before a0 Z = true) (k' n' : Nat) (hk : k + 1 = k') (hn : n + sz = n') (hc : k' ≤ R.cells) (hs : n' ≤ R.slots)
    (K : ∀ a h', a = h.size → Ext h h' → Exa Z h' a K0 → (∀ {O nm d : String} {ty : FieldType}, Laid Z a0 K0 O nm d → parseFieldDescriptor d = some ty → Fld Z h' a O nm d (defaultValue ty)) → W p l e R s m args below meth c n0 Q kc ks k' n' h' (pc + 3) ls (.ref a :: st)) : W p l e R s m args below meth c n0 Q kc ks k n h pc ls st := fun T locs X eT N => by
  subst hk hn
  obtain ⟨T1, h1, X1, e1, E1, A1, D1, -, st1⟩ := newO X C.1 C.2.1 C.2.2.1 w1 w2 w3 eT (g := mkF m pc ls st) rfl (C.a d) hc hs
  obtain ⟨s₂, o, g1, g2⟩ := K _ h1 rfl E1 A1 D1 T1 _ X1 e1 N
  exact ⟨s₂, o, st1 _ g1, g2⟩
theorem W.getF (C : Cx p s m meth c Z y bytes ml ret) {index : Nat} {R0 O nm dd : String} (d : decode bytes pc = .ok (.getfield index, 3)) (w : (Jvm.Cond.fieldLink y.cls index R0 nm dd).before a0 Z = true) (via : Via Z R0 O nm dd) {a : Addr} {v : Value} (F : Fld Z h a O nm dd v) (K : W p l e R s m args below meth c n0 Q kc ks k n h (pc + 3) ls (v :: st)) : W p l e R s m args below meth c n0 Q kc ks k n h pc ls (.ref a :: st) := fun T locs X eT N => by
  obtain ⟨T1, X1, e1, st1⟩ := Jvm.RoadKit.getF X C.1 C.2.1 C.2.2.1 (host := "") (Or.inl w) via eT F (g := mkF m pc ls (.ref a :: st)) rfl rfl (C.a d)
  obtain ⟨s₂, o, g1, g2⟩ := K T1 _ X1 e1 N
  exact ⟨s₂, o, st1 _ g1, g2⟩
theorem W.getFN (C : Cx p s m meth c Z y bytes ml ret) {index : Nat} {R0 O nm dd host : String} (d : decode bytes pc = .ok (.getfield index, 3)) (w : (Jvm.Cond.fieldLinkNest y.cls index R0 nm dd host).before a0 Z = true) (via : Via Z R0 O nm dd) {a : Addr} {v : Value} (F : Fld Z h a O nm dd v) (K : W p l e R s m args below meth c n0 Q kc ks k n h (pc + 3) ls (v :: st)) : W p l e R s m args below meth c n0 Q kc ks k n h pc ls (.ref a :: st) := fun T locs X eT N => by
  obtain ⟨T1, X1, e1, st1⟩ := Jvm.RoadKit.getF X C.1 C.2.1 C.2.2.1 (host := host) (Or.inr w) via eT F (g := mkF m pc ls (.ref a :: st)) rfl rfl (C.a d)
  obtain ⟨s₂, o, g1, g2⟩ := K T1 _ X1 e1 N
  exact ⟨s₂, o, st1 _ g1, g2⟩
theorem W.getS (C : Cx p s m meth c Z y bytes ml ret) {index : Nat} {R0 O nm dd : String} (d : decode bytes pc = .ok (.getstatic index, 3)) (w : (Jvm.Cond.fieldLink y.cls index R0 nm dd).before a0 Z = true) (via : Via Z R0 O nm dd) {v : Value} (F : Sta Z h O nm dd v) (K : W p l e R s m args below meth c n0 Q kc ks k n h (pc + 3) ls (v :: st)) : W p l e R s m args below meth c n0 Q kc ks k n h pc ls st := fun T locs X eT N => by
  obtain ⟨T1, X1, e1, st1⟩ := Jvm.RoadKit.getS X C.1 C.2.1 (host := "") C.2.2.1 w via eT F (g := mkF m pc ls st) rfl (C.a d)
  obtain ⟨s₂, o, g1, g2⟩ := K T1 _ X1 e1 N
  exact ⟨s₂, o, st1 _ g1, g2⟩
theorem W.putF (C : Cx p s m meth c Z y bytes ml ret) {index kk : Nat} {R0 O nm dd K0 : String} {ty : FieldType} (d : decode bytes pc = .ok (.putfield index, 3)) (w : (Jvm.Cond.fieldLink y.cls index R0 nm dd).before a0 Z = true) (via : Via Z R0 O nm dd) {a : Addr} {v old : Value} (F : Fld Z h a O nm dd old) (E : Exa Z h a K0) (L : (Jvm.Cond.lays K0 O nm dd).before a0 Z = true ∨ ((Jvm.Cond.laysFinal K0 O nm dd).before a0 Z = true ∧ y.cls = O ∧ y.name = "<init>")) (wi : (Jvm.Cond.instantiable K0 kk).before a0 Z = true)
    (hty : parseFieldDescriptor dd = some ty) (hn : narrow ty v = v) (hf : fits ty v = true) (g : n0 ≤ a) (K : ∀ h', Wr h h' a (Jvm.RoadKit.slotOf Z O nm dd) v → W p l e R s m args below meth c n0 Q kc ks k n h' (pc + 3) ls st) : W p l e R s m args below meth c n0 Q kc ks k n h pc ls (v :: .ref a :: st) := fun T locs X eT N => by
  obtain ⟨T1, h1, X1, e1, W1, st1⟩ := Jvm.RoadKit.putF X C.1 C.2.1 C.2.2.1 (host := "") (Or.inl w) via eT F E (L.imp id fun q => ⟨q.1, q.2.1, C.2.2.2.2.2.2.2.trans q.2.2⟩) wi hty hn hf (g := mkF m pc ls (v :: .ref a :: st)) rfl rfl (C.a d)
  obtain ⟨s₂, o, g1, g2⟩ := K h1 W1 T1 _ X1 e1 (Fr.snoc X1 N g)
  exact ⟨s₂, o, st1 _ g1, g2⟩
/-- an array at a of component type ty that holds vs -/
def Al (Z : State) (h : Heap) (a : Addr) (ty : FieldType) (vs : List Value) : Prop := ∃ c : Cell, Arr Z h a c ty ∧ c.slots = vs.toArray
theorem Al.lt {a : Addr} {ty : FieldType} {vs : List Value} (F : Al Z h a ty vs) : a < h.size := by obtain ⟨c, A, -⟩ := F; exact A.lt
theorem Al.ext {a : Addr} {ty : FieldType} {vs : List Value} {h' : Heap} (F : Al Z h a ty vs) (E : Ext h h') : Al Z h' a ty vs := by obtain ⟨c, A, r⟩ := F; exact ⟨c, A.ext E, r⟩
theorem Al.other {a b : Addr} {ty : FieldType} {vs : List Value} {h' : Heap} {sl : Nat} {v : Value} (F : Al Z h b ty vs) (U : Wr h h' a sl v) (q : b ≠ a) : Al Z h' b ty vs := by obtain ⟨c, A, r⟩ := F; exact ⟨c, A.other U q, r⟩
theorem Al.keep {a : Addr} {ty : FieldType} {vs : List Value} {h' : Heap} {ws : List Addr} (F : Al Z h a ty vs) (K : Keep h h' ws) (q : a ∉ ws) : Al Z h' a ty vs := by obtain ⟨c, A, r⟩ := F; exact ⟨c, ⟨K.2.1 a c A.1 q, A.2⟩, r⟩
theorem Al.set {a : Addr} {ty : FieldType} {vs : List Value} {h' : Heap} {i : Nat} {v : Value} (F : Al Z h a ty vs) (U : Wr h h' a i v) : Al Z h' a ty (vs.set i v) := by
  obtain ⟨c, A, r⟩ := F
  refine ⟨_, A.same U, ?_⟩
  simp [Cell.setSlot, r]
theorem idx_of {j : Int32} {i : Nat} (hi : j.toInt = (i : Int)) : ¬ j < 0 ∧ j.toNatClampNeg = i := by
  refine ⟨fun q => ?_, ?_⟩
  · rw [Int32.lt_iff_toInt_lt] at q
    have : (0 : Int32).toInt = 0 := rfl
    omega
  · show j.toInt.toNat = i
    omega
theorem inb_of_idx {j : Int32} {i : Nat} {cl : Cell} {vs : List Value} (hi : j.toInt = (i : Int)) (r : cl.slots = vs.toArray) (hb : i < vs.length) : ¬ (j < 0 ∨ cl.slots.size ≤ j.toNatClampNeg) := by
  obtain ⟨q1, q2⟩ := idx_of hi
  rw [q2, r]
  simp only [List.size_toArray]
  rintro (z | z)
  · exact q1 z
  · omega
theorem W.arrlen (C : Cx p s m meth c Z y bytes ml ret) {a : Addr} {ty : FieldType} {vs : List Value} (z : Int32) (d : decode bytes pc = .ok (.arraylength, 1)) (A : Al Z h a ty vs) (hz : vs.length.toInt32 = z) (K : W p l e R s m args below meth c n0 Q kc ks k n h (pc + 1) ls (.int z :: st)) : W p l e R s m args below meth c n0 Q kc ks k n h pc ls (.ref a :: st) := fun T locs X eT N => by
  obtain ⟨cl, A, r⟩ := A
  obtain ⟨s₂, o, g1, g2⟩ := K T locs X eT N
  refine ⟨s₂, o, X.arraylength C.1 (by rw [eT]; exact A.1) (State.isArrayOf_alike C.2.1.alike A.2.1) (g := mkF m pc ls (.ref a :: st)) rfl rfl (C.a d) _ ?_, g2⟩
  have : cl.slots.size.toInt32 = z := by rw [r]; simpa using hz
  rw [this]; exact g1
theorem W.iaload (C : Cx p s m meth c Z y bytes ml ret) {a : Addr} {vs : List Value} {j : Int32} (i : Nat) {v : Value} (d : decode bytes pc = .ok (.iaload, 1)) (A : Al Z h a .int vs) (hi : j.toInt = (i : Int)) (hv : vs[i]? = some v) (K : W p l e R s m args below meth c n0 Q kc ks k n h (pc + 1) ls (v :: st)) : W p l e R s m args below meth c n0 Q kc ks k n h pc ls (.int j :: .ref a :: st) := fun T locs X eT N => by
  obtain ⟨cl, A, r⟩ := A
  obtain ⟨s₂, o, g1, g2⟩ := K T locs X eT N
  have hb : i < vs.length := (List.getElem?_eq_some_iff.mp hv).1
  exact ⟨s₂, o, X.iaload C.1 (j := j) (v := v) (by rw [eT]; exact A.1) (State.isArrayOf_alike C.2.1.alike A.2.1) A.2.2 (inb_of_idx hi r hb) (by rw [(idx_of hi).2, r]; simpa using hv) (g := mkF m pc ls (.int j :: .ref a :: st)) rfl rfl (C.a d) _ g1, g2⟩
theorem W.laload (C : Cx p s m meth c Z y bytes ml ret) {a : Addr} {vs : List Value} {j : Int32} (i : Nat) {v : Value} (d : decode bytes pc = .ok (.laload, 1)) (A : Al Z h a .long vs) (hi : j.toInt = (i : Int)) (hv : vs[i]? = some v) (K : W p l e R s m args below meth c n0 Q kc ks k n h (pc + 1) ls (v :: st)) : W p l e R s m args below meth c n0 Q kc ks k n h pc ls (.int j :: .ref a :: st) := fun T locs X eT N => by
  obtain ⟨cl, A, r⟩ := A
  obtain ⟨s₂, o, g1, g2⟩ := K T locs X eT N
  have hb : i < vs.length := (List.getElem?_eq_some_iff.mp hv).1
  exact ⟨s₂, o, X.laload C.1 (j := j) (v := v) (by rw [eT]; exact A.1) (State.isArrayOf_alike C.2.1.alike A.2.1) A.2.2 (inb_of_idx hi r hb) (by rw [(idx_of hi).2, r]; simpa using hv) (g := mkF m pc ls (.int j :: .ref a :: st)) rfl rfl (C.a d) _ g1, g2⟩
theorem W.baload (C : Cx p s m meth c Z y bytes ml ret) {a : Addr} {vs : List Value} {j : Int32} (i : Nat) {v : Value} (d : decode bytes pc = .ok (.baload, 1)) (A : Al Z h a .byte vs) (hi : j.toInt = (i : Int)) (hv : vs[i]? = some v) (K : W p l e R s m args below meth c n0 Q kc ks k n h (pc + 1) ls (v :: st)) : W p l e R s m args below meth c n0 Q kc ks k n h pc ls (.int j :: .ref a :: st) := fun T locs X eT N => by
  obtain ⟨cl, A, r⟩ := A
  obtain ⟨s₂, o, g1, g2⟩ := K T locs X eT N
  have hb : i < vs.length := (List.getElem?_eq_some_iff.mp hv).1
  exact ⟨s₂, o, X.baloadBytes C.1 (j := j) (v := v) (by rw [eT]; exact A.1) (State.isArrayOf_alike C.2.1.alike A.2.1) A.2.2 (inb_of_idx hi r hb) (by rw [(idx_of hi).2, r]; simpa using hv) (g := mkF m pc ls (.int j :: .ref a :: st)) rfl rfl (C.a d) _ g1, g2⟩
theorem W.caload (C : Cx p s m meth c Z y bytes ml ret) {a : Addr} {vs : List Value} {j : Int32} (i : Nat) {v : Value} (d : decode bytes pc = .ok (.caload, 1)) (A : Al Z h a .char vs) (hi : j.toInt = (i : Int)) (hv : vs[i]? = some v) (K : W p l e R s m args below meth c n0 Q kc ks k n h (pc + 1) ls (v :: st)) : W p l e R s m args below meth c n0 Q kc ks k n h pc ls (.int j :: .ref a :: st) := fun T locs X eT N => by
  obtain ⟨cl, A, r⟩ := A
  obtain ⟨s₂, o, g1, g2⟩ := K T locs X eT N
  have hb : i < vs.length := (List.getElem?_eq_some_iff.mp hv).1
  exact ⟨s₂, o, X.caload C.1 (j := j) (v := v) (by rw [eT]; exact A.1) (State.isArrayOf_alike C.2.1.alike A.2.1) A.2.2 (inb_of_idx hi r hb) (by rw [(idx_of hi).2, r]; simpa using hv) (g := mkF m pc ls (.int j :: .ref a :: st)) rfl rfl (C.a d) _ g1, g2⟩
theorem W.zaload (C : Cx p s m meth c Z y bytes ml ret) {a : Addr} {vs : List Value} {j : Int32} (i : Nat) {v : Value} (d : decode bytes pc = .ok (.baload, 1)) (A : Al Z h a .boolean vs) (hi : j.toInt = (i : Int)) (hv : vs[i]? = some v) (K : W p l e R s m args below meth c n0 Q kc ks k n h (pc + 1) ls (v :: st)) : W p l e R s m args below meth c n0 Q kc ks k n h pc ls (.int j :: .ref a :: st) := fun T locs X eT N => by
  obtain ⟨cl, A, r⟩ := A
  obtain ⟨s₂, o, g1, g2⟩ := K T locs X eT N
  have hb : i < vs.length := (List.getElem?_eq_some_iff.mp hv).1
  exact ⟨s₂, o, X.baloadBooleans C.1 (j := j) (v := v) (by rw [eT]; exact A.1) (State.isArrayOf_alike C.2.1.alike A.2.1) A.2.2 (inb_of_idx hi r hb) (by rw [(idx_of hi).2, r]; simpa using hv) (g := mkF m pc ls (.int j :: .ref a :: st)) rfl rfl (C.a d) _ g1, g2⟩
theorem W.aaload (C : Cx p s m meth c Z y bytes ml ret) {a : Addr} {ty : FieldType} {vs : List Value} {j : Int32} (i : Nat) {v : Value} (d : decode bytes pc = .ok (.aaload, 1)) (A : Al Z h a ty vs) (hty : ty.isReference = true) (hi : j.toInt = (i : Int)) (hv : vs[i]? = some v) (K : W p l e R s m args below meth c n0 Q kc ks k n h (pc + 1) ls (v :: st)) : W p l e R s m args below meth c n0 Q kc ks k n h pc ls (.int j :: .ref a :: st) := fun T locs X eT N => by
  obtain ⟨cl, A, r⟩ := A
  obtain ⟨s₂, o, g1, g2⟩ := K T locs X eT N
  have hb : i < vs.length := (List.getElem?_eq_some_iff.mp hv).1
  exact ⟨s₂, o, X.aaload C.1 (j := j) (v := v) (by rw [eT]; exact A.1) (State.isArrayOf_alike C.2.1.alike A.2.1) hty A.2.2 (inb_of_idx hi r hb) (by rw [(idx_of hi).2, r]; simpa using hv) (g := mkF m pc ls (.int j :: .ref a :: st)) rfl rfl (C.a d) _ g1, g2⟩
theorem W.iastore (C : Cx p s m meth c Z y bytes ml ret) {a : Addr} {vs : List Value} {j : Int32} {x : Int32} (i : Nat) (d : decode bytes pc = .ok (.iastore, 1)) (A : Al Z h a .int vs) (hi : j.toInt = (i : Int)) (hb : i < vs.length) (g : n0 ≤ a) (K : ∀ h', Wr h h' a i (.int x) → Al Z h' a .int (vs.set i (.int x)) → W p l e R s m args below meth c n0 Q kc ks k n h' (pc + 1) ls st) : W p l e R s m args below meth c n0 Q kc ks k n h pc ls (.int x :: .int j :: .ref a :: st) := fun T locs X eT N => by
  obtain ⟨cl, A, r⟩ := A
  obtain ⟨T1, h1, X1, e1, W1, st1⟩ := stI X C.1 C.2.1 eT A (j := j) (x := x) (inb_of_idx hi r hb) (g := mkF m pc ls (.int x :: .int j :: .ref a :: st)) rfl rfl (C.a d)
  have N1 := Fr.snoc X1 N g
  rw [(idx_of hi).2] at W1
  obtain ⟨s₂, o, g1, g2⟩ := K h1 W1 (Al.set ⟨cl, A, r⟩ W1) T1 _ X1 e1 N1
  exact ⟨s₂, o, st1 _ g1, g2⟩
theorem W.lastore (C : Cx p s m meth c Z y bytes ml ret) {a : Addr} {vs : List Value} {j : Int32} {x : Int64} (i : Nat) (d : decode bytes pc = .ok (.lastore, 1)) (A : Al Z h a .long vs) (hi : j.toInt = (i : Int)) (hb : i < vs.length) (g : n0 ≤ a) (K : ∀ h', Wr h h' a i (.long x) → Al Z h' a .long (vs.set i (.long x)) → W p l e R s m args below meth c n0 Q kc ks k n h' (pc + 1) ls st) : W p l e R s m args below meth c n0 Q kc ks k n h pc ls (.long x :: .int j :: .ref a :: st) := fun T locs X eT N => by
  obtain ⟨cl, A, r⟩ := A
  obtain ⟨T1, h1, X1, e1, W1, st1⟩ := stJ X C.1 C.2.1 eT A (j := j) (x := x) (inb_of_idx hi r hb) (g := mkF m pc ls (.long x :: .int j :: .ref a :: st)) rfl rfl (C.a d)
  have N1 := Fr.snoc X1 N g
  rw [(idx_of hi).2] at W1
  obtain ⟨s₂, o, g1, g2⟩ := K h1 W1 (Al.set ⟨cl, A, r⟩ W1) T1 _ X1 e1 N1
  exact ⟨s₂, o, st1 _ g1, g2⟩
theorem W.bastore (C : Cx p s m meth c Z y bytes ml ret) {a : Addr} {vs : List Value} {j : Int32} {x : Int32} (i : Nat) (d : decode bytes pc = .ok (.bastore, 1)) (A : Al Z h a .byte vs) (hi : j.toInt = (i : Int)) (hb : i < vs.length) (g : n0 ≤ a) (K : ∀ h', Wr h h' a i (.int x.toInt8.toInt32) → Al Z h' a .byte (vs.set i (.int x.toInt8.toInt32)) → W p l e R s m args below meth c n0 Q kc ks k n h' (pc + 1) ls st) : W p l e R s m args below meth c n0 Q kc ks k n h pc ls (.int x :: .int j :: .ref a :: st) := fun T locs X eT N => by
  obtain ⟨cl, A, r⟩ := A
  obtain ⟨T1, h1, X1, e1, W1, st1⟩ := stB X C.1 C.2.1 eT A (j := j) (x := x) (inb_of_idx hi r hb) (g := mkF m pc ls (.int x :: .int j :: .ref a :: st)) rfl rfl (C.a d)
  have N1 := Fr.snoc X1 N g
  rw [(idx_of hi).2] at W1
  obtain ⟨s₂, o, g1, g2⟩ := K h1 W1 (Al.set ⟨cl, A, r⟩ W1) T1 _ X1 e1 N1
  exact ⟨s₂, o, st1 _ g1, g2⟩
theorem W.castore (C : Cx p s m meth c Z y bytes ml ret) {a : Addr} {vs : List Value} {j : Int32} {x : Int32} (i : Nat) (d : decode bytes pc = .ok (.castore, 1)) (A : Al Z h a .char vs) (hi : j.toInt = (i : Int)) (hb : i < vs.length) (g : n0 ≤ a) (K : ∀ h', Wr h h' a i (.int x.toUInt32.toUInt16.toUInt32.toInt32) → Al Z h' a .char (vs.set i (.int x.toUInt32.toUInt16.toUInt32.toInt32)) → W p l e R s m args below meth c n0 Q kc ks k n h' (pc + 1) ls st) : W p l e R s m args below meth c n0 Q kc ks k n h pc ls (.int x :: .int j :: .ref a :: st) := fun T locs X eT N => by
  obtain ⟨cl, A, r⟩ := A
  obtain ⟨T1, h1, X1, e1, W1, st1⟩ := stC X C.1 C.2.1 eT A (j := j) (x := x) (inb_of_idx hi r hb) (g := mkF m pc ls (.int x :: .int j :: .ref a :: st)) rfl rfl (C.a d)
  have N1 := Fr.snoc X1 N g
  rw [(idx_of hi).2] at W1
  obtain ⟨s₂, o, g1, g2⟩ := K h1 W1 (Al.set ⟨cl, A, r⟩ W1) T1 _ X1 e1 N1
  exact ⟨s₂, o, st1 _ g1, g2⟩
theorem W.zastore (C : Cx p s m meth c Z y bytes ml ret) {a : Addr} {vs : List Value} {j : Int32} {x : Int32} (i : Nat) (d : decode bytes pc = .ok (.bastore, 1)) (A : Al Z h a .boolean vs) (hi : j.toInt = (i : Int)) (hb : i < vs.length) (g : n0 ≤ a) (K : ∀ h', Wr h h' a i (.int (x &&& 1)) → Al Z h' a .boolean (vs.set i (.int (x &&& 1))) → W p l e R s m args below meth c n0 Q kc ks k n h' (pc + 1) ls st) : W p l e R s m args below meth c n0 Q kc ks k n h pc ls (.int x :: .int j :: .ref a :: st) := fun T locs X eT N => by
  obtain ⟨cl, A, r⟩ := A
  obtain ⟨T1, h1, X1, e1, W1, st1⟩ := stZ X C.1 C.2.1 eT A (j := j) (x := x) (inb_of_idx hi r hb) (g := mkF m pc ls (.int x :: .int j :: .ref a :: st)) rfl rfl (C.a d)
  have N1 := Fr.snoc X1 N g
  rw [(idx_of hi).2] at W1
  obtain ⟨s₂, o, g1, g2⟩ := K h1 W1 (Al.set ⟨cl, A, r⟩ W1) T1 _ X1 e1 N1
  exact ⟨s₂, o, st1 _ g1, g2⟩
theorem W.newP (C : Cx p s m meth c Z y bytes ml ret) {aty : ArrayType} {nn : Int32} (sz cap : Nat) (d : decode bytes pc = .ok (.newarray aty, 2)) (w : (Jvm.Cond.arrayClass (newarray.typeOf aty)).before a0 Z = true) (hn : nn.toInt = (sz : Int)) (hcap : sz ≤ cap) (hb : cap * 8 ≤ 536870912) (k' n' : Nat) (hk : k + 1 = k') (hn' : n + cap = n') (hc : k' ≤ R.cells) (hl : n' ≤ R.slots)
    (K : ∀ a h', a = h.size → Ext h h' → Al Z h' a (newarray.typeOf aty) (List.replicate sz (defaultValue (newarray.typeOf aty))) → W p l e R s m args below meth c n0 Q kc ks k' n' h' (pc + 2) ls (.ref a :: st)) : W p l e R s m args below meth c n0 Q kc ks k n h pc ls (.int nn :: st) := fun T locs X eT N => by
  subst hk hn'
  obtain ⟨T1, h1, cA, X1, e1, E1, A1, st1⟩ := Jvm.RoadKit.newP X C.1 C.2.1 w eT (g := mkF m pc ls (.int nn :: st)) rfl (C.a d) rfl (idx_of hn).1 (cap := cap) (by rw [(idx_of hn).2]; exact hcap) hb hc hl
  obtain ⟨s₂, o, g1, g2⟩ := K _ h1 rfl E1 ⟨_, A1, by simp [newA, (idx_of hn).2]⟩ T1 _ X1 e1 N
  exact ⟨s₂, o, st1 _ g1, g2⟩
end
theorem tkw {ts : List Jvm.Cond} {a0 : Array Value} {Z : State} (hw : ∀ d ∈ ts, d.before a0 Z = true) (i : Nat) {d : Jvm.Cond} (q : ts[i]? = some d) : d.before a0 Z = true := hw d (List.mem_of_getElem? q)
end Jvm.OwnKit
namespace Jvm.Pilot.@@N@@
open Jvm Jvm.ClassFile Sem Op Lib Jvm.Free Jvm.Stand Jvm.LawKit Jvm.RoadKit Bundle Jvm.OwnKit Jvm.Pilot.@@N@@.Jvm.D
abbrev y1 : MethodName := ⟨"java/lang/Math", "min", "(JJ)J"⟩
theorem d1_0 : decode jdk_29_method_70_code 0 = .ok (.lload_n 0, 1) := by decide +kernel
theorem d1_1 : decode jdk_29_method_70_code 1 = .ok (.lload_n 2, 1) := by decide +kernel
theorem d1_2 : decode jdk_29_method_70_code 2 = .ok (.lcmp, 1) := by decide +kernel
theorem d1_3 : decode jdk_29_method_70_code 3 = .ok (.ifCond .gt 7, 3) := by decide +kernel
theorem d1_6 : decode jdk_29_method_70_code 6 = .ok (.lload_n 0, 1) := by decide +kernel
theorem d1_7 : decode jdk_29_method_70_code 7 = .ok (.goto 4, 3) := by decide +kernel
theorem d1_10 : decode jdk_29_method_70_code 10 = .ok (.lload_n 2, 1) := by decide +kernel
theorem d1_11 : decode jdk_29_method_70_code 11 = .ok (.lreturn, 1) := by decide +kernel
theorem pf_1 : plainFor y1 = true := by first | exact plainFor_of_name (by first | (simp [plainName, overriddenIn]; done) | decide +kernel) | decide +kernel
theorem ef_1 (m : MethodId) (x : Int64) (y : Int64) : entryFrame m #[(.long x), (.long y)] 4 = mkF m 0 #[.val (.long x), .second, .val (.long y), .second] [] := by first | (simp [entryFrame, mkF, argsToLocals, Value.category]; done) | rfl
def own_min (x : Int64) (y : Int64) : Int64 := if y < x then y else x
set_option maxRecDepth 65536 in
set_option maxHeartbeats 40000000 in
theorem con_1 (l : Launch) (Z : State) (a0 : Array Value) (hw : ∀ d ∈ tables_1, d.before a0 Z = true) (h0 : Heap) (n0 : Nat) (x : Int64) (y : Int64)   : Con l Z y1 jdk_29_method_70_code 4 (some .long) ({ frames := 0, cells := 0, slots := 0, locals := 0 } : Room) #[(.long x), (.long y)] h0 n0 (Pu (some (.long (own_min x y))) h0) := by
  refine Con.of pf_1 (fun m => ef_1 m x y) ?_
  intro p e s m below meth c C
  refine W.lloadN C d1_0 rfl ?_
  refine W.lloadN C d1_1 rfl ?_
  refine W.lcmp C d1_2 ?_
  refine W.lif_gt C 10 d1_3 rfl (fun b1 => ?_) (fun b1 => ?_)
  · skip
    refine W.lloadN C d1_10 rfl ?_
    exact W.lret C d1_11 rfl rfl (by decide) (by decide) ⟨by show some _ = some _; rw [own_min, if_pos b1], rfl⟩
  · skip
    refine W.lloadN C d1_6 rfl ?_
    refine W.goto C 11 d1_7 rfl ?_
    exact W.lret C d1_11 rfl rfl (by decide) (by decide) ⟨by show some _ = some _; rw [own_min, if_neg b1], rfl⟩

abbrev y2 : MethodName := ⟨"java/lang/Math", "max", "(JJ)J"⟩
theorem d2_0 : decode jdk_29_method_66_code 0 = .ok (.lload_n 0, 1) := by decide +kernel
theorem d2_1 : decode jdk_29_method_66_code 1 = .ok (.lload_n 2, 1) := by decide +kernel
theorem d2_2 : decode jdk_29_method_66_code 2 = .ok (.lcmp, 1) := by decide +kernel
theorem d2_3 : decode jdk_29_method_66_code 3 = .ok (.ifCond .lt 7, 3) := by decide +kernel
theorem d2_6 : decode jdk_29_method_66_code 6 = .ok (.lload_n 0, 1) := by decide +kernel
theorem d2_7 : decode jdk_29_method_66_code 7 = .ok (.goto 4, 3) := by decide +kernel
theorem d2_10 : decode jdk_29_method_66_code 10 = .ok (.lload_n 2, 1) := by decide +kernel
theorem d2_11 : decode jdk_29_method_66_code 11 = .ok (.lreturn, 1) := by decide +kernel
theorem pf_2 : plainFor y2 = true := by first | exact plainFor_of_name (by first | (simp [plainName, overriddenIn]; done) | decide +kernel) | decide +kernel
theorem ef_2 (m : MethodId) (x : Int64) (y : Int64) : entryFrame m #[(.long x), (.long y)] 4 = mkF m 0 #[.val (.long x), .second, .val (.long y), .second] [] := by first | (simp [entryFrame, mkF, argsToLocals, Value.category]; done) | rfl
def own_max (x : Int64) (y : Int64) : Int64 := if x < y then y else x
set_option maxRecDepth 65536 in
set_option maxHeartbeats 40000000 in
theorem con_2 (l : Launch) (Z : State) (a0 : Array Value) (hw : ∀ d ∈ tables_1, d.before a0 Z = true) (h0 : Heap) (n0 : Nat) (x : Int64) (y : Int64)   : Con l Z y2 jdk_29_method_66_code 4 (some .long) ({ frames := 0, cells := 0, slots := 0, locals := 0 } : Room) #[(.long x), (.long y)] h0 n0 (Pu (some (.long (own_max x y))) h0) := by
  refine Con.of pf_2 (fun m => ef_2 m x y) ?_
  intro p e s m below meth c C
  refine W.lloadN C d2_0 rfl ?_
  refine W.lloadN C d2_1 rfl ?_
  refine W.lcmp C d2_2 ?_
  refine W.lif_lt C 10 d2_3 rfl (fun b1 => ?_) (fun b1 => ?_)
  · skip
    refine W.lloadN C d2_10 rfl ?_
    exact W.lret C d2_11 rfl rfl (by decide) (by decide) ⟨by show some _ = some _; rw [own_max, if_pos b1], rfl⟩
  · skip
    refine W.lloadN C d2_6 rfl ?_
    refine W.goto C 11 d2_7 rfl ?_
    exact W.lret C d2_11 rfl rfl (by decide) (by decide) ⟨by show some _ = some _; rw [own_max, if_neg b1], rfl⟩

abbrev y3 : MethodName := ⟨"com/example/dido/dido/CrossingModel", "leadingAbove", "([JII)I"⟩
theorem d3_0 : decode prog_9_method_15_code 0 = .ok (.iload_n 2, 1) := by decide +kernel
theorem d3_1 : decode prog_9_method_15_code 1 = .ok (.i2l, 1) := by decide +kernel
theorem d3_2 : decode prog_9_method_15_code 2 = .ok (.bipush 32, 2) := by decide +kernel
theorem d3_4 : decode prog_9_method_15_code 4 = .ok (.lshl, 1) := by decide +kernel
theorem d3_5 : decode prog_9_method_15_code 5 = .ok (.lstore_n 3, 1) := by decide +kernel
theorem d3_6 : decode prog_9_method_15_code 6 = .ok (.iconst 0, 1) := by decide +kernel
theorem d3_7 : decode prog_9_method_15_code 7 = .ok (.istore 5, 2) := by decide +kernel
theorem d3_9 : decode prog_9_method_15_code 9 = .ok (.iload_n 1, 1) := by decide +kernel
theorem d3_10 : decode prog_9_method_15_code 10 = .ok (.istore 6, 2) := by decide +kernel
theorem d3_12 : decode prog_9_method_15_code 12 = .ok (.iload 5, 2) := by decide +kernel
theorem d3_14 : decode prog_9_method_15_code 14 = .ok (.iload 6, 2) := by decide +kernel
theorem d3_16 : decode prog_9_method_15_code 16 = .ok (.if_icmp .ge 37, 3) := by decide +kernel
theorem d3_19 : decode prog_9_method_15_code 19 = .ok (.iload 5, 2) := by decide +kernel
theorem d3_21 : decode prog_9_method_15_code 21 = .ok (.iload 6, 2) := by decide +kernel
theorem d3_23 : decode prog_9_method_15_code 23 = .ok (.iadd, 1) := by decide +kernel
theorem d3_24 : decode prog_9_method_15_code 24 = .ok (.iconst 1, 1) := by decide +kernel
theorem d3_25 : decode prog_9_method_15_code 25 = .ok (.iushr, 1) := by decide +kernel
theorem d3_26 : decode prog_9_method_15_code 26 = .ok (.istore 7, 2) := by decide +kernel
theorem d3_28 : decode prog_9_method_15_code 28 = .ok (.aload_n 0, 1) := by decide +kernel
theorem d3_29 : decode prog_9_method_15_code 29 = .ok (.iload 7, 2) := by decide +kernel
theorem d3_31 : decode prog_9_method_15_code 31 = .ok (.laload, 1) := by decide +kernel
theorem d3_32 : decode prog_9_method_15_code 32 = .ok (.lload_n 3, 1) := by decide +kernel
theorem d3_33 : decode prog_9_method_15_code 33 = .ok (.lcmp, 1) := by decide +kernel
theorem d3_34 : decode prog_9_method_15_code 34 = .ok (.ifCond .ge 12, 3) := by decide +kernel
theorem d3_37 : decode prog_9_method_15_code 37 = .ok (.iload 7, 2) := by decide +kernel
theorem d3_39 : decode prog_9_method_15_code 39 = .ok (.iconst 1, 1) := by decide +kernel
theorem d3_40 : decode prog_9_method_15_code 40 = .ok (.iadd, 1) := by decide +kernel
theorem d3_41 : decode prog_9_method_15_code 41 = .ok (.istore 5, 2) := by decide +kernel
theorem d3_43 : decode prog_9_method_15_code 43 = .ok (.goto 7, 3) := by decide +kernel
theorem d3_46 : decode prog_9_method_15_code 46 = .ok (.iload 7, 2) := by decide +kernel
theorem d3_48 : decode prog_9_method_15_code 48 = .ok (.istore 6, 2) := by decide +kernel
theorem d3_50 : decode prog_9_method_15_code 50 = .ok (.goto (-38), 3) := by decide +kernel
theorem d3_53 : decode prog_9_method_15_code 53 = .ok (.iload 5, 2) := by decide +kernel
theorem d3_55 : decode prog_9_method_15_code 55 = .ok (.ireturn, 1) := by decide +kernel
theorem pf_3 : plainFor y3 = true := by first | exact plainFor_of_name (by first | (simp [plainName, overriddenIn]; done) | decide +kernel) | decide +kernel
theorem ef_3_0 (m : MethodId) (a1 : Addr) (p2 : Int32) : entryFrame m #[(.ref a1), (.int (0 : Int32)), (.int p2)] 8 = mkF m 0 #[.val (.ref a1), .val (.int (0 : Int32)), .val (.int p2), .unset, .unset, .unset, .unset, .unset] [] := by first | (simp [entryFrame, mkF, argsToLocals, Value.category]; done) | rfl
def own_la0 (p2 : Int32) (k0 : Int64) (k1 : Int64) (k2 : Int64) (k3 : Int64) : Int32 := (0 : Int32)
set_option maxRecDepth 65536 in
set_option maxHeartbeats 40000000 in
theorem con_3_0 (l : Launch) (Z : State) (a0 : Array Value) (hw : ∀ d ∈ tables_1, d.before a0 Z = true) (h0 : Heap) (n0 : Nat) (a1 : Addr) (p2 : Int32) (k0 : Int64) (k1 : Int64) (k2 : Int64) (k3 : Int64) (L1 : Al Z h0 a1 .long [(.long k0), (.long k1), (.long k2), (.long k3)]) : Con l Z y3 prog_9_method_15_code 8 (some .int) ({ frames := 0, cells := 0, slots := 0, locals := 0 } : Room) #[(.ref a1), (.int (0 : Int32)), (.int p2)] h0 n0 (Pu (some (.int (own_la0 p2 k0 k1 k2 k3))) h0) := by
  refine Con.of pf_3 (fun m => ef_3_0 m a1 p2) ?_
  intro p e s m below meth c C
  refine W.iloadN C d3_0 rfl ?_
  refine W.i2l C d3_1 ?_
  refine W.bipush C (32 : Int32) d3_2 rfl ?_
  refine W.lshl C d3_4 ?_
  refine W.lstoreN C #[.val (.ref a1), .val (.int (0 : Int32)), .val (.int p2), .val (.long (((p2).toInt64) <<< ((32 : Int32) &&& 0x3f).toInt64)), .second, .unset, .unset, .unset] d3_5 rfl ?_
  refine W.iconst C (0 : Int32) d3_6 rfl ?_
  refine W.istore C #[.val (.ref a1), .val (.int (0 : Int32)), .val (.int p2), .val (.long (((p2).toInt64) <<< ((32 : Int32) &&& 0x3f).toInt64)), .second, .val (.int (0 : Int32)), .unset, .unset] d3_7 rfl ?_
  refine W.iloadN C d3_9 rfl ?_
  refine W.istore C #[.val (.ref a1), .val (.int (0 : Int32)), .val (.int p2), .val (.long (((p2).toInt64) <<< ((32 : Int32) &&& 0x3f).toInt64)), .second, .val (.int (0 : Int32)), .val (.int (0 : Int32)), .unset] d3_10 rfl ?_
  refine W.iload C d3_12 rfl ?_
  refine W.iload C d3_14 rfl ?_
  refine W.icmp_ge C 53 d3_16 rfl (fun _ => ?_) (fun b => absurd b (by decide))
  refine W.iload C d3_53 rfl ?_
  exact W.iret C d3_55 (by simp) rfl (by decide) (by decide) ⟨by show some _ = some _; rw [own_la0], rfl⟩

theorem ef_3_1 (m : MethodId) (a1 : Addr) (p2 : Int32) : entryFrame m #[(.ref a1), (.int (1 : Int32)), (.int p2)] 8 = mkF m 0 #[.val (.ref a1), .val (.int (1 : Int32)), .val (.int p2), .unset, .unset, .unset, .unset, .unset] [] := by first | (simp [entryFrame, mkF, argsToLocals, Value.category]; done) | rfl
def own_la1 (p2 : Int32) (k0 : Int64) (k1 : Int64) (k2 : Int64) (k3 : Int64) : Int32 := if k0 < (((p2).toInt64) <<< ((32 : Int32) &&& 0x3f).toInt64) then (1 : Int32) else (0 : Int32)
set_option maxRecDepth 65536 in
set_option maxHeartbeats 40000000 in
theorem con_3_1 (l : Launch) (Z : State) (a0 : Array Value) (hw : ∀ d ∈ tables_1, d.before a0 Z = true) (h0 : Heap) (n0 : Nat) (a1 : Addr) (p2 : Int32) (k0 : Int64) (k1 : Int64) (k2 : Int64) (k3 : Int64) (L1 : Al Z h0 a1 .long [(.long k0), (.long k1), (.long k2), (.long k3)]) : Con l Z y3 prog_9_method_15_code 8 (some .int) ({ frames := 0, cells := 0, slots := 0, locals := 0 } : Room) #[(.ref a1), (.int (1 : Int32)), (.int p2)] h0 n0 (Pu (some (.int (own_la1 p2 k0 k1 k2 k3))) h0) := by
  refine Con.of pf_3 (fun m => ef_3_1 m a1 p2) ?_
  intro p e s m below meth c C
  refine W.iloadN C d3_0 rfl ?_
  refine W.i2l C d3_1 ?_
  refine W.bipush C (32 : Int32) d3_2 rfl ?_
  refine W.lshl C d3_4 ?_
  refine W.lstoreN C #[.val (.ref a1), .val (.int (1 : Int32)), .val (.int p2), .val (.long (((p2).toInt64) <<< ((32 : Int32) &&& 0x3f).toInt64)), .second, .unset, .unset, .unset] d3_5 rfl ?_
  refine W.iconst C (0 : Int32) d3_6 rfl ?_
  refine W.istore C #[.val (.ref a1), .val (.int (1 : Int32)), .val (.int p2), .val (.long (((p2).toInt64) <<< ((32 : Int32) &&& 0x3f).toInt64)), .second, .val (.int (0 : Int32)), .unset, .unset] d3_7 rfl ?_
  refine W.iloadN C d3_9 rfl ?_
  refine W.istore C #[.val (.ref a1), .val (.int (1 : Int32)), .val (.int p2), .val (.long (((p2).toInt64) <<< ((32 : Int32) &&& 0x3f).toInt64)), .second, .val (.int (0 : Int32)), .val (.int (1 : Int32)), .unset] d3_10 rfl ?_
  refine W.iload C d3_12 rfl ?_
  refine W.iload C d3_14 rfl ?_
  refine W.icmp_ge C 53 d3_16 rfl (fun b => absurd b (by decide)) (fun _ => ?_)
  refine W.iload C d3_19 rfl ?_
  refine W.iload C d3_21 rfl ?_
  refine W.iaddV C (1 : Int32) d3_23 (by decide) ?_
  refine W.iconst C (1 : Int32) d3_24 rfl ?_
  refine W.iushrV C (0 : Int32) d3_25 (by decide) ?_
  refine W.istore C #[.val (.ref a1), .val (.int (1 : Int32)), .val (.int p2), .val (.long (((p2).toInt64) <<< ((32 : Int32) &&& 0x3f).toInt64)), .second, .val (.int (0 : Int32)), .val (.int (1 : Int32)), .val (.int (0 : Int32))] d3_26 rfl ?_
  refine W.aloadN C d3_28 rfl rfl ?_
  refine W.iload C d3_29 rfl ?_
  refine W.laload C 0 d3_31 L1 rfl rfl ?_
  refine W.lloadN C d3_32 rfl ?_
  refine W.lcmp C d3_33 ?_
  refine W.lif_ge C 46 d3_34 rfl (fun b1 => ?_) (fun b1 => ?_)
  · skip
    refine W.iload C d3_46 rfl ?_
    refine W.istore C #[.val (.ref a1), .val (.int (1 : Int32)), .val (.int p2), .val (.long (((p2).toInt64) <<< ((32 : Int32) &&& 0x3f).toInt64)), .second, .val (.int (0 : Int32)), .val (.int (0 : Int32)), .val (.int (0 : Int32))] d3_48 rfl ?_
    refine W.goto C 12 d3_50 rfl ?_
    refine W.iload C d3_12 rfl ?_
    refine W.iload C d3_14 rfl ?_
    refine W.icmp_ge C 53 d3_16 rfl (fun _ => ?_) (fun b => absurd b (by decide))
    refine W.iload C d3_53 rfl ?_
    exact W.iret C d3_55 (by simp) rfl (by decide) (by decide) ⟨by show some _ = some _; rw [own_la1, if_neg b1], rfl⟩
  · skip
    refine W.iload C d3_37 rfl ?_
    refine W.iconst C (1 : Int32) d3_39 rfl ?_
    refine W.iaddV C (1 : Int32) d3_40 (by decide) ?_
    refine W.istore C #[.val (.ref a1), .val (.int (1 : Int32)), .val (.int p2), .val (.long (((p2).toInt64) <<< ((32 : Int32) &&& 0x3f).toInt64)), .second, .val (.int (1 : Int32)), .val (.int (1 : Int32)), .val (.int (0 : Int32))] d3_41 rfl ?_
    refine W.goto C 50 d3_43 rfl ?_
    refine W.goto C 12 d3_50 rfl ?_
    refine W.iload C d3_12 rfl ?_
    refine W.iload C d3_14 rfl ?_
    refine W.icmp_ge C 53 d3_16 rfl (fun _ => ?_) (fun b => absurd b (by decide))
    refine W.iload C d3_53 rfl ?_
    exact W.iret C d3_55 (by simp) rfl (by decide) (by decide) ⟨by show some _ = some _; rw [own_la1, if_pos b1], rfl⟩

theorem ef_3_2 (m : MethodId) (a1 : Addr) (p2 : Int32) : entryFrame m #[(.ref a1), (.int (2 : Int32)), (.int p2)] 8 = mkF m 0 #[.val (.ref a1), .val (.int (2 : Int32)), .val (.int p2), .unset, .unset, .unset, .unset, .unset] [] := by first | (simp [entryFrame, mkF, argsToLocals, Value.category]; done) | rfl
def own_la2 (p2 : Int32) (k0 : Int64) (k1 : Int64) (k2 : Int64) (k3 : Int64) : Int32 := if k1 < (((p2).toInt64) <<< ((32 : Int32) &&& 0x3f).toInt64) then (2 : Int32) else if k0 < (((p2).toInt64) <<< ((32 : Int32) &&& 0x3f).toInt64) then (1 : Int32) else (0 : Int32)
set_option maxRecDepth 65536 in
set_option maxHeartbeats 40000000 in
theorem con_3_2 (l : Launch) (Z : State) (a0 : Array Value) (hw : ∀ d ∈ tables_1, d.before a0 Z = true) (h0 : Heap) (n0 : Nat) (a1 : Addr) (p2 : Int32) (k0 : Int64) (k1 : Int64) (k2 : Int64) (k3 : Int64) (L1 : Al Z h0 a1 .long [(.long k0), (.long k1), (.long k2), (.long k3)]) : Con l Z y3 prog_9_method_15_code 8 (some .int) ({ frames := 0, cells := 0, slots := 0, locals := 0 } : Room) #[(.ref a1), (.int (2 : Int32)), (.int p2)] h0 n0 (Pu (some (.int (own_la2 p2 k0 k1 k2 k3))) h0) := by
  refine Con.of pf_3 (fun m => ef_3_2 m a1 p2) ?_
  intro p e s m below meth c C
  refine W.iloadN C d3_0 rfl ?_
  refine W.i2l C d3_1 ?_
  refine W.bipush C (32 : Int32) d3_2 rfl ?_
  refine W.lshl C d3_4 ?_
  refine W.lstoreN C #[.val (.ref a1), .val (.int (2 : Int32)), .val (.int p2), .val (.long (((p2).toInt64) <<< ((32 : Int32) &&& 0x3f).toInt64)), .second, .unset, .unset, .unset] d3_5 rfl ?_
  refine W.iconst C (0 : Int32) d3_6 rfl ?_
  refine W.istore C #[.val (.ref a1), .val (.int (2 : Int32)), .val (.int p2), .val (.long (((p2).toInt64) <<< ((32 : Int32) &&& 0x3f).toInt64)), .second, .val (.int (0 : Int32)), .unset, .unset] d3_7 rfl ?_
  refine W.iloadN C d3_9 rfl ?_
  refine W.istore C #[.val (.ref a1), .val (.int (2 : Int32)), .val (.int p2), .val (.long (((p2).toInt64) <<< ((32 : Int32) &&& 0x3f).toInt64)), .second, .val (.int (0 : Int32)), .val (.int (2 : Int32)), .unset] d3_10 rfl ?_
  refine W.iload C d3_12 rfl ?_
  refine W.iload C d3_14 rfl ?_
  refine W.icmp_ge C 53 d3_16 rfl (fun b => absurd b (by decide)) (fun _ => ?_)
  refine W.iload C d3_19 rfl ?_
  refine W.iload C d3_21 rfl ?_
  refine W.iaddV C (2 : Int32) d3_23 (by decide) ?_
  refine W.iconst C (1 : Int32) d3_24 rfl ?_
  refine W.iushrV C (1 : Int32) d3_25 (by decide) ?_
  refine W.istore C #[.val (.ref a1), .val (.int (2 : Int32)), .val (.int p2), .val (.long (((p2).toInt64) <<< ((32 : Int32) &&& 0x3f).toInt64)), .second, .val (.int (0 : Int32)), .val (.int (2 : Int32)), .val (.int (1 : Int32))] d3_26 rfl ?_
  refine W.aloadN C d3_28 rfl rfl ?_
  refine W.iload C d3_29 rfl ?_
  refine W.laload C 1 d3_31 L1 rfl rfl ?_
  refine W.lloadN C d3_32 rfl ?_
  refine W.lcmp C d3_33 ?_
  refine W.lif_ge C 46 d3_34 rfl (fun b1 => ?_) (fun b1 => ?_)
  · skip
    refine W.iload C d3_46 rfl ?_
    refine W.istore C #[.val (.ref a1), .val (.int (2 : Int32)), .val (.int p2), .val (.long (((p2).toInt64) <<< ((32 : Int32) &&& 0x3f).toInt64)), .second, .val (.int (0 : Int32)), .val (.int (1 : Int32)), .val (.int (1 : Int32))] d3_48 rfl ?_
    refine W.goto C 12 d3_50 rfl ?_
    refine W.iload C d3_12 rfl ?_
    refine W.iload C d3_14 rfl ?_
    refine W.icmp_ge C 53 d3_16 rfl (fun b => absurd b (by decide)) (fun _ => ?_)
    refine W.iload C d3_19 rfl ?_
    refine W.iload C d3_21 rfl ?_
    refine W.iaddV C (1 : Int32) d3_23 (by decide) ?_
    refine W.iconst C (1 : Int32) d3_24 rfl ?_
    refine W.iushrV C (0 : Int32) d3_25 (by decide) ?_
    refine W.istore C #[.val (.ref a1), .val (.int (2 : Int32)), .val (.int p2), .val (.long (((p2).toInt64) <<< ((32 : Int32) &&& 0x3f).toInt64)), .second, .val (.int (0 : Int32)), .val (.int (1 : Int32)), .val (.int (0 : Int32))] d3_26 rfl ?_
    refine W.aloadN C d3_28 rfl rfl ?_
    refine W.iload C d3_29 rfl ?_
    refine W.laload C 0 d3_31 L1 rfl rfl ?_
    refine W.lloadN C d3_32 rfl ?_
    refine W.lcmp C d3_33 ?_
    refine W.lif_ge C 46 d3_34 rfl (fun b2 => ?_) (fun b2 => ?_)
    · skip
      refine W.iload C d3_46 rfl ?_
      refine W.istore C #[.val (.ref a1), .val (.int (2 : Int32)), .val (.int p2), .val (.long (((p2).toInt64) <<< ((32 : Int32) &&& 0x3f).toInt64)), .second, .val (.int (0 : Int32)), .val (.int (0 : Int32)), .val (.int (0 : Int32))] d3_48 rfl ?_
      refine W.goto C 12 d3_50 rfl ?_
      refine W.iload C d3_12 rfl ?_
      refine W.iload C d3_14 rfl ?_
      refine W.icmp_ge C 53 d3_16 rfl (fun _ => ?_) (fun b => absurd b (by decide))
      refine W.iload C d3_53 rfl ?_
      exact W.iret C d3_55 (by simp) rfl (by decide) (by decide) ⟨by show some _ = some _; rw [own_la2, if_neg b1, if_neg b2], rfl⟩
    · skip
      refine W.iload C d3_37 rfl ?_
      refine W.iconst C (1 : Int32) d3_39 rfl ?_
      refine W.iaddV C (1 : Int32) d3_40 (by decide) ?_
      refine W.istore C #[.val (.ref a1), .val (.int (2 : Int32)), .val (.int p2), .val (.long (((p2).toInt64) <<< ((32 : Int32) &&& 0x3f).toInt64)), .second, .val (.int (1 : Int32)), .val (.int (1 : Int32)), .val (.int (0 : Int32))] d3_41 rfl ?_
      refine W.goto C 50 d3_43 rfl ?_
      refine W.goto C 12 d3_50 rfl ?_
      refine W.iload C d3_12 rfl ?_
      refine W.iload C d3_14 rfl ?_
      refine W.icmp_ge C 53 d3_16 rfl (fun _ => ?_) (fun b => absurd b (by decide))
      refine W.iload C d3_53 rfl ?_
      exact W.iret C d3_55 (by simp) rfl (by decide) (by decide) ⟨by show some _ = some _; rw [own_la2, if_neg b1, if_pos b2], rfl⟩
  · skip
    refine W.iload C d3_37 rfl ?_
    refine W.iconst C (1 : Int32) d3_39 rfl ?_
    refine W.iaddV C (2 : Int32) d3_40 (by decide) ?_
    refine W.istore C #[.val (.ref a1), .val (.int (2 : Int32)), .val (.int p2), .val (.long (((p2).toInt64) <<< ((32 : Int32) &&& 0x3f).toInt64)), .second, .val (.int (2 : Int32)), .val (.int (2 : Int32)), .val (.int (1 : Int32))] d3_41 rfl ?_
    refine W.goto C 50 d3_43 rfl ?_
    refine W.goto C 12 d3_50 rfl ?_
    refine W.iload C d3_12 rfl ?_
    refine W.iload C d3_14 rfl ?_
    refine W.icmp_ge C 53 d3_16 rfl (fun _ => ?_) (fun b => absurd b (by decide))
    refine W.iload C d3_53 rfl ?_
    exact W.iret C d3_55 (by simp) rfl (by decide) (by decide) ⟨by show some _ = some _; rw [own_la2, if_pos b1], rfl⟩

theorem ef_3_3 (m : MethodId) (a1 : Addr) (p2 : Int32) : entryFrame m #[(.ref a1), (.int (3 : Int32)), (.int p2)] 8 = mkF m 0 #[.val (.ref a1), .val (.int (3 : Int32)), .val (.int p2), .unset, .unset, .unset, .unset, .unset] [] := by first | (simp [entryFrame, mkF, argsToLocals, Value.category]; done) | rfl
def own_la3 (p2 : Int32) (k0 : Int64) (k1 : Int64) (k2 : Int64) (k3 : Int64) : Int32 := if k1 < (((p2).toInt64) <<< ((32 : Int32) &&& 0x3f).toInt64) then if k2 < (((p2).toInt64) <<< ((32 : Int32) &&& 0x3f).toInt64) then (3 : Int32) else (2 : Int32) else if k0 < (((p2).toInt64) <<< ((32 : Int32) &&& 0x3f).toInt64) then (1 : Int32) else (0 : Int32)
set_option maxRecDepth 65536 in
set_option maxHeartbeats 40000000 in
theorem con_3_3 (l : Launch) (Z : State) (a0 : Array Value) (hw : ∀ d ∈ tables_1, d.before a0 Z = true) (h0 : Heap) (n0 : Nat) (a1 : Addr) (p2 : Int32) (k0 : Int64) (k1 : Int64) (k2 : Int64) (k3 : Int64) (L1 : Al Z h0 a1 .long [(.long k0), (.long k1), (.long k2), (.long k3)]) : Con l Z y3 prog_9_method_15_code 8 (some .int) ({ frames := 0, cells := 0, slots := 0, locals := 0 } : Room) #[(.ref a1), (.int (3 : Int32)), (.int p2)] h0 n0 (Pu (some (.int (own_la3 p2 k0 k1 k2 k3))) h0) := by
  refine Con.of pf_3 (fun m => ef_3_3 m a1 p2) ?_
  intro p e s m below meth c C
  refine W.iloadN C d3_0 rfl ?_
  refine W.i2l C d3_1 ?_
  refine W.bipush C (32 : Int32) d3_2 rfl ?_
  refine W.lshl C d3_4 ?_
  refine W.lstoreN C #[.val (.ref a1), .val (.int (3 : Int32)), .val (.int p2), .val (.long (((p2).toInt64) <<< ((32 : Int32) &&& 0x3f).toInt64)), .second, .unset, .unset, .unset] d3_5 rfl ?_
  refine W.iconst C (0 : Int32) d3_6 rfl ?_
  refine W.istore C #[.val (.ref a1), .val (.int (3 : Int32)), .val (.int p2), .val (.long (((p2).toInt64) <<< ((32 : Int32) &&& 0x3f).toInt64)), .second, .val (.int (0 : Int32)), .unset, .unset] d3_7 rfl ?_
  refine W.iloadN C d3_9 rfl ?_
  refine W.istore C #[.val (.ref a1), .val (.int (3 : Int32)), .val (.int p2), .val (.long (((p2).toInt64) <<< ((32 : Int32) &&& 0x3f).toInt64)), .second, .val (.int (0 : Int32)), .val (.int (3 : Int32)), .unset] d3_10 rfl ?_
  refine W.iload C d3_12 rfl ?_
  refine W.iload C d3_14 rfl ?_
  refine W.icmp_ge C 53 d3_16 rfl (fun b => absurd b (by decide)) (fun _ => ?_)
  refine W.iload C d3_19 rfl ?_
  refine W.iload C d3_21 rfl ?_
  refine W.iaddV C (3 : Int32) d3_23 (by decide) ?_
  refine W.iconst C (1 : Int32) d3_24 rfl ?_
  refine W.iushrV C (1 : Int32) d3_25 (by decide) ?_
  refine W.istore C #[.val (.ref a1), .val (.int (3 : Int32)), .val (.int p2), .val (.long (((p2).toInt64) <<< ((32 : Int32) &&& 0x3f).toInt64)), .second, .val (.int (0 : Int32)), .val (.int (3 : Int32)), .val (.int (1 : Int32))] d3_26 rfl ?_
  refine W.aloadN C d3_28 rfl rfl ?_
  refine W.iload C d3_29 rfl ?_
  refine W.laload C 1 d3_31 L1 rfl rfl ?_
  refine W.lloadN C d3_32 rfl ?_
  refine W.lcmp C d3_33 ?_
  refine W.lif_ge C 46 d3_34 rfl (fun b1 => ?_) (fun b1 => ?_)
  · skip
    refine W.iload C d3_46 rfl ?_
    refine W.istore C #[.val (.ref a1), .val (.int (3 : Int32)), .val (.int p2), .val (.long (((p2).toInt64) <<< ((32 : Int32) &&& 0x3f).toInt64)), .second, .val (.int (0 : Int32)), .val (.int (1 : Int32)), .val (.int (1 : Int32))] d3_48 rfl ?_
    refine W.goto C 12 d3_50 rfl ?_
    refine W.iload C d3_12 rfl ?_
    refine W.iload C d3_14 rfl ?_
    refine W.icmp_ge C 53 d3_16 rfl (fun b => absurd b (by decide)) (fun _ => ?_)
    refine W.iload C d3_19 rfl ?_
    refine W.iload C d3_21 rfl ?_
    refine W.iaddV C (1 : Int32) d3_23 (by decide) ?_
    refine W.iconst C (1 : Int32) d3_24 rfl ?_
    refine W.iushrV C (0 : Int32) d3_25 (by decide) ?_
    refine W.istore C #[.val (.ref a1), .val (.int (3 : Int32)), .val (.int p2), .val (.long (((p2).toInt64) <<< ((32 : Int32) &&& 0x3f).toInt64)), .second, .val (.int (0 : Int32)), .val (.int (1 : Int32)), .val (.int (0 : Int32))] d3_26 rfl ?_
    refine W.aloadN C d3_28 rfl rfl ?_
    refine W.iload C d3_29 rfl ?_
    refine W.laload C 0 d3_31 L1 rfl rfl ?_
    refine W.lloadN C d3_32 rfl ?_
    refine W.lcmp C d3_33 ?_
    refine W.lif_ge C 46 d3_34 rfl (fun b2 => ?_) (fun b2 => ?_)
    · skip
      refine W.iload C d3_46 rfl ?_
      refine W.istore C #[.val (.ref a1), .val (.int (3 : Int32)), .val (.int p2), .val (.long (((p2).toInt64) <<< ((32 : Int32) &&& 0x3f).toInt64)), .second, .val (.int (0 : Int32)), .val (.int (0 : Int32)), .val (.int (0 : Int32))] d3_48 rfl ?_
      refine W.goto C 12 d3_50 rfl ?_
      refine W.iload C d3_12 rfl ?_
      refine W.iload C d3_14 rfl ?_
      refine W.icmp_ge C 53 d3_16 rfl (fun _ => ?_) (fun b => absurd b (by decide))
      refine W.iload C d3_53 rfl ?_
      exact W.iret C d3_55 (by simp) rfl (by decide) (by decide) ⟨by show some _ = some _; rw [own_la3, if_neg b1, if_neg b2], rfl⟩
    · skip
      refine W.iload C d3_37 rfl ?_
      refine W.iconst C (1 : Int32) d3_39 rfl ?_
      refine W.iaddV C (1 : Int32) d3_40 (by decide) ?_
      refine W.istore C #[.val (.ref a1), .val (.int (3 : Int32)), .val (.int p2), .val (.long (((p2).toInt64) <<< ((32 : Int32) &&& 0x3f).toInt64)), .second, .val (.int (1 : Int32)), .val (.int (1 : Int32)), .val (.int (0 : Int32))] d3_41 rfl ?_
      refine W.goto C 50 d3_43 rfl ?_
      refine W.goto C 12 d3_50 rfl ?_
      refine W.iload C d3_12 rfl ?_
      refine W.iload C d3_14 rfl ?_
      refine W.icmp_ge C 53 d3_16 rfl (fun _ => ?_) (fun b => absurd b (by decide))
      refine W.iload C d3_53 rfl ?_
      exact W.iret C d3_55 (by simp) rfl (by decide) (by decide) ⟨by show some _ = some _; rw [own_la3, if_neg b1, if_pos b2], rfl⟩
  · skip
    refine W.iload C d3_37 rfl ?_
    refine W.iconst C (1 : Int32) d3_39 rfl ?_
    refine W.iaddV C (2 : Int32) d3_40 (by decide) ?_
    refine W.istore C #[.val (.ref a1), .val (.int (3 : Int32)), .val (.int p2), .val (.long (((p2).toInt64) <<< ((32 : Int32) &&& 0x3f).toInt64)), .second, .val (.int (2 : Int32)), .val (.int (3 : Int32)), .val (.int (1 : Int32))] d3_41 rfl ?_
    refine W.goto C 50 d3_43 rfl ?_
    refine W.goto C 12 d3_50 rfl ?_
    refine W.iload C d3_12 rfl ?_
    refine W.iload C d3_14 rfl ?_
    refine W.icmp_ge C 53 d3_16 rfl (fun b => absurd b (by decide)) (fun _ => ?_)
    refine W.iload C d3_19 rfl ?_
    refine W.iload C d3_21 rfl ?_
    refine W.iaddV C (5 : Int32) d3_23 (by decide) ?_
    refine W.iconst C (1 : Int32) d3_24 rfl ?_
    refine W.iushrV C (2 : Int32) d3_25 (by decide) ?_
    refine W.istore C #[.val (.ref a1), .val (.int (3 : Int32)), .val (.int p2), .val (.long (((p2).toInt64) <<< ((32 : Int32) &&& 0x3f).toInt64)), .second, .val (.int (2 : Int32)), .val (.int (3 : Int32)), .val (.int (2 : Int32))] d3_26 rfl ?_
    refine W.aloadN C d3_28 rfl rfl ?_
    refine W.iload C d3_29 rfl ?_
    refine W.laload C 2 d3_31 L1 rfl rfl ?_
    refine W.lloadN C d3_32 rfl ?_
    refine W.lcmp C d3_33 ?_
    refine W.lif_ge C 46 d3_34 rfl (fun b3 => ?_) (fun b3 => ?_)
    · skip
      refine W.iload C d3_46 rfl ?_
      refine W.istore C #[.val (.ref a1), .val (.int (3 : Int32)), .val (.int p2), .val (.long (((p2).toInt64) <<< ((32 : Int32) &&& 0x3f).toInt64)), .second, .val (.int (2 : Int32)), .val (.int (2 : Int32)), .val (.int (2 : Int32))] d3_48 rfl ?_
      refine W.goto C 12 d3_50 rfl ?_
      refine W.iload C d3_12 rfl ?_
      refine W.iload C d3_14 rfl ?_
      refine W.icmp_ge C 53 d3_16 rfl (fun _ => ?_) (fun b => absurd b (by decide))
      refine W.iload C d3_53 rfl ?_
      exact W.iret C d3_55 (by simp) rfl (by decide) (by decide) ⟨by show some _ = some _; rw [own_la3, if_pos b1, if_neg b3], rfl⟩
    · skip
      refine W.iload C d3_37 rfl ?_
      refine W.iconst C (1 : Int32) d3_39 rfl ?_
      refine W.iaddV C (3 : Int32) d3_40 (by decide) ?_
      refine W.istore C #[.val (.ref a1), .val (.int (3 : Int32)), .val (.int p2), .val (.long (((p2).toInt64) <<< ((32 : Int32) &&& 0x3f).toInt64)), .second, .val (.int (3 : Int32)), .val (.int (3 : Int32)), .val (.int (2 : Int32))] d3_41 rfl ?_
      refine W.goto C 50 d3_43 rfl ?_
      refine W.goto C 12 d3_50 rfl ?_
      refine W.iload C d3_12 rfl ?_
      refine W.iload C d3_14 rfl ?_
      refine W.icmp_ge C 53 d3_16 rfl (fun _ => ?_) (fun b => absurd b (by decide))
      refine W.iload C d3_53 rfl ?_
      exact W.iret C d3_55 (by simp) rfl (by decide) (by decide) ⟨by show some _ = some _; rw [own_la3, if_pos b1, if_pos b3], rfl⟩

theorem ef_3_4 (m : MethodId) (a1 : Addr) (p2 : Int32) : entryFrame m #[(.ref a1), (.int (4 : Int32)), (.int p2)] 8 = mkF m 0 #[.val (.ref a1), .val (.int (4 : Int32)), .val (.int p2), .unset, .unset, .unset, .unset, .unset] [] := by first | (simp [entryFrame, mkF, argsToLocals, Value.category]; done) | rfl
def own_la4 (p2 : Int32) (k0 : Int64) (k1 : Int64) (k2 : Int64) (k3 : Int64) : Int32 := if k2 < (((p2).toInt64) <<< ((32 : Int32) &&& 0x3f).toInt64) then if k3 < (((p2).toInt64) <<< ((32 : Int32) &&& 0x3f).toInt64) then (4 : Int32) else (3 : Int32) else if k1 < (((p2).toInt64) <<< ((32 : Int32) &&& 0x3f).toInt64) then (2 : Int32) else if k0 < (((p2).toInt64) <<< ((32 : Int32) &&& 0x3f).toInt64) then (1 : Int32) else (0 : Int32)
set_option maxRecDepth 65536 in
set_option maxHeartbeats 40000000 in
theorem con_3_4 (l : Launch) (Z : State) (a0 : Array Value) (hw : ∀ d ∈ tables_1, d.before a0 Z = true) (h0 : Heap) (n0 : Nat) (a1 : Addr) (p2 : Int32) (k0 : Int64) (k1 : Int64) (k2 : Int64) (k3 : Int64) (L1 : Al Z h0 a1 .long [(.long k0), (.long k1), (.long k2), (.long k3)]) : Con l Z y3 prog_9_method_15_code 8 (some .int) ({ frames := 0, cells := 0, slots := 0, locals := 0 } : Room) #[(.ref a1), (.int (4 : Int32)), (.int p2)] h0 n0 (Pu (some (.int (own_la4 p2 k0 k1 k2 k3))) h0) := by
  refine Con.of pf_3 (fun m => ef_3_4 m a1 p2) ?_
  intro p e s m below meth c C
  refine W.iloadN C d3_0 rfl ?_
  refine W.i2l C d3_1 ?_
  refine W.bipush C (32 : Int32) d3_2 rfl ?_
  refine W.lshl C d3_4 ?_
  refine W.lstoreN C #[.val (.ref a1), .val (.int (4 : Int32)), .val (.int p2), .val (.long (((p2).toInt64) <<< ((32 : Int32) &&& 0x3f).toInt64)), .second, .unset, .unset, .unset] d3_5 rfl ?_
  refine W.iconst C (0 : Int32) d3_6 rfl ?_
  refine W.istore C #[.val (.ref a1), .val (.int (4 : Int32)), .val (.int p2), .val (.long (((p2).toInt64) <<< ((32 : Int32) &&& 0x3f).toInt64)), .second, .val (.int (0 : Int32)), .unset, .unset] d3_7 rfl ?_
  refine W.iloadN C d3_9 rfl ?_
  refine W.istore C #[.val (.ref a1), .val (.int (4 : Int32)), .val (.int p2), .val (.long (((p2).toInt64) <<< ((32 : Int32) &&& 0x3f).toInt64)), .second, .val (.int (0 : Int32)), .val (.int (4 : Int32)), .unset] d3_10 rfl ?_
  refine W.iload C d3_12 rfl ?_
  refine W.iload C d3_14 rfl ?_
  refine W.icmp_ge C 53 d3_16 rfl (fun b => absurd b (by decide)) (fun _ => ?_)
  refine W.iload C d3_19 rfl ?_
  refine W.iload C d3_21 rfl ?_
  refine W.iaddV C (4 : Int32) d3_23 (by decide) ?_
  refine W.iconst C (1 : Int32) d3_24 rfl ?_
  refine W.iushrV C (2 : Int32) d3_25 (by decide) ?_
  refine W.istore C #[.val (.ref a1), .val (.int (4 : Int32)), .val (.int p2), .val (.long (((p2).toInt64) <<< ((32 : Int32) &&& 0x3f).toInt64)), .second, .val (.int (0 : Int32)), .val (.int (4 : Int32)), .val (.int (2 : Int32))] d3_26 rfl ?_
  refine W.aloadN C d3_28 rfl rfl ?_
  refine W.iload C d3_29 rfl ?_
  refine W.laload C 2 d3_31 L1 rfl rfl ?_
  refine W.lloadN C d3_32 rfl ?_
  refine W.lcmp C d3_33 ?_
  refine W.lif_ge C 46 d3_34 rfl (fun b1 => ?_) (fun b1 => ?_)
  · skip
    refine W.iload C d3_46 rfl ?_
    refine W.istore C #[.val (.ref a1), .val (.int (4 : Int32)), .val (.int p2), .val (.long (((p2).toInt64) <<< ((32 : Int32) &&& 0x3f).toInt64)), .second, .val (.int (0 : Int32)), .val (.int (2 : Int32)), .val (.int (2 : Int32))] d3_48 rfl ?_
    refine W.goto C 12 d3_50 rfl ?_
    refine W.iload C d3_12 rfl ?_
    refine W.iload C d3_14 rfl ?_
    refine W.icmp_ge C 53 d3_16 rfl (fun b => absurd b (by decide)) (fun _ => ?_)
    refine W.iload C d3_19 rfl ?_
    refine W.iload C d3_21 rfl ?_
    refine W.iaddV C (2 : Int32) d3_23 (by decide) ?_
    refine W.iconst C (1 : Int32) d3_24 rfl ?_
    refine W.iushrV C (1 : Int32) d3_25 (by decide) ?_
    refine W.istore C #[.val (.ref a1), .val (.int (4 : Int32)), .val (.int p2), .val (.long (((p2).toInt64) <<< ((32 : Int32) &&& 0x3f).toInt64)), .second, .val (.int (0 : Int32)), .val (.int (2 : Int32)), .val (.int (1 : Int32))] d3_26 rfl ?_
    refine W.aloadN C d3_28 rfl rfl ?_
    refine W.iload C d3_29 rfl ?_
    refine W.laload C 1 d3_31 L1 rfl rfl ?_
    refine W.lloadN C d3_32 rfl ?_
    refine W.lcmp C d3_33 ?_
    refine W.lif_ge C 46 d3_34 rfl (fun b2 => ?_) (fun b2 => ?_)
    · skip
      refine W.iload C d3_46 rfl ?_
      refine W.istore C #[.val (.ref a1), .val (.int (4 : Int32)), .val (.int p2), .val (.long (((p2).toInt64) <<< ((32 : Int32) &&& 0x3f).toInt64)), .second, .val (.int (0 : Int32)), .val (.int (1 : Int32)), .val (.int (1 : Int32))] d3_48 rfl ?_
      refine W.goto C 12 d3_50 rfl ?_
      refine W.iload C d3_12 rfl ?_
      refine W.iload C d3_14 rfl ?_
      refine W.icmp_ge C 53 d3_16 rfl (fun b => absurd b (by decide)) (fun _ => ?_)
      refine W.iload C d3_19 rfl ?_
      refine W.iload C d3_21 rfl ?_
      refine W.iaddV C (1 : Int32) d3_23 (by decide) ?_
      refine W.iconst C (1 : Int32) d3_24 rfl ?_
      refine W.iushrV C (0 : Int32) d3_25 (by decide) ?_
      refine W.istore C #[.val (.ref a1), .val (.int (4 : Int32)), .val (.int p2), .val (.long (((p2).toInt64) <<< ((32 : Int32) &&& 0x3f).toInt64)), .second, .val (.int (0 : Int32)), .val (.int (1 : Int32)), .val (.int (0 : Int32))] d3_26 rfl ?_
      refine W.aloadN C d3_28 rfl rfl ?_
      refine W.iload C d3_29 rfl ?_
      refine W.laload C 0 d3_31 L1 rfl rfl ?_
      refine W.lloadN C d3_32 rfl ?_
      refine W.lcmp C d3_33 ?_
      refine W.lif_ge C 46 d3_34 rfl (fun b3 => ?_) (fun b3 => ?_)
      · skip
        refine W.iload C d3_46 rfl ?_
        refine W.istore C #[.val (.ref a1), .val (.int (4 : Int32)), .val (.int p2), .val (.long (((p2).toInt64) <<< ((32 : Int32) &&& 0x3f).toInt64)), .second, .val (.int (0 : Int32)), .val (.int (0 : Int32)), .val (.int (0 : Int32))] d3_48 rfl ?_
        refine W.goto C 12 d3_50 rfl ?_
        refine W.iload C d3_12 rfl ?_
        refine W.iload C d3_14 rfl ?_
        refine W.icmp_ge C 53 d3_16 rfl (fun _ => ?_) (fun b => absurd b (by decide))
        refine W.iload C d3_53 rfl ?_
        exact W.iret C d3_55 (by simp) rfl (by decide) (by decide) ⟨by show some _ = some _; rw [own_la4, if_neg b1, if_neg b2, if_neg b3], rfl⟩
      · skip
        refine W.iload C d3_37 rfl ?_
        refine W.iconst C (1 : Int32) d3_39 rfl ?_
        refine W.iaddV C (1 : Int32) d3_40 (by decide) ?_
        refine W.istore C #[.val (.ref a1), .val (.int (4 : Int32)), .val (.int p2), .val (.long (((p2).toInt64) <<< ((32 : Int32) &&& 0x3f).toInt64)), .second, .val (.int (1 : Int32)), .val (.int (1 : Int32)), .val (.int (0 : Int32))] d3_41 rfl ?_
        refine W.goto C 50 d3_43 rfl ?_
        refine W.goto C 12 d3_50 rfl ?_
        refine W.iload C d3_12 rfl ?_
        refine W.iload C d3_14 rfl ?_
        refine W.icmp_ge C 53 d3_16 rfl (fun _ => ?_) (fun b => absurd b (by decide))
        refine W.iload C d3_53 rfl ?_
        exact W.iret C d3_55 (by simp) rfl (by decide) (by decide) ⟨by show some _ = some _; rw [own_la4, if_neg b1, if_neg b2, if_pos b3], rfl⟩
    · skip
      refine W.iload C d3_37 rfl ?_
      refine W.iconst C (1 : Int32) d3_39 rfl ?_
      refine W.iaddV C (2 : Int32) d3_40 (by decide) ?_
      refine W.istore C #[.val (.ref a1), .val (.int (4 : Int32)), .val (.int p2), .val (.long (((p2).toInt64) <<< ((32 : Int32) &&& 0x3f).toInt64)), .second, .val (.int (2 : Int32)), .val (.int (2 : Int32)), .val (.int (1 : Int32))] d3_41 rfl ?_
      refine W.goto C 50 d3_43 rfl ?_
      refine W.goto C 12 d3_50 rfl ?_
      refine W.iload C d3_12 rfl ?_
      refine W.iload C d3_14 rfl ?_
      refine W.icmp_ge C 53 d3_16 rfl (fun _ => ?_) (fun b => absurd b (by decide))
      refine W.iload C d3_53 rfl ?_
      exact W.iret C d3_55 (by simp) rfl (by decide) (by decide) ⟨by show some _ = some _; rw [own_la4, if_neg b1, if_pos b2], rfl⟩
  · skip
    refine W.iload C d3_37 rfl ?_
    refine W.iconst C (1 : Int32) d3_39 rfl ?_
    refine W.iaddV C (3 : Int32) d3_40 (by decide) ?_
    refine W.istore C #[.val (.ref a1), .val (.int (4 : Int32)), .val (.int p2), .val (.long (((p2).toInt64) <<< ((32 : Int32) &&& 0x3f).toInt64)), .second, .val (.int (3 : Int32)), .val (.int (4 : Int32)), .val (.int (2 : Int32))] d3_41 rfl ?_
    refine W.goto C 50 d3_43 rfl ?_
    refine W.goto C 12 d3_50 rfl ?_
    refine W.iload C d3_12 rfl ?_
    refine W.iload C d3_14 rfl ?_
    refine W.icmp_ge C 53 d3_16 rfl (fun b => absurd b (by decide)) (fun _ => ?_)
    refine W.iload C d3_19 rfl ?_
    refine W.iload C d3_21 rfl ?_
    refine W.iaddV C (7 : Int32) d3_23 (by decide) ?_
    refine W.iconst C (1 : Int32) d3_24 rfl ?_
    refine W.iushrV C (3 : Int32) d3_25 (by decide) ?_
    refine W.istore C #[.val (.ref a1), .val (.int (4 : Int32)), .val (.int p2), .val (.long (((p2).toInt64) <<< ((32 : Int32) &&& 0x3f).toInt64)), .second, .val (.int (3 : Int32)), .val (.int (4 : Int32)), .val (.int (3 : Int32))] d3_26 rfl ?_
    refine W.aloadN C d3_28 rfl rfl ?_
    refine W.iload C d3_29 rfl ?_
    refine W.laload C 3 d3_31 L1 rfl rfl ?_
    refine W.lloadN C d3_32 rfl ?_
    refine W.lcmp C d3_33 ?_
    refine W.lif_ge C 46 d3_34 rfl (fun b4 => ?_) (fun b4 => ?_)
    · skip
      refine W.iload C d3_46 rfl ?_
      refine W.istore C #[.val (.ref a1), .val (.int (4 : Int32)), .val (.int p2), .val (.long (((p2).toInt64) <<< ((32 : Int32) &&& 0x3f).toInt64)), .second, .val (.int (3 : Int32)), .val (.int (3 : Int32)), .val (.int (3 : Int32))] d3_48 rfl ?_
      refine W.goto C 12 d3_50 rfl ?_
      refine W.iload C d3_12 rfl ?_
      refine W.iload C d3_14 rfl ?_
      refine W.icmp_ge C 53 d3_16 rfl (fun _ => ?_) (fun b => absurd b (by decide))
      refine W.iload C d3_53 rfl ?_
      exact W.iret C d3_55 (by simp) rfl (by decide) (by decide) ⟨by show some _ = some _; rw [own_la4, if_pos b1, if_neg b4], rfl⟩
    · skip
      refine W.iload C d3_37 rfl ?_
      refine W.iconst C (1 : Int32) d3_39 rfl ?_
      refine W.iaddV C (4 : Int32) d3_40 (by decide) ?_
      refine W.istore C #[.val (.ref a1), .val (.int (4 : Int32)), .val (.int p2), .val (.long (((p2).toInt64) <<< ((32 : Int32) &&& 0x3f).toInt64)), .second, .val (.int (4 : Int32)), .val (.int (4 : Int32)), .val (.int (3 : Int32))] d3_41 rfl ?_
      refine W.goto C 50 d3_43 rfl ?_
      refine W.goto C 12 d3_50 rfl ?_
      refine W.iload C d3_12 rfl ?_
      refine W.iload C d3_14 rfl ?_
      refine W.icmp_ge C 53 d3_16 rfl (fun _ => ?_) (fun b => absurd b (by decide))
      refine W.iload C d3_53 rfl ?_
      exact W.iret C d3_55 (by simp) rfl (by decide) (by decide) ⟨by show some _ = some _; rw [own_la4, if_pos b1, if_pos b4], rfl⟩

theorem own_sort (a b c d : Int64) :
    (own_min (own_min a b) (own_min c d)).toInt ≤ (own_min (own_min (own_max a b) (own_max c d)) (own_max (own_min a b) (own_min c d))).toInt ∧
    (own_min (own_min (own_max a b) (own_max c d)) (own_max (own_min a b) (own_min c d))).toInt ≤ (own_max (own_min (own_max a b) (own_max c d)) (own_max (own_min a b) (own_min c d))).toInt ∧
    (own_max (own_min (own_max a b) (own_max c d)) (own_max (own_min a b) (own_min c d))).toInt ≤ (own_max (own_max a b) (own_max c d)).toInt := by
  have mn : ∀ x y : Int64, (own_min x y).toInt = min x.toInt y.toInt := fun x y => by
    unfold own_min
    simp only [Int64.lt_iff_toInt_lt]
    split <;> omega
  have mx : ∀ x y : Int64, (own_max x y).toInt = max x.toInt y.toInt := fun x y => by
    unfold own_max
    simp only [Int64.lt_iff_toInt_lt]
    split <;> omega
  simp only [mn, mx]
  omega
theorem own_size (x : Int32) : (x &&& (7 : Int32)) % (5 : Int32) = 0 ∨ (x &&& (7 : Int32)) % (5 : Int32) = 1 ∨ (x &&& (7 : Int32)) % (5 : Int32) = 2 ∨ (x &&& (7 : Int32)) % (5 : Int32) = 3 ∨ (x &&& (7 : Int32)) % (5 : Int32) = 4 := by
  have e1 : (x &&& 7).toInt = x.toInt % (2 ^ 3 : Nat) := c_mask x 7 3 (by decide) (by decide)
  generalize (x &&& 7) = z at *
  have e2 := (c_irem z 5 5 rfl).1 (by omega)
  simp only [← Int32.toInt_inj, e2]
  have : (0 : Int32).toInt = 0 ∧ (1 : Int32).toInt = 1 ∧ (2 : Int32).toInt = 2 ∧ (3 : Int32).toInt = 3 ∧ (4 : Int32).toInt = 4 := by decide
  omega
theorem own_lt (x : Int64) (r : Int32) : x < r.toInt64 <<< ((32 : Int32) &&& 0x3f).toInt64 ↔ x >>> ((32 : Int32) &&& 0x3f).toInt64 < r.toInt64 := by
  rw [Int64.lt_iff_toInt_lt, Int64.lt_iff_toInt_lt, c_lshr x 32 32 (by decide), c_i2l]
  have h := c_lshl r.toInt64 32 32 (by decide)
  rw [c_i2l] at h
  have r1 := rng32 r
  have r2 := rng64 (r.toInt64 <<< ((32 : Int32) &&& 0x3f).toInt64)
  omega
theorem own_lak0 (p4 : Int32) (k0 k1 k2 k3 : Int64) (hs : k0.toInt ≤ k1.toInt ∧ k1.toInt ≤ k2.toInt ∧ k2.toInt ≤ k3.toInt) : own_la0 p4 k0 k1 k2 k3 = (0 : Int32) := rfl
theorem own_lak1 (p4 : Int32) (k0 k1 k2 k3 : Int64) (hs : k0.toInt ≤ k1.toInt ∧ k1.toInt ≤ k2.toInt ∧ k2.toInt ≤ k3.toInt) : own_la1 p4 k0 k1 k2 k3 = ((0 : Int32) + (if k0 >>> ((32 : Int32) &&& 0x3f).toInt64 < p4.toInt64 then 1 else 0)) := by
  unfold own_la1
  simp only [own_lt]
  simp only [Int64.lt_iff_toInt_lt, c_lshr _ 32 32 (show (32 : Int32).toBitVec.toNat % 64 = 32 by decide), c_i2l]
  generalize p4.toInt = r
  generalize k0.toInt = n0 at *
  generalize k1.toInt = n1 at *
  generalize k2.toInt = n2 at *
  generalize k3.toInt = n3 at *
  repeat' split
  all_goals first | rfl | (exfalso; omega)
theorem own_lak2 (p4 : Int32) (k0 k1 k2 k3 : Int64) (hs : k0.toInt ≤ k1.toInt ∧ k1.toInt ≤ k2.toInt ∧ k2.toInt ≤ k3.toInt) : own_la2 p4 k0 k1 k2 k3 = (((0 : Int32) + (if k0 >>> ((32 : Int32) &&& 0x3f).toInt64 < p4.toInt64 then 1 else 0)) + (if k1 >>> ((32 : Int32) &&& 0x3f).toInt64 < p4.toInt64 then 1 else 0)) := by
  unfold own_la2
  simp only [own_lt]
  simp only [Int64.lt_iff_toInt_lt, c_lshr _ 32 32 (show (32 : Int32).toBitVec.toNat % 64 = 32 by decide), c_i2l]
  generalize p4.toInt = r
  generalize k0.toInt = n0 at *
  generalize k1.toInt = n1 at *
  generalize k2.toInt = n2 at *
  generalize k3.toInt = n3 at *
  repeat' split
  all_goals first | rfl | (exfalso; omega)
theorem own_lak3 (p4 : Int32) (k0 k1 k2 k3 : Int64) (hs : k0.toInt ≤ k1.toInt ∧ k1.toInt ≤ k2.toInt ∧ k2.toInt ≤ k3.toInt) : own_la3 p4 k0 k1 k2 k3 = ((((0 : Int32) + (if k0 >>> ((32 : Int32) &&& 0x3f).toInt64 < p4.toInt64 then 1 else 0)) + (if k1 >>> ((32 : Int32) &&& 0x3f).toInt64 < p4.toInt64 then 1 else 0)) + (if k2 >>> ((32 : Int32) &&& 0x3f).toInt64 < p4.toInt64 then 1 else 0)) := by
  unfold own_la3
  simp only [own_lt]
  simp only [Int64.lt_iff_toInt_lt, c_lshr _ 32 32 (show (32 : Int32).toBitVec.toNat % 64 = 32 by decide), c_i2l]
  generalize p4.toInt = r
  generalize k0.toInt = n0 at *
  generalize k1.toInt = n1 at *
  generalize k2.toInt = n2 at *
  generalize k3.toInt = n3 at *
  repeat' split
  all_goals first | rfl | (exfalso; omega)
theorem own_lak4 (p4 : Int32) (k0 k1 k2 k3 : Int64) (hs : k0.toInt ≤ k1.toInt ∧ k1.toInt ≤ k2.toInt ∧ k2.toInt ≤ k3.toInt) : own_la4 p4 k0 k1 k2 k3 = (((((0 : Int32) + (if k0 >>> ((32 : Int32) &&& 0x3f).toInt64 < p4.toInt64 then 1 else 0)) + (if k1 >>> ((32 : Int32) &&& 0x3f).toInt64 < p4.toInt64 then 1 else 0)) + (if k2 >>> ((32 : Int32) &&& 0x3f).toInt64 < p4.toInt64 then 1 else 0)) + (if k3 >>> ((32 : Int32) &&& 0x3f).toInt64 < p4.toInt64 then 1 else 0)) := by
  unfold own_la4
  simp only [own_lt]
  simp only [Int64.lt_iff_toInt_lt, c_lshr _ 32 32 (show (32 : Int32).toBitVec.toNat % 64 = 32 by decide), c_i2l]
  generalize p4.toInt = r
  generalize k0.toInt = n0 at *
  generalize k1.toInt = n1 at *
  generalize k2.toInt = n2 at *
  generalize k3.toInt = n3 at *
  repeat' split
  all_goals first | rfl | (exfalso; omega)
theorem pf_0 : plainFor x = true := by first | exact plainFor_of_name (by first | (simp [plainName, overriddenIn]; done) | decide +kernel) | decide +kernel
theorem ef_0 (m : MethodId) (p0 : Int64) (p1 : Int64) (p2 : Int64) (p3 : Int64) (p4 : Int32) (p5 : Int32) : entryFrame m #[(.long p0), (.long p1), (.long p2), (.long p3), (.int p4), (.int p5)] maxLocals = mkF m 0 #[.val (.long p0), .second, .val (.long p1), .second, .val (.long p2), .second, .val (.long p3), .second, .val (.int p4), .val (.int p5), .unset, .unset, .unset, .unset, .unset, .unset, .unset, .unset, .unset, .unset, .unset, .unset, .unset, .unset, .unset, .unset, .unset, .unset, .unset, .unset, .unset, .unset, .unset, .unset] [] := by first | (simp [entryFrame, mkF, argsToLocals, Value.category, maxLocals]; done) | rfl
theorem pd_0 : parseMethodDescriptor "(JJ)J" = some ⟨[.long, .long], some .long⟩ := by decide +kernel
theorem pd_1 : parseMethodDescriptor "([JII)I" = some ⟨[(.array .long), .int, .int], some .int⟩ := by decide +kernel
set_option maxRecDepth 65536 in
set_option maxHeartbeats 40000000 in
theorem con_0 (l : Launch) (Z : State) (a0 : Array Value) (hw : ∀ d ∈ tables_1, d.before a0 Z = true) (h0 : Heap) (n0 : Nat) (p0 : Int64) (p1 : Int64) (p2 : Int64) (p3 : Int64) (p4 : Int32) (p5 : Int32)  (Z0 : n0 ≤ h0.size) : Con l Z x code maxLocals ret room_1 #[(.long p0), (.long p1), (.long p2), (.long p3), (.int p4), (.int p5)] h0 n0 (fun v _ => v = some (.int 1)) := by
  refine Con.of pf_0 (fun m => ef_0 m p0 p1 p2 p3 p4 p5) ?_
  intro p e s m below meth c C
  refine W.lloadN C at_0 rfl ?_
  refine W.lloadN C at_1 rfl ?_
  refine W.callS C (y' := y1) at_2 (tkw hw 0 rfl) (tkw hw 1 rfl) (tkw hw 2 rfl) (tkw hw 3 rfl) (by decide) (argsL := [(.long p0), (.long p1)]) (rest := []) rfl (lenOf pd_0 rfl) (con_1 l Z a0 hw h0 n0 p0 p1) 0 0 0 rfl rfl rfl (by decide) (by decide) (by decide) (by decide) rfl ?_
  rintro _ _ ⟨rfl, rfl⟩
  refine W.lstore C #[.val (.long p0), .second, .val (.long p1), .second, .val (.long p2), .second, .val (.long p3), .second, .val (.int p4), .val (.int p5), .val (.long (own_min p0 p1)), .second, .unset, .unset, .unset, .unset, .unset, .unset, .unset, .unset, .unset, .unset, .unset, .unset, .unset, .unset, .unset, .unset, .unset, .unset, .unset, .unset, .unset, .unset] at_5 rfl ?_
  refine W.lloadN C at_7 rfl ?_
  refine W.lloadN C at_8 rfl ?_
  refine W.callS C (y' := y2) at_9 (tkw hw 4 rfl) (tkw hw 5 rfl) (tkw hw 2 rfl) (tkw hw 6 rfl) (by decide) (argsL := [(.long p0), (.long p1)]) (rest := []) rfl (lenOf pd_0 rfl) (con_2 l Z a0 hw h0 n0 p0 p1) 0 0 0 rfl rfl rfl (by decide) (by decide) (by decide) (by decide) rfl ?_
  rintro _ _ ⟨rfl, rfl⟩
  refine W.lstore C #[.val (.long p0), .second, .val (.long p1), .second, .val (.long p2), .second, .val (.long p3), .second, .val (.int p4), .val (.int p5), .val (.long (own_min p0 p1)), .second, .val (.long (own_max p0 p1)), .second, .unset, .unset, .unset, .unset, .unset, .unset, .unset, .unset, .unset, .unset, .unset, .unset, .unset, .unset, .unset, .unset, .unset, .unset, .unset, .unset] at_12 rfl ?_
  refine W.lload C at_14 rfl ?_
  refine W.lload C at_16 rfl ?_
  refine W.callS C (y' := y1) at_18 (tkw hw 0 rfl) (tkw hw 1 rfl) (tkw hw 2 rfl) (tkw hw 3 rfl) (by decide) (argsL := [(.long p2), (.long p3)]) (rest := []) rfl (lenOf pd_0 rfl) (con_1 l Z a0 hw h0 n0 p2 p3) 0 0 0 rfl rfl rfl (by decide) (by decide) (by decide) (by decide) rfl ?_
  rintro _ _ ⟨rfl, rfl⟩
  refine W.lstore C #[.val (.long p0), .second, .val (.long p1), .second, .val (.long p2), .second, .val (.long p3), .second, .val (.int p4), .val (.int p5), .val (.long (own_min p0 p1)), .second, .val (.long (own_max p0 p1)), .second, .val (.long (own_min p2 p3)), .second, .unset, .unset, .unset, .unset, .unset, .unset, .unset, .unset, .unset, .unset, .unset, .unset, .unset, .unset, .unset, .unset, .unset, .unset] at_21 rfl ?_
  refine W.lload C at_23 rfl ?_
  refine W.lload C at_25 rfl ?_
  refine W.callS C (y' := y2) at_27 (tkw hw 4 rfl) (tkw hw 5 rfl) (tkw hw 2 rfl) (tkw hw 6 rfl) (by decide) (argsL := [(.long p2), (.long p3)]) (rest := []) rfl (lenOf pd_0 rfl) (con_2 l Z a0 hw h0 n0 p2 p3) 0 0 0 rfl rfl rfl (by decide) (by decide) (by decide) (by decide) rfl ?_
  rintro _ _ ⟨rfl, rfl⟩
  refine W.lstore C #[.val (.long p0), .second, .val (.long p1), .second, .val (.long p2), .second, .val (.long p3), .second, .val (.int p4), .val (.int p5), .val (.long (own_min p0 p1)), .second, .val (.long (own_max p0 p1)), .second, .val (.long (own_min p2 p3)), .second, .val (.long (own_max p2 p3)), .second, .unset, .unset, .unset, .unset, .unset, .unset, .unset, .unset, .unset, .unset, .unset, .unset, .unset, .unset, .unset, .unset] at_30 rfl ?_
  refine W.lload C at_32 rfl ?_
  refine W.lload C at_34 rfl ?_
  refine W.callS C (y' := y1) at_36 (tkw hw 0 rfl) (tkw hw 1 rfl) (tkw hw 2 rfl) (tkw hw 3 rfl) (by decide) (argsL := [(.long (own_min p0 p1)), (.long (own_min p2 p3))]) (rest := []) rfl (lenOf pd_0 rfl) (con_1 l Z a0 hw h0 n0 (own_min p0 p1) (own_min p2 p3)) 0 0 0 rfl rfl rfl (by decide) (by decide) (by decide) (by decide) rfl ?_
  rintro _ _ ⟨rfl, rfl⟩
  refine W.lstore C #[.val (.long p0), .second, .val (.long p1), .second, .val (.long p2), .second, .val (.long p3), .second, .val (.int p4), .val (.int p5), .val (.long (own_min p0 p1)), .second, .val (.long (own_max p0 p1)), .second, .val (.long (own_min p2 p3)), .second, .val (.long (own_max p2 p3)), .second, .val (.long (own_min (own_min p0 p1) (own_min p2 p3))), .second, .unset, .unset, .unset, .unset, .unset, .unset, .unset, .unset, .unset, .unset, .unset, .unset, .unset, .unset] at_39 rfl ?_
  refine W.lload C at_41 rfl ?_
  refine W.lload C at_43 rfl ?_
  refine W.callS C (y' := y2) at_45 (tkw hw 4 rfl) (tkw hw 5 rfl) (tkw hw 2 rfl) (tkw hw 6 rfl) (by decide) (argsL := [(.long (own_min p0 p1)), (.long (own_min p2 p3))]) (rest := []) rfl (lenOf pd_0 rfl) (con_2 l Z a0 hw h0 n0 (own_min p0 p1) (own_min p2 p3)) 0 0 0 rfl rfl rfl (by decide) (by decide) (by decide) (by decide) rfl ?_
  rintro _ _ ⟨rfl, rfl⟩
  refine W.lstore C #[.val (.long p0), .second, .val (.long p1), .second, .val (.long p2), .second, .val (.long p3), .second, .val (.int p4), .val (.int p5), .val (.long (own_min p0 p1)), .second, .val (.long (own_max p0 p1)), .second, .val (.long (own_min p2 p3)), .second, .val (.long (own_max p2 p3)), .second, .val (.long (own_min (own_min p0 p1) (own_min p2 p3))), .second, .val (.long (own_max (own_min p0 p1) (own_min p2 p3))), .second, .unset, .unset, .unset, .unset, .unset, .unset, .unset, .unset, .unset, .unset, .unset, .unset] at_48 rfl ?_
  refine W.lload C at_50 rfl ?_
  refine W.lload C at_52 rfl ?_
  refine W.callS C (y' := y1) at_54 (tkw hw 0 rfl) (tkw hw 1 rfl) (tkw hw 2 rfl) (tkw hw 3 rfl) (by decide) (argsL := [(.long (own_max p0 p1)), (.long (own_max p2 p3))]) (rest := []) rfl (lenOf pd_0 rfl) (con_1 l Z a0 hw h0 n0 (own_max p0 p1) (own_max p2 p3)) 0 0 0 rfl rfl rfl (by decide) (by decide) (by decide) (by decide) rfl ?_
  rintro _ _ ⟨rfl, rfl⟩
  refine W.lstore C #[.val (.long p0), .second, .val (.long p1), .second, .val (.long p2), .second, .val (.long p3), .second, .val (.int p4), .val (.int p5), .val (.long (own_min p0 p1)), .second, .val (.long (own_max p0 p1)), .second, .val (.long (own_min p2 p3)), .second, .val (.long (own_max p2 p3)), .second, .val (.long (own_min (own_min p0 p1) (own_min p2 p3))), .second, .val (.long (own_max (own_min p0 p1) (own_min p2 p3))), .second, .val (.long (own_min (own_max p0 p1) (own_max p2 p3))), .second, .unset, .unset, .unset, .unset, .unset, .unset, .unset, .unset, .unset, .unset] at_57 rfl ?_
  refine W.lload C at_59 rfl ?_
  refine W.lload C at_61 rfl ?_
  refine W.callS C (y' := y2) at_63 (tkw hw 4 rfl) (tkw hw 5 rfl) (tkw hw 2 rfl) (tkw hw 6 rfl) (by decide) (argsL := [(.long (own_max p0 p1)), (.long (own_max p2 p3))]) (rest := []) rfl (lenOf pd_0 rfl) (con_2 l Z a0 hw h0 n0 (own_max p0 p1) (own_max p2 p3)) 0 0 0 rfl rfl rfl (by decide) (by decide) (by decide) (by decide) rfl ?_
  rintro _ _ ⟨rfl, rfl⟩
  refine W.lstore C #[.val (.long p0), .second, .val (.long p1), .second, .val (.long p2), .second, .val (.long p3), .second, .val (.int p4), .val (.int p5), .val (.long (own_min p0 p1)), .second, .val (.long (own_max p0 p1)), .second, .val (.long (own_min p2 p3)), .second, .val (.long (own_max p2 p3)), .second, .val (.long (own_min (own_min p0 p1) (own_min p2 p3))), .second, .val (.long (own_max (own_min p0 p1) (own_min p2 p3))), .second, .val (.long (own_min (own_max p0 p1) (own_max p2 p3))), .second, .val (.long (own_max (own_max p0 p1) (own_max p2 p3))), .second, .unset, .unset, .unset, .unset, .unset, .unset, .unset, .unset] at_66 rfl ?_
  refine W.lload C at_68 rfl ?_
  refine W.lload C at_70 rfl ?_
  refine W.callS C (y' := y1) at_72 (tkw hw 0 rfl) (tkw hw 1 rfl) (tkw hw 2 rfl) (tkw hw 3 rfl) (by decide) (argsL := [(.long (own_min (own_max p0 p1) (own_max p2 p3))), (.long (own_max (own_min p0 p1) (own_min p2 p3)))]) (rest := []) rfl (lenOf pd_0 rfl) (con_1 l Z a0 hw h0 n0 (own_min (own_max p0 p1) (own_max p2 p3)) (own_max (own_min p0 p1) (own_min p2 p3))) 0 0 0 rfl rfl rfl (by decide) (by decide) (by decide) (by decide) rfl ?_
  rintro _ _ ⟨rfl, rfl⟩
  refine W.lstore C #[.val (.long p0), .second, .val (.long p1), .second, .val (.long p2), .second, .val (.long p3), .second, .val (.int p4), .val (.int p5), .val (.long (own_min p0 p1)), .second, .val (.long (own_max p0 p1)), .second, .val (.long (own_min p2 p3)), .second, .val (.long (own_max p2 p3)), .second, .val (.long (own_min (own_min p0 p1) (own_min p2 p3))), .second, .val (.long (own_max (own_min p0 p1) (own_min p2 p3))), .second, .val (.long (own_min (own_max p0 p1) (own_max p2 p3))), .second, .val (.long (own_max (own_max p0 p1) (own_max p2 p3))), .second, .val (.long (own_min (own_min (own_max p0 p1) (own_max p2 p3)) (own_max (own_min p0 p1) (own_min p2 p3)))), .second, .unset, .unset, .unset, .unset, .unset, .unset] at_75 rfl ?_
  refine W.lload C at_77 rfl ?_
  refine W.lload C at_79 rfl ?_
  refine W.callS C (y' := y2) at_81 (tkw hw 4 rfl) (tkw hw 5 rfl) (tkw hw 2 rfl) (tkw hw 6 rfl) (by decide) (argsL := [(.long (own_min (own_max p0 p1) (own_max p2 p3))), (.long (own_max (own_min p0 p1) (own_min p2 p3)))]) (rest := []) rfl (lenOf pd_0 rfl) (con_2 l Z a0 hw h0 n0 (own_min (own_max p0 p1) (own_max p2 p3)) (own_max (own_min p0 p1) (own_min p2 p3))) 0 0 0 rfl rfl rfl (by decide) (by decide) (by decide) (by decide) rfl ?_
  rintro _ _ ⟨rfl, rfl⟩
  refine W.lstore C #[.val (.long p0), .second, .val (.long p1), .second, .val (.long p2), .second, .val (.long p3), .second, .val (.int p4), .val (.int p5), .val (.long (own_min p0 p1)), .second, .val (.long (own_max p0 p1)), .second, .val (.long (own_min p2 p3)), .second, .val (.long (own_max p2 p3)), .second, .val (.long (own_min (own_min p0 p1) (own_min p2 p3))), .second, .val (.long (own_max (own_min p0 p1) (own_min p2 p3))), .second, .val (.long (own_min (own_max p0 p1) (own_max p2 p3))), .second, .val (.long (own_max (own_max p0 p1) (own_max p2 p3))), .second, .val (.long (own_min (own_min (own_max p0 p1) (own_max p2 p3)) (own_max (own_min p0 p1) (own_min p2 p3)))), .second, .val (.long (own_max (own_min (own_max p0 p1) (own_max p2 p3)) (own_max (own_min p0 p1) (own_min p2 p3)))), .second, .unset, .unset, .unset, .unset] at_84 rfl ?_
  have hs := own_sort p0 p1 p2 p3
  generalize (own_min (own_min p0 p1) (own_min p2 p3)) = k0 at hs ⊢
  generalize (own_min (own_min (own_max p0 p1) (own_max p2 p3)) (own_max (own_min p0 p1) (own_min p2 p3))) = k1 at hs ⊢
  generalize (own_max (own_min (own_max p0 p1) (own_max p2 p3)) (own_max (own_min p0 p1) (own_min p2 p3))) = k2 at hs ⊢
  generalize (own_max (own_max p0 p1) (own_max p2 p3)) = k3 at hs ⊢
  generalize (own_max (own_min p0 p1) (own_min p2 p3)) = y20
  generalize (own_min (own_max p0 p1) (own_max p2 p3)) = y22
  generalize (own_min p0 p1) = y10
  generalize (own_max p0 p1) = y12
  generalize (own_min p2 p3) = y14
  generalize (own_max p2 p3) = y16
  refine W.iconst C (4 : Int32) at_86 rfl ?_
  refine W.newP C 4 4 at_87 (tkw hw 7 rfl) rfl (Nat.le_refl _) (by decide) 1 4 rfl rfl (by decide) (by decide) ?_
  intro a1 h2 ha1 Ea1 La1
  have ge_a1 : n0 ≤ a1 := by rw [ha1]; exact Z0
  replace Z0 := Nat.le_trans Z0 Ea1.1
  replace La1 : Al Z h2 a1 .long [(.long (0 : Int64)), (.long (0 : Int64)), (.long (0 : Int64)), (.long (0 : Int64))] := La1
  refine W.astore C #[.val (.long p0), .second, .val (.long p1), .second, .val (.long p2), .second, .val (.long p3), .second, .val (.int p4), .val (.int p5), .val (.long y10), .second, .val (.long y12), .second, .val (.long y14), .second, .val (.long y16), .second, .val (.long k0), .second, .val (.long y20), .second, .val (.long y22), .second, .val (.long k3), .second, .val (.long k1), .second, .val (.long k2), .second, .val (.ref a1), .unset, .unset, .unset] at_89 rfl rfl ?_
  refine W.aload C at_91 rfl rfl ?_
  refine W.iconst C (0 : Int32) at_93 rfl ?_
  refine W.lload C at_94 rfl ?_
  refine W.lastore C 0 at_96 La1 rfl (show (0 : Nat) < 4 by decide) ge_a1 ?_
  intro h3 U4 La1_
  replace Z0 := Nat.le_trans Z0 (Nat.le_of_eq (U4.size).symm)
  replace La1 : Al Z h3 a1 .long [(.long k0), (.long (0 : Int64)), (.long (0 : Int64)), (.long (0 : Int64))] := La1_
  refine W.aload C at_97 rfl rfl ?_
  refine W.iconst C (1 : Int32) at_99 rfl ?_
  refine W.lload C at_100 rfl ?_
  refine W.lastore C 1 at_102 La1 rfl (show (1 : Nat) < 4 by decide) ge_a1 ?_
  intro h5 U6 La1_
  replace Z0 := Nat.le_trans Z0 (Nat.le_of_eq (U6.size).symm)
  replace La1 : Al Z h5 a1 .long [(.long k0), (.long k1), (.long (0 : Int64)), (.long (0 : Int64))] := La1_
  refine W.aload C at_103 rfl rfl ?_
  refine W.iconst C (2 : Int32) at_105 rfl ?_
  refine W.lload C at_106 rfl ?_
  refine W.lastore C 2 at_108 La1 rfl (show (2 : Nat) < 4 by decide) ge_a1 ?_
  intro h7 U8 La1_
  replace Z0 := Nat.le_trans Z0 (Nat.le_of_eq (U8.size).symm)
  replace La1 : Al Z h7 a1 .long [(.long k0), (.long k1), (.long k2), (.long (0 : Int64))] := La1_
  refine W.aload C at_109 rfl rfl ?_
  refine W.iconst C (3 : Int32) at_111 rfl ?_
  refine W.lload C at_112 rfl ?_
  refine W.lastore C 3 at_114 La1 rfl (show (3 : Nat) < 4 by decide) ge_a1 ?_
  intro h9 U10 La1_
  replace Z0 := Nat.le_trans Z0 (Nat.le_of_eq (U10.size).symm)
  replace La1 : Al Z h9 a1 .long [(.long k0), (.long k1), (.long k2), (.long k3)] := La1_
  refine W.iload C at_115 rfl ?_
  refine W.bipush C (7 : Int32) at_117 rfl ?_
  refine W.iand C at_119 ?_
  refine W.iconst C (5 : Int32) at_120 rfl ?_
  refine W.irem C at_121 (by decide) ?_
  rcases own_size p5 with q | q | q | q | q
  · rw [q]
    refine W.istore C #[.val (.long p0), .second, .val (.long p1), .second, .val (.long p2), .second, .val (.long p3), .second, .val (.int p4), .val (.int p5), .val (.long y10), .second, .val (.long y12), .second, .val (.long y14), .second, .val (.long y16), .second, .val (.long k0), .second, .val (.long y20), .second, .val (.long y22), .second, .val (.long k3), .second, .val (.long k1), .second, .val (.long k2), .second, .val (.ref a1), .val (.int (0 : Int32)), .unset, .unset] at_122 rfl ?_
    refine W.iconst C (0 : Int32) at_124 rfl ?_
    refine W.istore C #[.val (.long p0), .second, .val (.long p1), .second, .val (.long p2), .second, .val (.long p3), .second, .val (.int p4), .val (.int p5), .val (.long y10), .second, .val (.long y12), .second, .val (.long y14), .second, .val (.long y16), .second, .val (.long k0), .second, .val (.long y20), .second, .val (.long y22), .second, .val (.long k3), .second, .val (.long k1), .second, .val (.long k2), .second, .val (.ref a1), .val (.int (0 : Int32)), .val (.int (0 : Int32)), .unset] at_125 rfl ?_
    refine W.iload C at_127 rfl ?_
    refine W.if_le C 147 at_129 rfl (fun _ => ?_) (fun b => absurd b (by decide))
    refine W.iload C at_147 rfl ?_
    refine W.iconst C (1 : Int32) at_149 rfl ?_
    refine W.icmp_le C 168 at_150 rfl (fun _ => ?_) (fun b => absurd b (by decide))
    refine W.iload C at_168 rfl ?_
    refine W.iconst C (2 : Int32) at_170 rfl ?_
    refine W.icmp_le C 189 at_171 rfl (fun _ => ?_) (fun b => absurd b (by decide))
    refine W.iload C at_189 rfl ?_
    refine W.iconst C (3 : Int32) at_191 rfl ?_
    refine W.icmp_le C 210 at_192 rfl (fun _ => ?_) (fun b => absurd b (by decide))
    refine W.aload C at_210 rfl rfl ?_
    refine W.iload C at_212 rfl ?_
    refine W.iload C at_214 rfl ?_
    refine W.callS C (y' := y3) at_216 (tkw hw 8 rfl) (tkw hw 9 rfl) (tkw hw 10 rfl) (tkw hw 11 rfl) (by decide) (argsL := [(.ref a1), (.int (0 : Int32)), (.int p4)]) (rest := []) rfl (lenOf pd_1 rfl) (con_3_0 l Z a0 hw h9 n0 a1 p4 k0 k1 k2 k3 La1) 0 1 4 rfl rfl rfl (by decide) (by decide) (by decide) (by decide) rfl ?_
    rintro _ _ ⟨rfl, rfl⟩
    refine W.istore C #[.val (.long p0), .second, .val (.long p1), .second, .val (.long p2), .second, .val (.long p3), .second, .val (.int p4), .val (.int p5), .val (.long y10), .second, .val (.long y12), .second, .val (.long y14), .second, .val (.long y16), .second, .val (.long k0), .second, .val (.long y20), .second, .val (.long y22), .second, .val (.long k3), .second, .val (.long k1), .second, .val (.long k2), .second, .val (.ref a1), .val (.int (0 : Int32)), .val (.int (0 : Int32)), .val (.int (own_la0 p4 k0 k1 k2 k3))] at_219 rfl ?_
    refine W.iload C at_221 rfl ?_
    refine W.iload C at_223 rfl ?_
    refine W.icmp_ne C 232 at_225 rfl (fun b1 => absurd ((own_lak0 _ _ _ _ _ hs).trans (rfl : (0 : Int32) = 0).symm) b1) (fun b1 => ?_)
    refine W.iconst C (1 : Int32) at_228 rfl ?_
    refine W.goto C 233 at_229 rfl ?_
    exact W.iret C at_233 (by simp) rfl (by decide) (by decide) rfl
  · rw [q]
    refine W.istore C #[.val (.long p0), .second, .val (.long p1), .second, .val (.long p2), .second, .val (.long p3), .second, .val (.int p4), .val (.int p5), .val (.long y10), .second, .val (.long y12), .second, .val (.long y14), .second, .val (.long y16), .second, .val (.long k0), .second, .val (.long y20), .second, .val (.long y22), .second, .val (.long k3), .second, .val (.long k1), .second, .val (.long k2), .second, .val (.ref a1), .val (.int (1 : Int32)), .unset, .unset] at_122 rfl ?_
    refine W.iconst C (0 : Int32) at_124 rfl ?_
    refine W.istore C #[.val (.long p0), .second, .val (.long p1), .second, .val (.long p2), .second, .val (.long p3), .second, .val (.int p4), .val (.int p5), .val (.long y10), .second, .val (.long y12), .second, .val (.long y14), .second, .val (.long y16), .second, .val (.long k0), .second, .val (.long y20), .second, .val (.long y22), .second, .val (.long k3), .second, .val (.long k1), .second, .val (.long k2), .second, .val (.ref a1), .val (.int (1 : Int32)), .val (.int (0 : Int32)), .unset] at_125 rfl ?_
    have J147 : ∀ e1 : Int32, e1 = ((0 : Int32) + (if k0 >>> ((32 : Int32) &&& 0x3f).toInt64 < p4.toInt64 then 1 else 0)) → W p l e room_1 s m #[(.long p0), (.long p1), (.long p2), (.long p3), (.int p4), (.int p5)] below meth c n0 (fun v _ => v = some (.int 1)) room_1.cells room_1.slots 1 4 h9 147 #[.val (.long p0), .second, .val (.long p1), .second, .val (.long p2), .second, .val (.long p3), .second, .val (.int p4), .val (.int p5), .val (.long y10), .second, .val (.long y12), .second, .val (.long y14), .second, .val (.long y16), .second, .val (.long k0), .second, .val (.long y20), .second, .val (.long y22), .second, .val (.long k3), .second, .val (.long k1), .second, .val (.long k2), .second, .val (.ref a1), .val (.int (1 : Int32)), .val (.int e1), .unset] [] := by
      intro e1 he
      refine W.iload C at_147 rfl ?_
      refine W.iconst C (1 : Int32) at_149 rfl ?_
      refine W.icmp_le C 168 at_150 rfl (fun _ => ?_) (fun b => absurd b (by decide))
      refine W.iload C at_168 rfl ?_
      refine W.iconst C (2 : Int32) at_170 rfl ?_
      refine W.icmp_le C 189 at_171 rfl (fun _ => ?_) (fun b => absurd b (by decide))
      refine W.iload C at_189 rfl ?_
      refine W.iconst C (3 : Int32) at_191 rfl ?_
      refine W.icmp_le C 210 at_192 rfl (fun _ => ?_) (fun b => absurd b (by decide))
      refine W.aload C at_210 rfl rfl ?_
      refine W.iload C at_212 rfl ?_
      refine W.iload C at_214 rfl ?_
      refine W.callS C (y' := y3) at_216 (tkw hw 8 rfl) (tkw hw 9 rfl) (tkw hw 10 rfl) (tkw hw 11 rfl) (by decide) (argsL := [(.ref a1), (.int (1 : Int32)), (.int p4)]) (rest := []) rfl (lenOf pd_1 rfl) (con_3_1 l Z a0 hw h9 n0 a1 p4 k0 k1 k2 k3 La1) 0 1 4 rfl rfl rfl (by decide) (by decide) (by decide) (by decide) rfl ?_
      rintro _ _ ⟨rfl, rfl⟩
      refine W.istore C #[.val (.long p0), .second, .val (.long p1), .second, .val (.long p2), .second, .val (.long p3), .second, .val (.int p4), .val (.int p5), .val (.long y10), .second, .val (.long y12), .second, .val (.long y14), .second, .val (.long y16), .second, .val (.long k0), .second, .val (.long y20), .second, .val (.long y22), .second, .val (.long k3), .second, .val (.long k1), .second, .val (.long k2), .second, .val (.ref a1), .val (.int (1 : Int32)), .val (.int e1), .val (.int (own_la1 p4 k0 k1 k2 k3))] at_219 rfl ?_
      refine W.iload C at_221 rfl ?_
      refine W.iload C at_223 rfl ?_
      refine W.icmp_ne C 232 at_225 rfl (fun b2 => absurd ((own_lak1 _ _ _ _ _ hs).trans he.symm) b2) (fun b2 => ?_)
      refine W.iconst C (1 : Int32) at_228 rfl ?_
      refine W.goto C 233 at_229 rfl ?_
      exact W.iret C at_233 (by simp) rfl (by decide) (by decide) rfl
    refine W.iload C at_127 rfl ?_
    refine W.if_le C 147 at_129 rfl (fun b => absurd b (by decide)) (fun _ => ?_)
    refine W.lload C at_132 rfl ?_
    refine W.bipush C (32 : Int32) at_134 rfl ?_
    refine W.lshr C at_136 ?_
    refine W.iload C at_137 rfl ?_
    refine W.i2l C at_139 ?_
    refine W.lcmp C at_140 ?_
    refine W.lif_ge C 147 at_141 rfl (fun b3 => ?_) (fun b3 => ?_)
    · skip
      exact J147 (0 : Int32) (by rw [if_neg b3]; rfl)
    · skip
      refine W.iinc C (1 : Int32) #[.val (.long p0), .second, .val (.long p1), .second, .val (.long p2), .second, .val (.long p3), .second, .val (.int p4), .val (.int p5), .val (.long y10), .second, .val (.long y12), .second, .val (.long y14), .second, .val (.long y16), .second, .val (.long k0), .second, .val (.long y20), .second, .val (.long y22), .second, .val (.long k3), .second, .val (.long k1), .second, .val (.long k2), .second, .val (.ref a1), .val (.int (1 : Int32)), .val (.int (1 : Int32)), .unset] at_144 rfl rfl rfl ?_
      exact J147 (1 : Int32) (by rw [if_pos b3]; rfl)
  · rw [q]
    refine W.istore C #[.val (.long p0), .second, .val (.long p1), .second, .val (.long p2), .second, .val (.long p3), .second, .val (.int p4), .val (.int p5), .val (.long y10), .second, .val (.long y12), .second, .val (.long y14), .second, .val (.long y16), .second, .val (.long k0), .second, .val (.long y20), .second, .val (.long y22), .second, .val (.long k3), .second, .val (.long k1), .second, .val (.long k2), .second, .val (.ref a1), .val (.int (2 : Int32)), .unset, .unset] at_122 rfl ?_
    refine W.iconst C (0 : Int32) at_124 rfl ?_
    refine W.istore C #[.val (.long p0), .second, .val (.long p1), .second, .val (.long p2), .second, .val (.long p3), .second, .val (.int p4), .val (.int p5), .val (.long y10), .second, .val (.long y12), .second, .val (.long y14), .second, .val (.long y16), .second, .val (.long k0), .second, .val (.long y20), .second, .val (.long y22), .second, .val (.long k3), .second, .val (.long k1), .second, .val (.long k2), .second, .val (.ref a1), .val (.int (2 : Int32)), .val (.int (0 : Int32)), .unset] at_125 rfl ?_
    have J168 : ∀ e2 : Int32, e2 = (((0 : Int32) + (if k0 >>> ((32 : Int32) &&& 0x3f).toInt64 < p4.toInt64 then 1 else 0)) + (if k1 >>> ((32 : Int32) &&& 0x3f).toInt64 < p4.toInt64 then 1 else 0)) → W p l e room_1 s m #[(.long p0), (.long p1), (.long p2), (.long p3), (.int p4), (.int p5)] below meth c n0 (fun v _ => v = some (.int 1)) room_1.cells room_1.slots 1 4 h9 168 #[.val (.long p0), .second, .val (.long p1), .second, .val (.long p2), .second, .val (.long p3), .second, .val (.int p4), .val (.int p5), .val (.long y10), .second, .val (.long y12), .second, .val (.long y14), .second, .val (.long y16), .second, .val (.long k0), .second, .val (.long y20), .second, .val (.long y22), .second, .val (.long k3), .second, .val (.long k1), .second, .val (.long k2), .second, .val (.ref a1), .val (.int (2 : Int32)), .val (.int e2), .unset] [] := by
      intro e2 he
      refine W.iload C at_168 rfl ?_
      refine W.iconst C (2 : Int32) at_170 rfl ?_
      refine W.icmp_le C 189 at_171 rfl (fun _ => ?_) (fun b => absurd b (by decide))
      refine W.iload C at_189 rfl ?_
      refine W.iconst C (3 : Int32) at_191 rfl ?_
      refine W.icmp_le C 210 at_192 rfl (fun _ => ?_) (fun b => absurd b (by decide))
      refine W.aload C at_210 rfl rfl ?_
      refine W.iload C at_212 rfl ?_
      refine W.iload C at_214 rfl ?_
      refine W.callS C (y' := y3) at_216 (tkw hw 8 rfl) (tkw hw 9 rfl) (tkw hw 10 rfl) (tkw hw 11 rfl) (by decide) (argsL := [(.ref a1), (.int (2 : Int32)), (.int p4)]) (rest := []) rfl (lenOf pd_1 rfl) (con_3_2 l Z a0 hw h9 n0 a1 p4 k0 k1 k2 k3 La1) 0 1 4 rfl rfl rfl (by decide) (by decide) (by decide) (by decide) rfl ?_
      rintro _ _ ⟨rfl, rfl⟩
      refine W.istore C #[.val (.long p0), .second, .val (.long p1), .second, .val (.long p2), .second, .val (.long p3), .second, .val (.int p4), .val (.int p5), .val (.long y10), .second, .val (.long y12), .second, .val (.long y14), .second, .val (.long y16), .second, .val (.long k0), .second, .val (.long y20), .second, .val (.long y22), .second, .val (.long k3), .second, .val (.long k1), .second, .val (.long k2), .second, .val (.ref a1), .val (.int (2 : Int32)), .val (.int e2), .val (.int (own_la2 p4 k0 k1 k2 k3))] at_219 rfl ?_
      refine W.iload C at_221 rfl ?_
      refine W.iload C at_223 rfl ?_
      refine W.icmp_ne C 232 at_225 rfl (fun b4 => absurd ((own_lak2 _ _ _ _ _ hs).trans he.symm) b4) (fun b4 => ?_)
      refine W.iconst C (1 : Int32) at_228 rfl ?_
      refine W.goto C 233 at_229 rfl ?_
      exact W.iret C at_233 (by simp) rfl (by decide) (by decide) rfl
    have J147 : ∀ e1 : Int32, e1 = ((0 : Int32) + (if k0 >>> ((32 : Int32) &&& 0x3f).toInt64 < p4.toInt64 then 1 else 0)) → W p l e room_1 s m #[(.long p0), (.long p1), (.long p2), (.long p3), (.int p4), (.int p5)] below meth c n0 (fun v _ => v = some (.int 1)) room_1.cells room_1.slots 1 4 h9 147 #[.val (.long p0), .second, .val (.long p1), .second, .val (.long p2), .second, .val (.long p3), .second, .val (.int p4), .val (.int p5), .val (.long y10), .second, .val (.long y12), .second, .val (.long y14), .second, .val (.long y16), .second, .val (.long k0), .second, .val (.long y20), .second, .val (.long y22), .second, .val (.long k3), .second, .val (.long k1), .second, .val (.long k2), .second, .val (.ref a1), .val (.int (2 : Int32)), .val (.int e1), .unset] [] := by
      intro e1 he
      refine W.iload C at_147 rfl ?_
      refine W.iconst C (1 : Int32) at_149 rfl ?_
      refine W.icmp_le C 168 at_150 rfl (fun b => absurd b (by decide)) (fun _ => ?_)
      refine W.lload C at_153 rfl ?_
      refine W.bipush C (32 : Int32) at_155 rfl ?_
      refine W.lshr C at_157 ?_
      refine W.iload C at_158 rfl ?_
      refine W.i2l C at_160 ?_
      refine W.lcmp C at_161 ?_
      refine W.lif_ge C 168 at_162 rfl (fun b5 => ?_) (fun b5 => ?_)
      · skip
        exact J168 e1 (by subst he; rw [if_neg b5]; exact (Int32.add_zero _).symm)
      · skip
        refine W.iinc C (e1 + 1) #[.val (.long p0), .second, .val (.long p1), .second, .val (.long p2), .second, .val (.long p3), .second, .val (.int p4), .val (.int p5), .val (.long y10), .second, .val (.long y12), .second, .val (.long y14), .second, .val (.long y16), .second, .val (.long k0), .second, .val (.long y20), .second, .val (.long y22), .second, .val (.long k3), .second, .val (.long k1), .second, .val (.long k2), .second, .val (.ref a1), .val (.int (2 : Int32)), .val (.int (e1 + 1)), .unset] at_165 rfl rfl rfl ?_
        exact J168 (e1 + 1) (by subst he; rw [if_pos b5])
    refine W.iload C at_127 rfl ?_
    refine W.if_le C 147 at_129 rfl (fun b => absurd b (by decide)) (fun _ => ?_)
    refine W.lload C at_132 rfl ?_
    refine W.bipush C (32 : Int32) at_134 rfl ?_
    refine W.lshr C at_136 ?_
    refine W.iload C at_137 rfl ?_
    refine W.i2l C at_139 ?_
    refine W.lcmp C at_140 ?_
    refine W.lif_ge C 147 at_141 rfl (fun b6 => ?_) (fun b6 => ?_)
    · skip
      exact J147 (0 : Int32) (by rw [if_neg b6]; rfl)
    · skip
      refine W.iinc C (1 : Int32) #[.val (.long p0), .second, .val (.long p1), .second, .val (.long p2), .second, .val (.long p3), .second, .val (.int p4), .val (.int p5), .val (.long y10), .second, .val (.long y12), .second, .val (.long y14), .second, .val (.long y16), .second, .val (.long k0), .second, .val (.long y20), .second, .val (.long y22), .second, .val (.long k3), .second, .val (.long k1), .second, .val (.long k2), .second, .val (.ref a1), .val (.int (2 : Int32)), .val (.int (1 : Int32)), .unset] at_144 rfl rfl rfl ?_
      exact J147 (1 : Int32) (by rw [if_pos b6]; rfl)
  · rw [q]
    refine W.istore C #[.val (.long p0), .second, .val (.long p1), .second, .val (.long p2), .second, .val (.long p3), .second, .val (.int p4), .val (.int p5), .val (.long y10), .second, .val (.long y12), .second, .val (.long y14), .second, .val (.long y16), .second, .val (.long k0), .second, .val (.long y20), .second, .val (.long y22), .second, .val (.long k3), .second, .val (.long k1), .second, .val (.long k2), .second, .val (.ref a1), .val (.int (3 : Int32)), .unset, .unset] at_122 rfl ?_
    refine W.iconst C (0 : Int32) at_124 rfl ?_
    refine W.istore C #[.val (.long p0), .second, .val (.long p1), .second, .val (.long p2), .second, .val (.long p3), .second, .val (.int p4), .val (.int p5), .val (.long y10), .second, .val (.long y12), .second, .val (.long y14), .second, .val (.long y16), .second, .val (.long k0), .second, .val (.long y20), .second, .val (.long y22), .second, .val (.long k3), .second, .val (.long k1), .second, .val (.long k2), .second, .val (.ref a1), .val (.int (3 : Int32)), .val (.int (0 : Int32)), .unset] at_125 rfl ?_
    have J189 : ∀ e3 : Int32, e3 = ((((0 : Int32) + (if k0 >>> ((32 : Int32) &&& 0x3f).toInt64 < p4.toInt64 then 1 else 0)) + (if k1 >>> ((32 : Int32) &&& 0x3f).toInt64 < p4.toInt64 then 1 else 0)) + (if k2 >>> ((32 : Int32) &&& 0x3f).toInt64 < p4.toInt64 then 1 else 0)) → W p l e room_1 s m #[(.long p0), (.long p1), (.long p2), (.long p3), (.int p4), (.int p5)] below meth c n0 (fun v _ => v = some (.int 1)) room_1.cells room_1.slots 1 4 h9 189 #[.val (.long p0), .second, .val (.long p1), .second, .val (.long p2), .second, .val (.long p3), .second, .val (.int p4), .val (.int p5), .val (.long y10), .second, .val (.long y12), .second, .val (.long y14), .second, .val (.long y16), .second, .val (.long k0), .second, .val (.long y20), .second, .val (.long y22), .second, .val (.long k3), .second, .val (.long k1), .second, .val (.long k2), .second, .val (.ref a1), .val (.int (3 : Int32)), .val (.int e3), .unset] [] := by
      intro e3 he
      refine W.iload C at_189 rfl ?_
      refine W.iconst C (3 : Int32) at_191 rfl ?_
      refine W.icmp_le C 210 at_192 rfl (fun _ => ?_) (fun b => absurd b (by decide))
      refine W.aload C at_210 rfl rfl ?_
      refine W.iload C at_212 rfl ?_
      refine W.iload C at_214 rfl ?_
      refine W.callS C (y' := y3) at_216 (tkw hw 8 rfl) (tkw hw 9 rfl) (tkw hw 10 rfl) (tkw hw 11 rfl) (by decide) (argsL := [(.ref a1), (.int (3 : Int32)), (.int p4)]) (rest := []) rfl (lenOf pd_1 rfl) (con_3_3 l Z a0 hw h9 n0 a1 p4 k0 k1 k2 k3 La1) 0 1 4 rfl rfl rfl (by decide) (by decide) (by decide) (by decide) rfl ?_
      rintro _ _ ⟨rfl, rfl⟩
      refine W.istore C #[.val (.long p0), .second, .val (.long p1), .second, .val (.long p2), .second, .val (.long p3), .second, .val (.int p4), .val (.int p5), .val (.long y10), .second, .val (.long y12), .second, .val (.long y14), .second, .val (.long y16), .second, .val (.long k0), .second, .val (.long y20), .second, .val (.long y22), .second, .val (.long k3), .second, .val (.long k1), .second, .val (.long k2), .second, .val (.ref a1), .val (.int (3 : Int32)), .val (.int e3), .val (.int (own_la3 p4 k0 k1 k2 k3))] at_219 rfl ?_
      refine W.iload C at_221 rfl ?_
      refine W.iload C at_223 rfl ?_
      refine W.icmp_ne C 232 at_225 rfl (fun b7 => absurd ((own_lak3 _ _ _ _ _ hs).trans he.symm) b7) (fun b7 => ?_)
      refine W.iconst C (1 : Int32) at_228 rfl ?_
      refine W.goto C 233 at_229 rfl ?_
      exact W.iret C at_233 (by simp) rfl (by decide) (by decide) rfl
    have J168 : ∀ e2 : Int32, e2 = (((0 : Int32) + (if k0 >>> ((32 : Int32) &&& 0x3f).toInt64 < p4.toInt64 then 1 else 0)) + (if k1 >>> ((32 : Int32) &&& 0x3f).toInt64 < p4.toInt64 then 1 else 0)) → W p l e room_1 s m #[(.long p0), (.long p1), (.long p2), (.long p3), (.int p4), (.int p5)] below meth c n0 (fun v _ => v = some (.int 1)) room_1.cells room_1.slots 1 4 h9 168 #[.val (.long p0), .second, .val (.long p1), .second, .val (.long p2), .second, .val (.long p3), .second, .val (.int p4), .val (.int p5), .val (.long y10), .second, .val (.long y12), .second, .val (.long y14), .second, .val (.long y16), .second, .val (.long k0), .second, .val (.long y20), .second, .val (.long y22), .second, .val (.long k3), .second, .val (.long k1), .second, .val (.long k2), .second, .val (.ref a1), .val (.int (3 : Int32)), .val (.int e2), .unset] [] := by
      intro e2 he
      refine W.iload C at_168 rfl ?_
      refine W.iconst C (2 : Int32) at_170 rfl ?_
      refine W.icmp_le C 189 at_171 rfl (fun b => absurd b (by decide)) (fun _ => ?_)
      refine W.lload C at_174 rfl ?_
      refine W.bipush C (32 : Int32) at_176 rfl ?_
      refine W.lshr C at_178 ?_
      refine W.iload C at_179 rfl ?_
      refine W.i2l C at_181 ?_
      refine W.lcmp C at_182 ?_
      refine W.lif_ge C 189 at_183 rfl (fun b8 => ?_) (fun b8 => ?_)
      · skip
        exact J189 e2 (by subst he; rw [if_neg b8]; exact (Int32.add_zero _).symm)
      · skip
        refine W.iinc C (e2 + 1) #[.val (.long p0), .second, .val (.long p1), .second, .val (.long p2), .second, .val (.long p3), .second, .val (.int p4), .val (.int p5), .val (.long y10), .second, .val (.long y12), .second, .val (.long y14), .second, .val (.long y16), .second, .val (.long k0), .second, .val (.long y20), .second, .val (.long y22), .second, .val (.long k3), .second, .val (.long k1), .second, .val (.long k2), .second, .val (.ref a1), .val (.int (3 : Int32)), .val (.int (e2 + 1)), .unset] at_186 rfl rfl rfl ?_
        exact J189 (e2 + 1) (by subst he; rw [if_pos b8])
    have J147 : ∀ e1 : Int32, e1 = ((0 : Int32) + (if k0 >>> ((32 : Int32) &&& 0x3f).toInt64 < p4.toInt64 then 1 else 0)) → W p l e room_1 s m #[(.long p0), (.long p1), (.long p2), (.long p3), (.int p4), (.int p5)] below meth c n0 (fun v _ => v = some (.int 1)) room_1.cells room_1.slots 1 4 h9 147 #[.val (.long p0), .second, .val (.long p1), .second, .val (.long p2), .second, .val (.long p3), .second, .val (.int p4), .val (.int p5), .val (.long y10), .second, .val (.long y12), .second, .val (.long y14), .second, .val (.long y16), .second, .val (.long k0), .second, .val (.long y20), .second, .val (.long y22), .second, .val (.long k3), .second, .val (.long k1), .second, .val (.long k2), .second, .val (.ref a1), .val (.int (3 : Int32)), .val (.int e1), .unset] [] := by
      intro e1 he
      refine W.iload C at_147 rfl ?_
      refine W.iconst C (1 : Int32) at_149 rfl ?_
      refine W.icmp_le C 168 at_150 rfl (fun b => absurd b (by decide)) (fun _ => ?_)
      refine W.lload C at_153 rfl ?_
      refine W.bipush C (32 : Int32) at_155 rfl ?_
      refine W.lshr C at_157 ?_
      refine W.iload C at_158 rfl ?_
      refine W.i2l C at_160 ?_
      refine W.lcmp C at_161 ?_
      refine W.lif_ge C 168 at_162 rfl (fun b9 => ?_) (fun b9 => ?_)
      · skip
        exact J168 e1 (by subst he; rw [if_neg b9]; exact (Int32.add_zero _).symm)
      · skip
        refine W.iinc C (e1 + 1) #[.val (.long p0), .second, .val (.long p1), .second, .val (.long p2), .second, .val (.long p3), .second, .val (.int p4), .val (.int p5), .val (.long y10), .second, .val (.long y12), .second, .val (.long y14), .second, .val (.long y16), .second, .val (.long k0), .second, .val (.long y20), .second, .val (.long y22), .second, .val (.long k3), .second, .val (.long k1), .second, .val (.long k2), .second, .val (.ref a1), .val (.int (3 : Int32)), .val (.int (e1 + 1)), .unset] at_165 rfl rfl rfl ?_
        exact J168 (e1 + 1) (by subst he; rw [if_pos b9])
    refine W.iload C at_127 rfl ?_
    refine W.if_le C 147 at_129 rfl (fun b => absurd b (by decide)) (fun _ => ?_)
    refine W.lload C at_132 rfl ?_
    refine W.bipush C (32 : Int32) at_134 rfl ?_
    refine W.lshr C at_136 ?_
    refine W.iload C at_137 rfl ?_
    refine W.i2l C at_139 ?_
    refine W.lcmp C at_140 ?_
    refine W.lif_ge C 147 at_141 rfl (fun b10 => ?_) (fun b10 => ?_)
    · skip
      exact J147 (0 : Int32) (by rw [if_neg b10]; rfl)
    · skip
      refine W.iinc C (1 : Int32) #[.val (.long p0), .second, .val (.long p1), .second, .val (.long p2), .second, .val (.long p3), .second, .val (.int p4), .val (.int p5), .val (.long y10), .second, .val (.long y12), .second, .val (.long y14), .second, .val (.long y16), .second, .val (.long k0), .second, .val (.long y20), .second, .val (.long y22), .second, .val (.long k3), .second, .val (.long k1), .second, .val (.long k2), .second, .val (.ref a1), .val (.int (3 : Int32)), .val (.int (1 : Int32)), .unset] at_144 rfl rfl rfl ?_
      exact J147 (1 : Int32) (by rw [if_pos b10]; rfl)
  · rw [q]
    refine W.istore C #[.val (.long p0), .second, .val (.long p1), .second, .val (.long p2), .second, .val (.long p3), .second, .val (.int p4), .val (.int p5), .val (.long y10), .second, .val (.long y12), .second, .val (.long y14), .second, .val (.long y16), .second, .val (.long k0), .second, .val (.long y20), .second, .val (.long y22), .second, .val (.long k3), .second, .val (.long k1), .second, .val (.long k2), .second, .val (.ref a1), .val (.int (4 : Int32)), .unset, .unset] at_122 rfl ?_
    refine W.iconst C (0 : Int32) at_124 rfl ?_
    refine W.istore C #[.val (.long p0), .second, .val (.long p1), .second, .val (.long p2), .second, .val (.long p3), .second, .val (.int p4), .val (.int p5), .val (.long y10), .second, .val (.long y12), .second, .val (.long y14), .second, .val (.long y16), .second, .val (.long k0), .second, .val (.long y20), .second, .val (.long y22), .second, .val (.long k3), .second, .val (.long k1), .second, .val (.long k2), .second, .val (.ref a1), .val (.int (4 : Int32)), .val (.int (0 : Int32)), .unset] at_125 rfl ?_
    have J210 : ∀ e4 : Int32, e4 = (((((0 : Int32) + (if k0 >>> ((32 : Int32) &&& 0x3f).toInt64 < p4.toInt64 then 1 else 0)) + (if k1 >>> ((32 : Int32) &&& 0x3f).toInt64 < p4.toInt64 then 1 else 0)) + (if k2 >>> ((32 : Int32) &&& 0x3f).toInt64 < p4.toInt64 then 1 else 0)) + (if k3 >>> ((32 : Int32) &&& 0x3f).toInt64 < p4.toInt64 then 1 else 0)) → W p l e room_1 s m #[(.long p0), (.long p1), (.long p2), (.long p3), (.int p4), (.int p5)] below meth c n0 (fun v _ => v = some (.int 1)) room_1.cells room_1.slots 1 4 h9 210 #[.val (.long p0), .second, .val (.long p1), .second, .val (.long p2), .second, .val (.long p3), .second, .val (.int p4), .val (.int p5), .val (.long y10), .second, .val (.long y12), .second, .val (.long y14), .second, .val (.long y16), .second, .val (.long k0), .second, .val (.long y20), .second, .val (.long y22), .second, .val (.long k3), .second, .val (.long k1), .second, .val (.long k2), .second, .val (.ref a1), .val (.int (4 : Int32)), .val (.int e4), .unset] [] := by
      intro e4 he
      refine W.aload C at_210 rfl rfl ?_
      refine W.iload C at_212 rfl ?_
      refine W.iload C at_214 rfl ?_
      refine W.callS C (y' := y3) at_216 (tkw hw 8 rfl) (tkw hw 9 rfl) (tkw hw 10 rfl) (tkw hw 11 rfl) (by decide) (argsL := [(.ref a1), (.int (4 : Int32)), (.int p4)]) (rest := []) rfl (lenOf pd_1 rfl) (con_3_4 l Z a0 hw h9 n0 a1 p4 k0 k1 k2 k3 La1) 0 1 4 rfl rfl rfl (by decide) (by decide) (by decide) (by decide) rfl ?_
      rintro _ _ ⟨rfl, rfl⟩
      refine W.istore C #[.val (.long p0), .second, .val (.long p1), .second, .val (.long p2), .second, .val (.long p3), .second, .val (.int p4), .val (.int p5), .val (.long y10), .second, .val (.long y12), .second, .val (.long y14), .second, .val (.long y16), .second, .val (.long k0), .second, .val (.long y20), .second, .val (.long y22), .second, .val (.long k3), .second, .val (.long k1), .second, .val (.long k2), .second, .val (.ref a1), .val (.int (4 : Int32)), .val (.int e4), .val (.int (own_la4 p4 k0 k1 k2 k3))] at_219 rfl ?_
      refine W.iload C at_221 rfl ?_
      refine W.iload C at_223 rfl ?_
      refine W.icmp_ne C 232 at_225 rfl (fun b11 => absurd ((own_lak4 _ _ _ _ _ hs).trans he.symm) b11) (fun b11 => ?_)
      refine W.iconst C (1 : Int32) at_228 rfl ?_
      refine W.goto C 233 at_229 rfl ?_
      exact W.iret C at_233 (by simp) rfl (by decide) (by decide) rfl
    have J189 : ∀ e3 : Int32, e3 = ((((0 : Int32) + (if k0 >>> ((32 : Int32) &&& 0x3f).toInt64 < p4.toInt64 then 1 else 0)) + (if k1 >>> ((32 : Int32) &&& 0x3f).toInt64 < p4.toInt64 then 1 else 0)) + (if k2 >>> ((32 : Int32) &&& 0x3f).toInt64 < p4.toInt64 then 1 else 0)) → W p l e room_1 s m #[(.long p0), (.long p1), (.long p2), (.long p3), (.int p4), (.int p5)] below meth c n0 (fun v _ => v = some (.int 1)) room_1.cells room_1.slots 1 4 h9 189 #[.val (.long p0), .second, .val (.long p1), .second, .val (.long p2), .second, .val (.long p3), .second, .val (.int p4), .val (.int p5), .val (.long y10), .second, .val (.long y12), .second, .val (.long y14), .second, .val (.long y16), .second, .val (.long k0), .second, .val (.long y20), .second, .val (.long y22), .second, .val (.long k3), .second, .val (.long k1), .second, .val (.long k2), .second, .val (.ref a1), .val (.int (4 : Int32)), .val (.int e3), .unset] [] := by
      intro e3 he
      refine W.iload C at_189 rfl ?_
      refine W.iconst C (3 : Int32) at_191 rfl ?_
      refine W.icmp_le C 210 at_192 rfl (fun b => absurd b (by decide)) (fun _ => ?_)
      refine W.lload C at_195 rfl ?_
      refine W.bipush C (32 : Int32) at_197 rfl ?_
      refine W.lshr C at_199 ?_
      refine W.iload C at_200 rfl ?_
      refine W.i2l C at_202 ?_
      refine W.lcmp C at_203 ?_
      refine W.lif_ge C 210 at_204 rfl (fun b12 => ?_) (fun b12 => ?_)
      · skip
        exact J210 e3 (by subst he; rw [if_neg b12]; exact (Int32.add_zero _).symm)
      · skip
        refine W.iinc C (e3 + 1) #[.val (.long p0), .second, .val (.long p1), .second, .val (.long p2), .second, .val (.long p3), .second, .val (.int p4), .val (.int p5), .val (.long y10), .second, .val (.long y12), .second, .val (.long y14), .second, .val (.long y16), .second, .val (.long k0), .second, .val (.long y20), .second, .val (.long y22), .second, .val (.long k3), .second, .val (.long k1), .second, .val (.long k2), .second, .val (.ref a1), .val (.int (4 : Int32)), .val (.int (e3 + 1)), .unset] at_207 rfl rfl rfl ?_
        exact J210 (e3 + 1) (by subst he; rw [if_pos b12])
    have J168 : ∀ e2 : Int32, e2 = (((0 : Int32) + (if k0 >>> ((32 : Int32) &&& 0x3f).toInt64 < p4.toInt64 then 1 else 0)) + (if k1 >>> ((32 : Int32) &&& 0x3f).toInt64 < p4.toInt64 then 1 else 0)) → W p l e room_1 s m #[(.long p0), (.long p1), (.long p2), (.long p3), (.int p4), (.int p5)] below meth c n0 (fun v _ => v = some (.int 1)) room_1.cells room_1.slots 1 4 h9 168 #[.val (.long p0), .second, .val (.long p1), .second, .val (.long p2), .second, .val (.long p3), .second, .val (.int p4), .val (.int p5), .val (.long y10), .second, .val (.long y12), .second, .val (.long y14), .second, .val (.long y16), .second, .val (.long k0), .second, .val (.long y20), .second, .val (.long y22), .second, .val (.long k3), .second, .val (.long k1), .second, .val (.long k2), .second, .val (.ref a1), .val (.int (4 : Int32)), .val (.int e2), .unset] [] := by
      intro e2 he
      refine W.iload C at_168 rfl ?_
      refine W.iconst C (2 : Int32) at_170 rfl ?_
      refine W.icmp_le C 189 at_171 rfl (fun b => absurd b (by decide)) (fun _ => ?_)
      refine W.lload C at_174 rfl ?_
      refine W.bipush C (32 : Int32) at_176 rfl ?_
      refine W.lshr C at_178 ?_
      refine W.iload C at_179 rfl ?_
      refine W.i2l C at_181 ?_
      refine W.lcmp C at_182 ?_
      refine W.lif_ge C 189 at_183 rfl (fun b13 => ?_) (fun b13 => ?_)
      · skip
        exact J189 e2 (by subst he; rw [if_neg b13]; exact (Int32.add_zero _).symm)
      · skip
        refine W.iinc C (e2 + 1) #[.val (.long p0), .second, .val (.long p1), .second, .val (.long p2), .second, .val (.long p3), .second, .val (.int p4), .val (.int p5), .val (.long y10), .second, .val (.long y12), .second, .val (.long y14), .second, .val (.long y16), .second, .val (.long k0), .second, .val (.long y20), .second, .val (.long y22), .second, .val (.long k3), .second, .val (.long k1), .second, .val (.long k2), .second, .val (.ref a1), .val (.int (4 : Int32)), .val (.int (e2 + 1)), .unset] at_186 rfl rfl rfl ?_
        exact J189 (e2 + 1) (by subst he; rw [if_pos b13])
    have J147 : ∀ e1 : Int32, e1 = ((0 : Int32) + (if k0 >>> ((32 : Int32) &&& 0x3f).toInt64 < p4.toInt64 then 1 else 0)) → W p l e room_1 s m #[(.long p0), (.long p1), (.long p2), (.long p3), (.int p4), (.int p5)] below meth c n0 (fun v _ => v = some (.int 1)) room_1.cells room_1.slots 1 4 h9 147 #[.val (.long p0), .second, .val (.long p1), .second, .val (.long p2), .second, .val (.long p3), .second, .val (.int p4), .val (.int p5), .val (.long y10), .second, .val (.long y12), .second, .val (.long y14), .second, .val (.long y16), .second, .val (.long k0), .second, .val (.long y20), .second, .val (.long y22), .second, .val (.long k3), .second, .val (.long k1), .second, .val (.long k2), .second, .val (.ref a1), .val (.int (4 : Int32)), .val (.int e1), .unset] [] := by
      intro e1 he
      refine W.iload C at_147 rfl ?_
      refine W.iconst C (1 : Int32) at_149 rfl ?_
      refine W.icmp_le C 168 at_150 rfl (fun b => absurd b (by decide)) (fun _ => ?_)
      refine W.lload C at_153 rfl ?_
      refine W.bipush C (32 : Int32) at_155 rfl ?_
      refine W.lshr C at_157 ?_
      refine W.iload C at_158 rfl ?_
      refine W.i2l C at_160 ?_
      refine W.lcmp C at_161 ?_
      refine W.lif_ge C 168 at_162 rfl (fun b14 => ?_) (fun b14 => ?_)
      · skip
        exact J168 e1 (by subst he; rw [if_neg b14]; exact (Int32.add_zero _).symm)
      · skip
        refine W.iinc C (e1 + 1) #[.val (.long p0), .second, .val (.long p1), .second, .val (.long p2), .second, .val (.long p3), .second, .val (.int p4), .val (.int p5), .val (.long y10), .second, .val (.long y12), .second, .val (.long y14), .second, .val (.long y16), .second, .val (.long k0), .second, .val (.long y20), .second, .val (.long y22), .second, .val (.long k3), .second, .val (.long k1), .second, .val (.long k2), .second, .val (.ref a1), .val (.int (4 : Int32)), .val (.int (e1 + 1)), .unset] at_165 rfl rfl rfl ?_
        exact J168 (e1 + 1) (by subst he; rw [if_pos b14])
    refine W.iload C at_127 rfl ?_
    refine W.if_le C 147 at_129 rfl (fun b => absurd b (by decide)) (fun _ => ?_)
    refine W.lload C at_132 rfl ?_
    refine W.bipush C (32 : Int32) at_134 rfl ?_
    refine W.lshr C at_136 ?_
    refine W.iload C at_137 rfl ?_
    refine W.i2l C at_139 ?_
    refine W.lcmp C at_140 ?_
    refine W.lif_ge C 147 at_141 rfl (fun b15 => ?_) (fun b15 => ?_)
    · skip
      exact J147 (0 : Int32) (by rw [if_neg b15]; rfl)
    · skip
      refine W.iinc C (1 : Int32) #[.val (.long p0), .second, .val (.long p1), .second, .val (.long p2), .second, .val (.long p3), .second, .val (.int p4), .val (.int p5), .val (.long y10), .second, .val (.long y12), .second, .val (.long y14), .second, .val (.long y16), .second, .val (.long k0), .second, .val (.long y20), .second, .val (.long y22), .second, .val (.long k3), .second, .val (.long k1), .second, .val (.long k2), .second, .val (.ref a1), .val (.int (4 : Int32)), .val (.int (1 : Int32)), .unset] at_144 rfl rfl rfl ?_
      exact J147 (1 : Int32) (by rw [if_pos b15]; rfl)

set_option maxRecDepth 65536 in
set_option maxHeartbeats 40000000 in
theorem comes_1 {Post : Tables → Env → Array Value → State → Outcome → State → Prop} (hpost : ∀ tb e args s v u, (limb_1_1.after args s (.returned v) u = true ∧ limb_1_2.after args s (.returned v) u = true ∧ True) → FrameEnd s (.returned v) u (Jvm.fieldLocs frame_1_writes args s ++ Jvm.arrayLocs frame_1_arrays args s ++ Jvm.staticLocs frame_1_statics s) 16 128 → Post tb e args s (.returned v) u) :
    ArmFor flags0 classFile x code maxLocals ret World_1 tables_1 room_1 Calls_1 rest_1 Pre_1 Post := by
  intro l hfl _ _ p e ha hc hk s m args below hf hA hF happ hP
  obtain ⟨hcalls, hrest, hpre⟩ := hP
  obtain ⟨-, -, -, hnamed, -, -, -, hat⟩ := (Spec.applies_iff hf).mp happ
  obtain ⟨hg, hn⟩ := and_e (Cond.before_iff.mp (show (Jvm.Cond.and given_1 narrow_1).before args s = true from hpre))
  obtain ⟨gc, g0⟩ := and_e hg
  obtain ⟨i0h, g1⟩ := and_e g0
  obtain ⟨i1h, g2⟩ := and_e g1
  obtain ⟨i2h, g3⟩ := and_e g2
  obtain ⟨i3h, g4⟩ := and_e g3
  obtain ⟨i4h, g5⟩ := and_e g4
  obtain ⟨w0, w1, w2, w3, w4, w5, rfl⟩ : ∃ w0 w1 w2 w3 w4 w5 : Value, args = #[w0, w1, w2, w3, w4, w5] := by
    have hs : args.size = 6 := by simpa [Cond.value, given_1] using gc
    obtain ⟨L⟩ := args
    match L, hs with
    | [w0, w1, w2, w3, w4, w5], _ => exact ⟨w0, w1, w2, w3, w4, w5, rfl⟩
  have hw := fun d (hd : d ∈ tables_1) => atoms_spec (ws := Jvm.Cond.code x code maxLocals ret :: tables_1) hat d (List.mem_cons_of_mem _ hd)
  have hfit : Fit s := fun {y c} hc i hi => by
    obtain ⟨ha, rfl⟩ := Array.getElem?_eq_some_iff.mp hc
    have q := List.all_eq_true.mp ((Array.all_eq_true_iff_forall_mem.mp hF) _ (Array.getElem_mem ha)) i (List.mem_range.mpr hi)
    simpa [Array.getElem?_eq_getElem hi] using q
  obtain ⟨i0, ei0⟩ := isL_v i0h
  obtain rfl : w0 = (.long i0) := Option.some.inj ei0
  obtain ⟨i1, ei1⟩ := isL_v i1h
  obtain rfl : w1 = (.long i1) := Option.some.inj ei1
  obtain ⟨i2, ei2⟩ := isL_v i2h
  obtain rfl : w2 = (.long i2) := Option.some.inj ei2
  obtain ⟨i3, ei3⟩ := isL_v i3h
  obtain rfl : w3 = (.long i3) := Option.some.inj ei3
  obtain ⟨i4, ei4⟩ := is_v i4h
  obtain rfl : w4 = (.int i4) := Option.some.inj ei4
  obtain ⟨i5, ei5⟩ := is_v g5
  obtain rfl : w5 = (.int i5) := Option.some.inj ei5
  obtain ⟨n, o, h1, h2, h3, _, L, rfl, ⟨rfl, N⟩, hq⟩ := (con_0 l s _ hw s.heap s.heap.size i0 i1 i2 i3 i4 i5 (Nat.le_refl _)) tables_1 p e ha hc hk s m _ below hf ((Spec.applies_iff_loose hf).mp happ).1 ⟨rfl, State.Warmed39.refl s, rfl⟩ trivial
  refine ⟨n, _, h1, h2, h3, hpost _ _ _ _ _ _ ⟨Cond.after_iff.mpr rfl, Cond.after_iff.mpr (eq_i res_at (Term.int_eval (1)) rfl), trivial⟩ ⟨hq.1, hq.2.1, (hq.2.2.sift fun y hy => Or.inr (N y hy)).mono (by decide) (by decide)⟩⟩
theorem main_1_1 : Claimed_1_1 := comes_1 fun _ _ _ _ _ _ h hF => ⟨h.1, hF⟩
theorem main_1_2 : Claimed_1_2 := comes_1 fun _ _ _ _ _ _ h hF => ⟨h.2.1, hF⟩
end Jvm.Pilot.@@N@@
namespace Jvm.Pilot.@@N@@
open Jvm Jvm.ClassFile Sem Op Lib Jvm.Free Jvm.Stand Jvm.Pilot.@@N@@.Jvm.D
/-! MADE BY PROGRAM (witnessworld.py) out of the Statement's table words and the real class files: 12 classes; the members and pool entries that the words name. The judged class is class 1, her method 1. -/
namespace start1
open Jvm.ClassFile
def u (s : String) : CpInfo := .utf8 (stringToUtf16 s)
/-- a pool by its gaps: so many unusable entries, then the entry; so many at the end -/
def gap : Nat → List CpInfo → List CpInfo
  | 0, r => r
  | n + 1, r => .unusable :: gap n r
def poolList (es : List (Nat × CpInfo)) (last : Nat) : List CpInfo := es.foldr (fun e r => gap e.1 (e.2 :: r)) (gap last [])
def pool (es : List (Nat × CpInfo)) (last : Nat) : Array CpInfo := ⟨poolList es last⟩
def fileOf (pool : Array CpInfo) (this : Nat) (attrs : Array Attribute := #[]) (ms : Array MethodInfo := #[]) (fl : Nat := 33) (sup : Nat := 0) (ifs : Array Nat := #[]) (fds : Array FieldInfo := #[]) : ClassFile where
  minorVersion := 0
  majorVersion := 65
  constantPool := pool
  accessFlags := fl
  thisClass := this
  superClass := sup
  interfaces := ifs
  fields := fds
  methods := ms
  attributes := attrs
def plain (name : String) (sup : Option ClassId) : Class where
  name := name
  kind := .ordinary
  loader := none
  accessFlags := 33
  super := sup
  interfaces := #[]
  cf := none
  fields := #[]
  methods := #[]
  instanceTypes := #[]
  staticTypes := #[]
  resolved := #[]
  callSites := []
  init := .initialized
  statics := none
  mirror := none

def pool0 : Array CpInfo := pool [(5, u "<init>"), (0, u "()V"), (1, .class_ 10), (1, u "java/lang/Object")] 113

def k0m0 : Method := { name := "<init>", desc := "()V", sig := { parameters := [], returnType := none }, accessFlags := 1, code := none }
/-- java/lang/Object -/
def k0 : Class := { plain "java/lang/Object" none with
  accessFlags := 33
  interfaces := #[]
  cf := some (fileOf pool0 8 #[] #[{ accessFlags := 1, nameIndex := 5, descriptorIndex := 6, attributes := #[] }] 33 0 #[] #[])
  fields := #[]
  methods := #[k0m0]
  instanceTypes := #[]
  staticTypes := #[]
  resolved := Array.replicate 124 none
  statics := none }

def pool1 : Array CpInfo := pool [(2, .class_ 4), (1, u "java/lang/Object"), (0, u "<init>"), (0, u "()V"), (0, .methodref 8 9), (0, .class_ 10), (0, .nameAndType 11 12), (0, u "java/lang/Math"), (0, u "min"), (0, u "(JJ)J"), (0, .methodref 8 14), (0, .nameAndType 15 12), (0, u "max"), (0, .methodref 17 18), (0, .class_ 19), (0, .nameAndType 20 21), (0, u "com/example/dido/dido/CrossingModel"), (0, u "leadingAbove"), (0, u "([JII)I"), (0, .class_ 23), (0, u "com/example/dido/dido/CrossingModelLeadingAbovePinLaw"), (2, u "law"), (0, u "(JJJJII)Z")] 5

def k1m0 : Method := { name := "<init>", desc := "()V", sig := { parameters := [], returnType := none }, accessFlags := 2, code := none }
def k1c1 : Code := { maxStack := 4, maxLocals := 34, code := code, exceptionTable := #[], attributes := #[] }
def k1m1 : Method := { name := "law", desc := "(JJJJII)Z", sig := { parameters := [.long, .long, .long, .long, .int, .int], returnType := some .boolean }, accessFlags := 9, code := some k1c1 }
/-- com/example/dido/dido/CrossingModelLeadingAbovePinLaw -/
def k1 : Class := { plain "com/example/dido/dido/CrossingModelLeadingAbovePinLaw" (some 0) with
  accessFlags := 49
  interfaces := #[]
  cf := some (fileOf pool1 22 #[] #[{ accessFlags := 2, nameIndex := 5, descriptorIndex := 6, attributes := #[] }, { accessFlags := 9, nameIndex := 26, descriptorIndex := 27, attributes := #[] }] 49 2 #[] #[])
  fields := #[]
  methods := #[k1m0, k1m1]
  instanceTypes := #[]
  staticTypes := #[]
  resolved := Array.replicate 33 none
  statics := none }

def pool2 : Array CpInfo := pool [(1, .class_ 2), (0, u "java/lang/Math"), (1, .class_ 6), (1, u "java/lang/Object"), (0, u "<init>"), (0, u "()V"), (89, .class_ 100), (1, u "java/lang/Math$RandomNumberGeneratorHolder"), (20, u "(JJ)J"), (50, u "negativeZeroFloatBits"), (0, u "J"), (2, u "negativeZeroDoubleBits"), (21, u "max"), (2, u "min"), (43, u "$assertionsDisabled"), (0, u "Z"), (91, u "twoToTheDoubleScaleDown"), (0, u "D"), (4, u "twoToTheDoubleScaleUp"), (9, u "E"), (3, u "PI"), (2, u "TAU"), (2, u "DEGREES_TO_RADIANS"), (0, u "RADIANS_TO_DEGREES")] 94

def k2m0 : Method := { name := "<init>", desc := "()V", sig := { parameters := [], returnType := none }, accessFlags := 2, code := none }
def k2c1 : Code := { maxStack := 4, maxLocals := 4, code := jdk_29_method_66_code, exceptionTable := #[], attributes := #[] }
def k2m1 : Method := { name := "max", desc := "(JJ)J", sig := { parameters := [.long, .long], returnType := some .long }, accessFlags := 9, code := some k2c1 }
def k2c2 : Code := { maxStack := 4, maxLocals := 4, code := jdk_29_method_70_code, exceptionTable := #[], attributes := #[] }
def k2m2 : Method := { name := "min", desc := "(JJ)J", sig := { parameters := [.long, .long], returnType := some .long }, accessFlags := 9, code := some k2c2 }
/-- java/lang/Math -/
def k2 : Class := { plain "java/lang/Math" (some 0) with
  accessFlags := 49
  interfaces := #[]
  cf := some (fileOf pool2 1 #[.nestMembers #[98]] #[{ accessFlags := 2, nameIndex := 7, descriptorIndex := 8, attributes := #[] }, { accessFlags := 9, nameIndex := 198, descriptorIndex := 121, attributes := #[] }, { accessFlags := 9, nameIndex := 201, descriptorIndex := 121, attributes := #[] }] 49 4 #[] #[{ accessFlags := 25, nameIndex := 354, descriptorIndex := 339, attributes := #[] }, { accessFlags := 25, nameIndex := 358, descriptorIndex := 339, attributes := #[] }, { accessFlags := 25, nameIndex := 361, descriptorIndex := 339, attributes := #[] }, { accessFlags := 26, nameIndex := 364, descriptorIndex := 339, attributes := #[] }, { accessFlags := 26, nameIndex := 365, descriptorIndex := 339, attributes := #[] }, { accessFlags := 26, nameIndex := 172, descriptorIndex := 173, attributes := #[] }, { accessFlags := 26, nameIndex := 176, descriptorIndex := 173, attributes := #[] }, { accessFlags := 8, nameIndex := 344, descriptorIndex := 339, attributes := #[] }, { accessFlags := 8, nameIndex := 338, descriptorIndex := 339, attributes := #[] }, { accessFlags := 4120, nameIndex := 245, descriptorIndex := 246, attributes := #[] }])
  fields := #[{ name := "E", type := .double, accessFlags := 25, slot := 0, constantValue := 0 }, { name := "PI", type := .double, accessFlags := 25, slot := 1, constantValue := 0 }, { name := "TAU", type := .double, accessFlags := 25, slot := 2, constantValue := 0 }, { name := "DEGREES_TO_RADIANS", type := .double, accessFlags := 26, slot := 3, constantValue := 0 }, { name := "RADIANS_TO_DEGREES", type := .double, accessFlags := 26, slot := 4, constantValue := 0 }, { name := "negativeZeroFloatBits", type := .long, accessFlags := 26, slot := 5, constantValue := 0 }, { name := "negativeZeroDoubleBits", type := .long, accessFlags := 26, slot := 6, constantValue := 0 }, { name := "twoToTheDoubleScaleUp", type := .double, accessFlags := 8, slot := 7, constantValue := 0 }, { name := "twoToTheDoubleScaleDown", type := .double, accessFlags := 8, slot := 8, constantValue := 0 }, { name := "$assertionsDisabled", type := .boolean, accessFlags := 4120, slot := 9, constantValue := 0 }]
  methods := #[k2m0, k2m1, k2m2]
  instanceTypes := #[]
  staticTypes := #[.double, .double, .double, .double, .double, .long, .long, .double, .double, .boolean]
  resolved := Array.replicate 460 none
  statics := none }

def pool3 : Array CpInfo := pool [(2, .class_ 4), (1, u "java/lang/Object"), (3, .class_ 10), (1, u "com/example/dido/dido/CrossingModel"), (0, u "layers"), (0, u "[[I"), (2, u "layerOf"), (0, u "[I"), (2, u "vertexOf"), (2, u "pointOf"), (2, u "edgeOf"), (2, u "passed"), (2, u "leftEnd"), (2, u "rightEnd"), (2, u "leftVertex"), (2, u "rightVertex"), (2, u "weight"), (0, u "[D"), (2, u "each"), (0, u "D"), (2, u "place"), (2, u "mayStandFirst"), (0, u "[Z"), (2, u "mayStandLast"), (16, u "reckonsEveryCrossing"), (0, u "Z"), (6, u "gapSegments"), (8, u "before"), (2, u "after"), (39, u "sharingAnEnd"), (0, u "[[[I"), (2, u "sharingBoth"), (95, .class_ 236), (0, u "com/example/dido/dido/CrossingModel$Builder"), (41, .class_ 279), (0, u "com/example/dido/dido/CrossingModel$Tally"), (62, u "leadingAbove"), (0, u "([JII)I")] 19

def k3c0 : Code := { maxStack := 4, maxLocals := 8, code := prog_9_method_15_code, exceptionTable := #[], attributes := #[] }
def k3m0 : Method := { name := "leadingAbove", desc := "([JII)I", sig := { parameters := [(.array .long), .int, .int], returnType := some .int }, accessFlags := 8, code := some k3c0 }
/-- com/example/dido/dido/CrossingModel -/
def k3 : Class := { plain "com/example/dido/dido/CrossingModel" (some 0) with
  accessFlags := 48
  interfaces := #[]
  cf := some (fileOf pool3 8 #[.nestMembers #[235, 278]] #[{ accessFlags := 8, nameIndex := 342, descriptorIndex := 343, attributes := #[] }] 48 2 #[] #[{ accessFlags := 16, nameIndex := 11, descriptorIndex := 12, attributes := #[] }, { accessFlags := 16, nameIndex := 15, descriptorIndex := 16, attributes := #[] }, { accessFlags := 16, nameIndex := 51, descriptorIndex := 16, attributes := #[] }, { accessFlags := 16, nameIndex := 19, descriptorIndex := 16, attributes := #[] }, { accessFlags := 18, nameIndex := 22, descriptorIndex := 16, attributes := #[] }, { accessFlags := 18, nameIndex := 25, descriptorIndex := 16, attributes := #[] }, { accessFlags := 18, nameIndex := 28, descriptorIndex := 16, attributes := #[] }, { accessFlags := 16, nameIndex := 92, descriptorIndex := 12, attributes := #[] }, { accessFlags := 16, nameIndex := 95, descriptorIndex := 12, attributes := #[] }, { accessFlags := 16, nameIndex := 31, descriptorIndex := 16, attributes := #[] }, { accessFlags := 16, nameIndex := 34, descriptorIndex := 16, attributes := #[] }, { accessFlags := 16, nameIndex := 37, descriptorIndex := 16, attributes := #[] }, { accessFlags := 16, nameIndex := 40, descriptorIndex := 16, attributes := #[] }, { accessFlags := 18, nameIndex := 135, descriptorIndex := 136, attributes := #[] }, { accessFlags := 18, nameIndex := 139, descriptorIndex := 12, attributes := #[] }, { accessFlags := 16, nameIndex := 43, descriptorIndex := 44, attributes := #[] }, { accessFlags := 16, nameIndex := 47, descriptorIndex := 48, attributes := #[] }, { accessFlags := 16, nameIndex := 83, descriptorIndex := 16, attributes := #[] }, { accessFlags := 16, nameIndex := 54, descriptorIndex := 55, attributes := #[] }, { accessFlags := 16, nameIndex := 58, descriptorIndex := 55, attributes := #[] }, { accessFlags := 16, nameIndex := 75, descriptorIndex := 76, attributes := #[] }])
  fields := #[{ name := "layers", type := (.array (.array .int)), accessFlags := 16, slot := 0, constantValue := 0 }, { name := "layerOf", type := (.array .int), accessFlags := 16, slot := 1, constantValue := 0 }, { name := "place", type := (.array .int), accessFlags := 16, slot := 2, constantValue := 0 }, { name := "vertexOf", type := (.array .int), accessFlags := 16, slot := 3, constantValue := 0 }, { name := "pointOf", type := (.array .int), accessFlags := 18, slot := 4, constantValue := 0 }, { name := "edgeOf", type := (.array .int), accessFlags := 18, slot := 5, constantValue := 0 }, { name := "passed", type := (.array .int), accessFlags := 18, slot := 6, constantValue := 0 }, { name := "before", type := (.array (.array .int)), accessFlags := 16, slot := 7, constantValue := 0 }, { name := "after", type := (.array (.array .int)), accessFlags := 16, slot := 8, constantValue := 0 }, { name := "leftEnd", type := (.array .int), accessFlags := 16, slot := 9, constantValue := 0 }, { name := "rightEnd", type := (.array .int), accessFlags := 16, slot := 10, constantValue := 0 }, { name := "leftVertex", type := (.array .int), accessFlags := 16, slot := 11, constantValue := 0 }, { name := "rightVertex", type := (.array .int), accessFlags := 16, slot := 12, constantValue := 0 }, { name := "sharingAnEnd", type := (.array (.array (.array .int))), accessFlags := 18, slot := 13, constantValue := 0 }, { name := "sharingBoth", type := (.array (.array .int)), accessFlags := 18, slot := 14, constantValue := 0 }, { name := "weight", type := (.array .double), accessFlags := 16, slot := 15, constantValue := 0 }, { name := "each", type := .double, accessFlags := 16, slot := 16, constantValue := 0 }, { name := "gapSegments", type := (.array .int), accessFlags := 16, slot := 17, constantValue := 0 }, { name := "mayStandFirst", type := (.array .boolean), accessFlags := 16, slot := 18, constantValue := 0 }, { name := "mayStandLast", type := (.array .boolean), accessFlags := 16, slot := 19, constantValue := 0 }, { name := "reckonsEveryCrossing", type := .boolean, accessFlags := 16, slot := 20, constantValue := 0 }]
  methods := #[k3m0]
  instanceTypes := #[(.array (.array .int)), (.array .int), (.array .int), (.array .int), (.array .int), (.array .int), (.array .int), (.array (.array .int)), (.array (.array .int)), (.array .int), (.array .int), (.array .int), (.array .int), (.array (.array (.array .int))), (.array (.array .int)), (.array .double), .double, (.array .int), (.array .boolean), (.array .boolean), .boolean]
  staticTypes := #[]
  resolved := Array.replicate 363 none
  statics := none }

def pool4 : Array CpInfo := pool [(1, u "java/lang/Cloneable"), (0, .class_ 1), (0, u "java/lang/Object"), (0, .class_ 3)] 3

/-- java/lang/Cloneable -/
def k4 : Class := { plain "java/lang/Cloneable" (some 0) with
  accessFlags := 1537
  interfaces := #[]
  cf := some (fileOf pool4 2 #[] #[] 1537 4 #[] #[])
  fields := #[]
  methods := #[]
  instanceTypes := #[]
  staticTypes := #[]
  resolved := Array.replicate 8 none
  statics := none }

def pool5 : Array CpInfo := pool [(1, u "java/io/Serializable"), (0, .class_ 1), (0, u "java/lang/Object"), (0, .class_ 3)] 3

/-- java/io/Serializable -/
def k5 : Class := { plain "java/io/Serializable" (some 0) with
  accessFlags := 1537
  interfaces := #[]
  cf := some (fileOf pool5 2 #[] #[] 1537 4 #[] #[])
  fields := #[]
  methods := #[]
  instanceTypes := #[]
  staticTypes := #[]
  resolved := Array.replicate 8 none
  statics := none }

/-- the primitive byte -/
def k6 : Class := { plain "byte" none with kind := .primitive 'B', accessFlags := 0x411 }
/-- [B -/
def k7 : Class := { plain "[B" (some 0) with kind := .array 6 .byte, interfaces := #[4, 5], accessFlags := 1041 }

/-- the primitive int -/
def k8 : Class := { plain "int" none with kind := .primitive 'I', accessFlags := 0x411 }
/-- [I -/
def k9 : Class := { plain "[I" (some 0) with kind := .array 8 .int, interfaces := #[4, 5], accessFlags := 1041 }

/-- the primitive long -/
def k10 : Class := { plain "long" none with kind := .primitive 'J', accessFlags := 0x411 }
/-- [J -/
def k11 : Class := { plain "[J" (some 0) with kind := .array 10 .long, interfaces := #[4, 5], accessFlags := 1041 }

def heap : Heap := #[]
def classes : Array Class := #[k0, k1, k2, k3, k4, k5, k6, k7, k8, k9, k10, k11]
def interned : List (Array UInt16 × Addr) := []
def slotsUsed : Nat := 0
def theMethod : MethodId := ⟨1, 1⟩
def args0 : Array Value := #[.long 5, .long 70000, .long 9, .long 8, .int 2, .int 3]
def aboutOver (below : List Frame) : State where
  vm := { classes := classes, interned := interned.toArray }
  heap := heap
  slotsUsed := slotsUsed
  threads := #[{ frames := .invoking theMethod args0 :: below }]
def below0 : List Frame := [.native { method := ⟨0, 0⟩, args := #[] }]
def about1 : State := aboutOver below0
def p0 : Program := .bare "" "" ""
def e0 : Env := launch0.env 0 0 0
theorem w_frames : about1.frames = Frame.invoking theMethod args0 :: below0 := rfl
set_option maxRecDepth 65536 in
theorem w_args : argsFit about1.vm theMethod args0 = true := by decide +kernel
set_option maxRecDepth 65536 in
theorem w_heap : heapFits about1 = true := by decide +kernel
set_option maxRecDepth 65536 in
theorem w_runnable : about1.curStatus? = some .runnable := by decide +kernel
set_option maxRecDepth 65536 in
theorem w_alone : about1.alone = true := by decide +kernel
set_option maxRecDepth 65536 in
theorem w_named : about1.methodNamed? x = some theMethod := by decide +kernel
set_option maxRecDepth 65536 in
theorem w_hears : about1.hears theMethod below0 = true := by decide +kernel
set_option maxRecDepth 65536 in
theorem w_ripe : about1.ripe theMethod args0 below0 = true := by decide +kernel
theorem w_running : about1.status = .running := rfl
set_option maxRecDepth 65536 in
theorem w_room : about1.hasRoom e0.platform room_1 = true :=
  launch0.hasRoom_least _ room_1 (by decide +kernel) (by decide +kernel) (by decide +kernel) (by decide +kernel) (by decide +kernel) (by decide +kernel)
theorem allAtoms_all (ts : List Jvm.Cond) (a : Array Jvm.Value) (st : Jvm.State) : (allAtoms ts).before a st = ts.all (fun c => c.before a st) := by
  induction ts with
  | nil => rfl
  | cons c t ih =>
    show (Jvm.Cond.and c (allAtoms t)).before a st = _
    rw [Jvm.Cond.before_and, ih, List.all_cons]
def words1 : List Jvm.Cond := Jvm.Cond.code x code maxLocals ret :: tables_1
/-- a 'code' word, met by the world's own term for the bytes: nothing is compared byte by byte -/
theorem code_word {y : MethodName} {bytes : ByteArray} {mx : Nat} {rt : Option FieldType} {a : Array Value} {s : State} {m : MethodId} {meth : Method} {c : Code} (h1 : s.methodNamed? y = some m) (h2 : s.vm.method? m = some meth) (h3 : meth.code = some c) (h4 : c.code = bytes)
    (h5 : (c.maxLocals == mx && c.exceptionTable.isEmpty && decide (c.maxStack ≤ mostOperands) && decide (meth.sig.returnType = rt) && !meth.locks && decide (parseMethodDescriptor y.desc = some meth.sig)) = true) : (Jvm.Cond.code y bytes mx rt).before a s = true := by
  simp only [Bool.and_eq_true, beq_iff_eq, Bool.not_eq_true', decide_eq_true_eq] at h5
  obtain ⟨⟨⟨⟨⟨g1, g2⟩, g3⟩, g4⟩, g5⟩, g6⟩ := h5
  simp [Cond.before, Cond.holds, Cond.value, h1, h2, h3, h4, g1, g2, g3, g4, g5, g6]
def isCode : Jvm.Cond → Bool
  | .code _ _ _ _ => true
  | _ => false
theorem all_split {L : List Jvm.Cond} {P : Jvm.Cond → Bool} (h1 : L.all (fun c => isCode c || P c) = true) (h2 : ∀ c ∈ L.filter isCode, P c = true) : L.all P = true := by
  refine List.all_eq_true.mpr fun c hc => ?_
  have h := List.all_eq_true.mp h1 c hc
  rcases Bool.eq_false_or_eq_true (isCode c) with hi | hi
  · exact h2 c (List.mem_filter.mpr ⟨hc, hi⟩)
  · simpa [hi] using h
set_option maxRecDepth 65536 in
theorem w_c0 : (Jvm.Cond.code x code maxLocals ret).before args0 about1 = true := code_word (m := ⟨1, 1⟩) (meth := k1m1) (c := k1c1) (by decide +kernel) rfl rfl rfl (by decide +kernel)
set_option maxRecDepth 65536 in
theorem w_c1 : (Jvm.Cond.code ({ cls := "java/lang/Math", name := "min", desc := "(JJ)J" } : Jvm.MethodName) jdk_29_method_70_code (4 : Nat) (Option.some Jvm.ClassFile.FieldType.long)).before args0 about1 = true := code_word (m := ⟨2, 2⟩) (meth := k2m2) (c := k2c2) (by decide +kernel) rfl rfl rfl (by decide +kernel)
set_option maxRecDepth 65536 in
theorem w_c2 : (Jvm.Cond.code ({ cls := "java/lang/Math", name := "max", desc := "(JJ)J" } : Jvm.MethodName) jdk_29_method_66_code (4 : Nat) (Option.some Jvm.ClassFile.FieldType.long)).before args0 about1 = true := code_word (m := ⟨2, 1⟩) (meth := k2m1) (c := k2c1) (by decide +kernel) rfl rfl rfl (by decide +kernel)
set_option maxRecDepth 65536 in
theorem w_c3 : (Jvm.Cond.code ({ cls := "com/example/dido/dido/CrossingModel", name := "leadingAbove", desc := "([JII)I" } : Jvm.MethodName) prog_9_method_15_code (8 : Nat) (Option.some Jvm.ClassFile.FieldType.int)).before args0 about1 = true := code_word (m := ⟨3, 0⟩) (meth := k3m0) (c := k3c0) (by decide +kernel) rfl rfl rfl (by decide +kernel)
def codes1 : List Jvm.Cond := [Jvm.Cond.code x code maxLocals ret, Jvm.Cond.code ({ cls := "java/lang/Math", name := "min", desc := "(JJ)J" } : Jvm.MethodName) jdk_29_method_70_code (4 : Nat) (Option.some Jvm.ClassFile.FieldType.long), Jvm.Cond.code ({ cls := "java/lang/Math", name := "max", desc := "(JJ)J" } : Jvm.MethodName) jdk_29_method_66_code (4 : Nat) (Option.some Jvm.ClassFile.FieldType.long), Jvm.Cond.code ({ cls := "com/example/dido/dido/CrossingModel", name := "leadingAbove", desc := "([JII)I" } : Jvm.MethodName) prog_9_method_15_code (8 : Nat) (Option.some Jvm.ClassFile.FieldType.int)]
set_option maxRecDepth 65536 in
theorem codes_eq : words1.filter isCode = codes1 := rfl
theorem w_codes : ∀ c ∈ words1.filter isCode, c.before args0 about1 = true := by
  rw [codes_eq]
  intro c hc
  simp only [codes1, List.mem_cons, List.not_mem_nil, or_false] at hc
  rcases hc with rfl | rfl | rfl | rfl
  · exact w_c0
  · exact w_c1
  · exact w_c2
  · exact w_c3
set_option maxRecDepth 65536 in
theorem w_t1 : words1.all (fun c => isCode c || c.before args0 about1) = true := by decide +kernel
theorem w_tables : (allAtoms (Jvm.Cond.code x code maxLocals ret :: tables_1)).before args0 about1 = true := by
  rw [allAtoms_all]
  show words1.all (fun c => c.before args0 about1) = true
  refine all_split ?_ w_codes
  rw [w_t1]
set_option maxRecDepth 65536 in
theorem w_case : (Jvm.Cond.and given_1 narrow_1).before args0 about1 = true := by decide +kernel
theorem w_applies : (headSpec (Jvm.Cond.code x code maxLocals ret :: tables_1) room_1).applies x e0.platform about1 = true :=
  (Spec.applies_iff w_frames).mpr ⟨w_running, w_runnable, w_alone, w_named, w_hears, w_ripe, w_room, w_tables⟩
theorem atStart : AtStart classFile x code maxLocals ret World_1 tables_1 room_1 Calls_1 rest_1 Pre_1 launch0 p0 e0 about1 theMethod args0 below0 :=
  ⟨lists_1, trivial, launch0.admits_env _ _ _, launch0.least_env, fairChoices_fair.cas, fairChoices_fair.clock, w_frames, w_args, w_heap, w_applies, trivial, trivial, w_case⟩
end start1
theorem witness_1 : WitnessClaimed_1 := ⟨start1.p0, start1.e0, start1.about1, start1.theMethod, start1.args0, start1.below0, start1.atStart⟩
end Jvm.Pilot.@@N@@
