import JvmDerived
import JvmDerived.Pilot.@@N@@Statement
import JvmDerived.Pilot.@@N@@Code
set_option linter.unusedVariables false
set_option linter.unusedSimpArgs false
namespace Jvm.OwnKit
open Jvm Sem ClassFile Op Lib Jvm.Stand Jvm.Free Jvm.LawKit Jvm.RoadKit
/-- what a body's walk knows of its frame throughout -/
def Cx (p : Program) (s : State) (m : MethodId) (meth : Method) (c : Code) (Z : State) (y : MethodName) (bytes : ByteArray) (ml : Nat) (ret : Option FieldType) : Prop :=
  p.tables.exec = Jvm.exec ∧ Z.Warmed39 s.vm ∧ s.vm.findClass y.cls = some m.cls ∧ c.code = bytes ∧ c.maxLocals = ml ∧ meth.sig.returnType = ret ∧ meth.locks = false ∧ meth.name = y.name
/-- from the heap h, k cells and n slots made so far, the frame at pc with these locals and this stack comes to its end, and Q holds of the result and the last heap -/
def W (p : Program) (l : Launch) (e : Env) (R : Room) (s : State) (m : MethodId) (args : Array Value) (below : List Frame) (meth : Method) (c : Code) (n0 : Nat) (Q : Option Value → Heap → Prop) (kc ks : Nat)
    (k n : Nat) (h : Heap) (pc : Nat) (ls : Array Slot) (st : List Value) : Prop :=
  ∀ (T : State) (locs : List Loc), Stand p l e R s m args below meth c T locs k n → T.heap = h → Fr n0 locs →
    ∃ s₂ o, Steps p.tables e below (T.setTop (mkF m pc ls st)) s₂ ∧ s₂.status = .running ∧ Ended s₂ below o ∧ ∃ v L, o = .returned v ∧ (Q v s₂.heap ∧ Fr n0 L) ∧ FrameEnd s o s₂ L kc ks
/-- a body's contract -/
def Con (l : Launch) (Z : State) (y : MethodName) (bytes : ByteArray) (ml : Nat) (ret : Option FieldType) (rm : Room) (as' : Array Value) (h0 : Heap) (n0 : Nat) (Q : Option Value → Heap → Prop) : Prop :=
  ∀ ws : List Jvm.Cond, MetFree l y (head1 (Jvm.Cond.code y bytes ml ret :: ws) rm) (fun a U => a = as' ∧ Z.Warmed39 U.vm ∧ U.heap = h0) (fun _ _ _ _ _ => True) (fun _ U o U' => ∃ v L, o = .returned v ∧ (Q v U'.heap ∧ Fr n0 L) ∧ FrameEnd U o U' L rm.cells rm.slots)
/-- it returns v and leaves the heap -/
def Pu (v : Option Value) (h : Heap) : Option Value → Heap → Prop := fun v' h' => v' = v ∧ h = h'
section
variable {p : Program} {l : Launch} {e : Env} {R : Room} {s : State} {m : MethodId} {args : Array Value} {below : List Frame} {meth : Method} {c : Code} {Z : State} {y : MethodName} {bytes : ByteArray} {ml : Nat} {ret : Option FieldType} {n0 : Nat} {Q : Option Value → Heap → Prop} {kc ks k n : Nat} {h : Heap} {pc : Nat} {ls : Array Slot} {st : List Value} {a0 : Array Value}
theorem Cx.a (C : Cx p s m meth c Z y bytes ml ret) {pc : Nat} {r : Except ClassFile.DecodeError (ClassFile.Instr × Nat)} (h2 : ClassFile.decode bytes pc = r) : ClassFile.decode c.code pc = r := C.2.2.2.1 ▸ h2
theorem Con.of {rm : Room} {as' : Array Value} {h0 : Heap} (hpn : plainFor y = true) {ls : Array Slot} (hent : ∀ m, entryFrame m as' ml = mkF m 0 ls [])
    (hW : ∀ p e s m below meth c, Cx p s m meth c Z y bytes ml ret → W p l e rm s m as' below meth c n0 Q rm.cells rm.slots 0 0 h0 0 ls []) : Con l Z y bytes ml ret rm as' h0 n0 Q := by
  intro ws
  refine MetFree.of_bodySF hpn hisR ?_
  intro p e s m args below meth c s₁ Bd hml0 hP hK
  obtain ⟨rfl, hZ, hh⟩ := hP
  have X0 : Stand p l e rm s m _ below meth c s₁ [] 0 0 := Stand.of_body Bd
  have e0 : s₁.heap = h0 := by rw [← hh, Bd.state]; rfl
  obtain ⟨s₂, o, h1, h2⟩ := hW p e s m below meth c ⟨Bd.exec, hZ, findClass_of_methodNamed Bd.named, Bd.bytes, hml0, Bd.returns, Bd.notSynchronized, (name_of_methodNamed Bd.named Bd.method).1⟩ s₁ [] X0 e0 (Fr.nil n0)
  exact ⟨s₂, o, castTop (hent m) h1, h2⟩
theorem W.lift {pc' : Nat} {ls' : Array Slot} {st' : List Value} (f : ∀ T target, At T m c below → Steps p.tables e below (T.setTop (mkF m pc' ls' st')) target → Steps p.tables e below (T.setTop (mkF m pc ls st)) target) (K : W p l e R s m args below meth c n0 Q kc ks k n h pc' ls' st') : W p l e R s m args below meth c n0 Q kc ks k n h pc ls st := fun T locs X eT N => by
  obtain ⟨s₂, o, h1, h2⟩ := K T locs X eT N
  exact ⟨s₂, o, f T _ X.here h1, h2⟩
theorem W.heap {h' : Heap} (q : h = h') (K : W p l e R s m args below meth c n0 Q kc ks k n h' pc ls st) : W p l e R s m args below meth c n0 Q kc ks k n h pc ls st := q ▸ K
theorem W.room {k' n' : Nat} (hk : k ≤ k') (hn : n ≤ n') (K : W p l e R s m args below meth c n0 Q kc ks k' n' h pc ls st) : W p l e R s m args below meth c n0 Q kc ks k n h pc ls st := fun T locs X eT N => K T locs ⟨X.admits, X.cas, X.clock, X.frames, X.room, X.hears, X.method, X.code, X.here, X.tail, X.warmed, X.limits, X.bytes, X.same.mono hk hn⟩ eT N
theorem W.iaddV (C : Cx p s m meth c Z y bytes ml ret) {u v : Int32} (z : Int32) (d : decode bytes pc = .ok (.iadd, 1)) (hz : (u + v) = z) (K : W p l e R s m args below meth c n0 Q kc ks k n h (pc + 1) ls (.int z :: st)) : W p l e R s m args below meth c n0 Q kc ks k n h pc ls (.int v :: .int u :: st) :=
  W.lift (fun T t H S => XS.iadd H C.1 rfl (C.a d) rfl (by subst hz; exact S)) K
theorem W.iadd (C : Cx p s m meth c Z y bytes ml ret) {u v : Int32} (d : decode bytes pc = .ok (.iadd, 1)) (K : W p l e R s m args below meth c n0 Q kc ks k n h (pc + 1) ls (.int (u + v) :: st)) : W p l e R s m args below meth c n0 Q kc ks k n h pc ls (.int v :: .int u :: st) :=
  W.lift (fun T t H S => XS.iadd H C.1 rfl (C.a d) rfl S) K
theorem W.isubV (C : Cx p s m meth c Z y bytes ml ret) {u v : Int32} (z : Int32) (d : decode bytes pc = .ok (.isub, 1)) (hz : (u - v) = z) (K : W p l e R s m args below meth c n0 Q kc ks k n h (pc + 1) ls (.int z :: st)) : W p l e R s m args below meth c n0 Q kc ks k n h pc ls (.int v :: .int u :: st) :=
  W.lift (fun T t H S => XS.isub H C.1 rfl (C.a d) rfl (by subst hz; exact S)) K
theorem W.isub (C : Cx p s m meth c Z y bytes ml ret) {u v : Int32} (d : decode bytes pc = .ok (.isub, 1)) (K : W p l e R s m args below meth c n0 Q kc ks k n h (pc + 1) ls (.int (u - v) :: st)) : W p l e R s m args below meth c n0 Q kc ks k n h pc ls (.int v :: .int u :: st) :=
  W.lift (fun T t H S => XS.isub H C.1 rfl (C.a d) rfl S) K
theorem W.imulV (C : Cx p s m meth c Z y bytes ml ret) {u v : Int32} (z : Int32) (d : decode bytes pc = .ok (.imul, 1)) (hz : (u * v) = z) (K : W p l e R s m args below meth c n0 Q kc ks k n h (pc + 1) ls (.int z :: st)) : W p l e R s m args below meth c n0 Q kc ks k n h pc ls (.int v :: .int u :: st) :=
  W.lift (fun T t H S => XS.imul H C.1 rfl (C.a d) rfl (by subst hz; exact S)) K
theorem W.imul (C : Cx p s m meth c Z y bytes ml ret) {u v : Int32} (d : decode bytes pc = .ok (.imul, 1)) (K : W p l e R s m args below meth c n0 Q kc ks k n h (pc + 1) ls (.int (u * v) :: st)) : W p l e R s m args below meth c n0 Q kc ks k n h pc ls (.int v :: .int u :: st) :=
  W.lift (fun T t H S => XS.imul H C.1 rfl (C.a d) rfl S) K
theorem W.iandV (C : Cx p s m meth c Z y bytes ml ret) {u v : Int32} (z : Int32) (d : decode bytes pc = .ok (.iand, 1)) (hz : (u &&& v) = z) (K : W p l e R s m args below meth c n0 Q kc ks k n h (pc + 1) ls (.int z :: st)) : W p l e R s m args below meth c n0 Q kc ks k n h pc ls (.int v :: .int u :: st) :=
  W.lift (fun T t H S => XS.iand H C.1 rfl (C.a d) rfl (by subst hz; exact S)) K
theorem W.iand (C : Cx p s m meth c Z y bytes ml ret) {u v : Int32} (d : decode bytes pc = .ok (.iand, 1)) (K : W p l e R s m args below meth c n0 Q kc ks k n h (pc + 1) ls (.int (u &&& v) :: st)) : W p l e R s m args below meth c n0 Q kc ks k n h pc ls (.int v :: .int u :: st) :=
  W.lift (fun T t H S => XS.iand H C.1 rfl (C.a d) rfl S) K
theorem W.iorV (C : Cx p s m meth c Z y bytes ml ret) {u v : Int32} (z : Int32) (d : decode bytes pc = .ok (.ior, 1)) (hz : (u ||| v) = z) (K : W p l e R s m args below meth c n0 Q kc ks k n h (pc + 1) ls (.int z :: st)) : W p l e R s m args below meth c n0 Q kc ks k n h pc ls (.int v :: .int u :: st) :=
  W.lift (fun T t H S => XS.ior H C.1 rfl (C.a d) rfl (by subst hz; exact S)) K
theorem W.ior (C : Cx p s m meth c Z y bytes ml ret) {u v : Int32} (d : decode bytes pc = .ok (.ior, 1)) (K : W p l e R s m args below meth c n0 Q kc ks k n h (pc + 1) ls (.int (u ||| v) :: st)) : W p l e R s m args below meth c n0 Q kc ks k n h pc ls (.int v :: .int u :: st) :=
  W.lift (fun T t H S => XS.ior H C.1 rfl (C.a d) rfl S) K
theorem W.ixorV (C : Cx p s m meth c Z y bytes ml ret) {u v : Int32} (z : Int32) (d : decode bytes pc = .ok (.ixor, 1)) (hz : (u ^^^ v) = z) (K : W p l e R s m args below meth c n0 Q kc ks k n h (pc + 1) ls (.int z :: st)) : W p l e R s m args below meth c n0 Q kc ks k n h pc ls (.int v :: .int u :: st) :=
  W.lift (fun T t H S => XS.ixor H C.1 rfl (C.a d) rfl (by subst hz; exact S)) K
theorem W.ixor (C : Cx p s m meth c Z y bytes ml ret) {u v : Int32} (d : decode bytes pc = .ok (.ixor, 1)) (K : W p l e R s m args below meth c n0 Q kc ks k n h (pc + 1) ls (.int (u ^^^ v) :: st)) : W p l e R s m args below meth c n0 Q kc ks k n h pc ls (.int v :: .int u :: st) :=
  W.lift (fun T t H S => XS.ixor H C.1 rfl (C.a d) rfl S) K
theorem W.ishlV (C : Cx p s m meth c Z y bytes ml ret) {u v : Int32} (z : Int32) (d : decode bytes pc = .ok (.ishl, 1)) (hz : (u <<< (v &&& 31)) = z) (K : W p l e R s m args below meth c n0 Q kc ks k n h (pc + 1) ls (.int z :: st)) : W p l e R s m args below meth c n0 Q kc ks k n h pc ls (.int v :: .int u :: st) :=
  W.lift (fun T t H S => XS.ishl H C.1 rfl (C.a d) rfl (by subst hz; exact S)) K
theorem W.ishl (C : Cx p s m meth c Z y bytes ml ret) {u v : Int32} (d : decode bytes pc = .ok (.ishl, 1)) (K : W p l e R s m args below meth c n0 Q kc ks k n h (pc + 1) ls (.int (u <<< (v &&& 31)) :: st)) : W p l e R s m args below meth c n0 Q kc ks k n h pc ls (.int v :: .int u :: st) :=
  W.lift (fun T t H S => XS.ishl H C.1 rfl (C.a d) rfl S) K
theorem W.ishrV (C : Cx p s m meth c Z y bytes ml ret) {u v : Int32} (z : Int32) (d : decode bytes pc = .ok (.ishr, 1)) (hz : (u >>> (v &&& 31)) = z) (K : W p l e R s m args below meth c n0 Q kc ks k n h (pc + 1) ls (.int z :: st)) : W p l e R s m args below meth c n0 Q kc ks k n h pc ls (.int v :: .int u :: st) :=
  W.lift (fun T t H S => XS.ishr H C.1 rfl (C.a d) rfl (by subst hz; exact S)) K
theorem W.ishr (C : Cx p s m meth c Z y bytes ml ret) {u v : Int32} (d : decode bytes pc = .ok (.ishr, 1)) (K : W p l e R s m args below meth c n0 Q kc ks k n h (pc + 1) ls (.int (u >>> (v &&& 31)) :: st)) : W p l e R s m args below meth c n0 Q kc ks k n h pc ls (.int v :: .int u :: st) :=
  W.lift (fun T t H S => XS.ishr H C.1 rfl (C.a d) rfl S) K
theorem W.iushrV (C : Cx p s m meth c Z y bytes ml ret) {u v : Int32} (z : Int32) (d : decode bytes pc = .ok (.iushr, 1)) (hz : ((u.toUInt32 >>> (v &&& 31).toUInt32).toInt32) = z) (K : W p l e R s m args below meth c n0 Q kc ks k n h (pc + 1) ls (.int z :: st)) : W p l e R s m args below meth c n0 Q kc ks k n h pc ls (.int v :: .int u :: st) :=
  W.lift (fun T t H S => XS.iushr H C.1 rfl (C.a d) rfl (by subst hz; exact S)) K
theorem W.iushr (C : Cx p s m meth c Z y bytes ml ret) {u v : Int32} (d : decode bytes pc = .ok (.iushr, 1)) (K : W p l e R s m args below meth c n0 Q kc ks k n h (pc + 1) ls (.int ((u.toUInt32 >>> (v &&& 31).toUInt32).toInt32) :: st)) : W p l e R s m args below meth c n0 Q kc ks k n h pc ls (.int v :: .int u :: st) :=
  W.lift (fun T t H S => XS.iushr H C.1 rfl (C.a d) rfl S) K
theorem W.laddV (C : Cx p s m meth c Z y bytes ml ret) {u v : Int64} (z : Int64) (d : decode bytes pc = .ok (.ladd, 1)) (hz : (u + v) = z) (K : W p l e R s m args below meth c n0 Q kc ks k n h (pc + 1) ls (.long z :: st)) : W p l e R s m args below meth c n0 Q kc ks k n h pc ls (.long v :: .long u :: st) :=
  W.lift (fun T t H S => XS.ladd H C.1 rfl (C.a d) rfl (by subst hz; exact S)) K
theorem W.ladd (C : Cx p s m meth c Z y bytes ml ret) {u v : Int64} (d : decode bytes pc = .ok (.ladd, 1)) (K : W p l e R s m args below meth c n0 Q kc ks k n h (pc + 1) ls (.long (u + v) :: st)) : W p l e R s m args below meth c n0 Q kc ks k n h pc ls (.long v :: .long u :: st) :=
  W.lift (fun T t H S => XS.ladd H C.1 rfl (C.a d) rfl S) K
theorem W.lsubV (C : Cx p s m meth c Z y bytes ml ret) {u v : Int64} (z : Int64) (d : decode bytes pc = .ok (.lsub, 1)) (hz : (u - v) = z) (K : W p l e R s m args below meth c n0 Q kc ks k n h (pc + 1) ls (.long z :: st)) : W p l e R s m args below meth c n0 Q kc ks k n h pc ls (.long v :: .long u :: st) :=
  W.lift (fun T t H S => XS.lsub H C.1 rfl (C.a d) rfl (by subst hz; exact S)) K
theorem W.lsub (C : Cx p s m meth c Z y bytes ml ret) {u v : Int64} (d : decode bytes pc = .ok (.lsub, 1)) (K : W p l e R s m args below meth c n0 Q kc ks k n h (pc + 1) ls (.long (u - v) :: st)) : W p l e R s m args below meth c n0 Q kc ks k n h pc ls (.long v :: .long u :: st) :=
  W.lift (fun T t H S => XS.lsub H C.1 rfl (C.a d) rfl S) K
theorem W.lmulV (C : Cx p s m meth c Z y bytes ml ret) {u v : Int64} (z : Int64) (d : decode bytes pc = .ok (.lmul, 1)) (hz : (u * v) = z) (K : W p l e R s m args below meth c n0 Q kc ks k n h (pc + 1) ls (.long z :: st)) : W p l e R s m args below meth c n0 Q kc ks k n h pc ls (.long v :: .long u :: st) :=
  W.lift (fun T t H S => XS.lmul H C.1 rfl (C.a d) rfl (by subst hz; exact S)) K
theorem W.lmul (C : Cx p s m meth c Z y bytes ml ret) {u v : Int64} (d : decode bytes pc = .ok (.lmul, 1)) (K : W p l e R s m args below meth c n0 Q kc ks k n h (pc + 1) ls (.long (u * v) :: st)) : W p l e R s m args below meth c n0 Q kc ks k n h pc ls (.long v :: .long u :: st) :=
  W.lift (fun T t H S => XS.lmul H C.1 rfl (C.a d) rfl S) K
theorem W.landV (C : Cx p s m meth c Z y bytes ml ret) {u v : Int64} (z : Int64) (d : decode bytes pc = .ok (.land, 1)) (hz : (u &&& v) = z) (K : W p l e R s m args below meth c n0 Q kc ks k n h (pc + 1) ls (.long z :: st)) : W p l e R s m args below meth c n0 Q kc ks k n h pc ls (.long v :: .long u :: st) :=
  W.lift (fun T t H S => XS.land H C.1 rfl (C.a d) rfl (by subst hz; exact S)) K
theorem W.land (C : Cx p s m meth c Z y bytes ml ret) {u v : Int64} (d : decode bytes pc = .ok (.land, 1)) (K : W p l e R s m args below meth c n0 Q kc ks k n h (pc + 1) ls (.long (u &&& v) :: st)) : W p l e R s m args below meth c n0 Q kc ks k n h pc ls (.long v :: .long u :: st) :=
  W.lift (fun T t H S => XS.land H C.1 rfl (C.a d) rfl S) K
theorem W.lorV (C : Cx p s m meth c Z y bytes ml ret) {u v : Int64} (z : Int64) (d : decode bytes pc = .ok (.lor, 1)) (hz : (u ||| v) = z) (K : W p l e R s m args below meth c n0 Q kc ks k n h (pc + 1) ls (.long z :: st)) : W p l e R s m args below meth c n0 Q kc ks k n h pc ls (.long v :: .long u :: st) :=
  W.lift (fun T t H S => XS.lor H C.1 rfl (C.a d) rfl (by subst hz; exact S)) K
theorem W.lor (C : Cx p s m meth c Z y bytes ml ret) {u v : Int64} (d : decode bytes pc = .ok (.lor, 1)) (K : W p l e R s m args below meth c n0 Q kc ks k n h (pc + 1) ls (.long (u ||| v) :: st)) : W p l e R s m args below meth c n0 Q kc ks k n h pc ls (.long v :: .long u :: st) :=
  W.lift (fun T t H S => XS.lor H C.1 rfl (C.a d) rfl S) K
theorem W.lxorV (C : Cx p s m meth c Z y bytes ml ret) {u v : Int64} (z : Int64) (d : decode bytes pc = .ok (.lxor, 1)) (hz : (u ^^^ v) = z) (K : W p l e R s m args below meth c n0 Q kc ks k n h (pc + 1) ls (.long z :: st)) : W p l e R s m args below meth c n0 Q kc ks k n h pc ls (.long v :: .long u :: st) :=
  W.lift (fun T t H S => XS.lxor H C.1 rfl (C.a d) rfl (by subst hz; exact S)) K
theorem W.lxor (C : Cx p s m meth c Z y bytes ml ret) {u v : Int64} (d : decode bytes pc = .ok (.lxor, 1)) (K : W p l e R s m args below meth c n0 Q kc ks k n h (pc + 1) ls (.long (u ^^^ v) :: st)) : W p l e R s m args below meth c n0 Q kc ks k n h pc ls (.long v :: .long u :: st) :=
  W.lift (fun T t H S => XS.lxor H C.1 rfl (C.a d) rfl S) K
theorem W.lshlV (C : Cx p s m meth c Z y bytes ml ret) {u : Int64} {v : Int32} (z : Int64) (d : decode bytes pc = .ok (.lshl, 1)) (hz : (u <<< (v &&& 0x3f).toInt64) = z) (K : W p l e R s m args below meth c n0 Q kc ks k n h (pc + 1) ls (.long z :: st)) : W p l e R s m args below meth c n0 Q kc ks k n h pc ls (.int v :: .long u :: st) :=
  W.lift (fun T t H S => XS.lshl H C.1 rfl (C.a d) rfl (by subst hz; exact S)) K
theorem W.lshl (C : Cx p s m meth c Z y bytes ml ret) {u : Int64} {v : Int32} (d : decode bytes pc = .ok (.lshl, 1)) (K : W p l e R s m args below meth c n0 Q kc ks k n h (pc + 1) ls (.long (u <<< (v &&& 0x3f).toInt64) :: st)) : W p l e R s m args below meth c n0 Q kc ks k n h pc ls (.int v :: .long u :: st) :=
  W.lift (fun T t H S => XS.lshl H C.1 rfl (C.a d) rfl S) K
theorem W.lshrV (C : Cx p s m meth c Z y bytes ml ret) {u : Int64} {v : Int32} (z : Int64) (d : decode bytes pc = .ok (.lshr, 1)) (hz : (u >>> (v &&& 0x3f).toInt64) = z) (K : W p l e R s m args below meth c n0 Q kc ks k n h (pc + 1) ls (.long z :: st)) : W p l e R s m args below meth c n0 Q kc ks k n h pc ls (.int v :: .long u :: st) :=
  W.lift (fun T t H S => XS.lshr H C.1 rfl (C.a d) rfl (by subst hz; exact S)) K
theorem W.lshr (C : Cx p s m meth c Z y bytes ml ret) {u : Int64} {v : Int32} (d : decode bytes pc = .ok (.lshr, 1)) (K : W p l e R s m args below meth c n0 Q kc ks k n h (pc + 1) ls (.long (u >>> (v &&& 0x3f).toInt64) :: st)) : W p l e R s m args below meth c n0 Q kc ks k n h pc ls (.int v :: .long u :: st) :=
  W.lift (fun T t H S => XS.lshr H C.1 rfl (C.a d) rfl S) K
theorem W.lushrV (C : Cx p s m meth c Z y bytes ml ret) {u : Int64} {v : Int32} (z : Int64) (d : decode bytes pc = .ok (.lushr, 1)) (hz : ((u.toUInt64 >>> (v &&& 0x3f).toInt64.toUInt64).toInt64) = z) (K : W p l e R s m args below meth c n0 Q kc ks k n h (pc + 1) ls (.long z :: st)) : W p l e R s m args below meth c n0 Q kc ks k n h pc ls (.int v :: .long u :: st) :=
  W.lift (fun T t H S => XS.lushr H C.1 rfl (C.a d) rfl (by subst hz; exact S)) K
theorem W.lushr (C : Cx p s m meth c Z y bytes ml ret) {u : Int64} {v : Int32} (d : decode bytes pc = .ok (.lushr, 1)) (K : W p l e R s m args below meth c n0 Q kc ks k n h (pc + 1) ls (.long ((u.toUInt64 >>> (v &&& 0x3f).toInt64.toUInt64).toInt64) :: st)) : W p l e R s m args below meth c n0 Q kc ks k n h pc ls (.int v :: .long u :: st) :=
  W.lift (fun T t H S => XS.lushr H C.1 rfl (C.a d) rfl S) K
theorem W.idivV (C : Cx p s m meth c Z y bytes ml ret) {u v : Int32} (z : Int32) (d : decode bytes pc = .ok (.idiv, 1)) (hy : v ≠ 0) (hz : (u / v) = z) (K : W p l e R s m args below meth c n0 Q kc ks k n h (pc + 1) ls (.int z :: st)) : W p l e R s m args below meth c n0 Q kc ks k n h pc ls (.int v :: .int u :: st) :=
  W.lift (fun T t H S => XS.idiv H C.1 rfl (C.a d) rfl hy (by subst hz; exact S)) K
theorem W.idiv (C : Cx p s m meth c Z y bytes ml ret) {u v : Int32} (d : decode bytes pc = .ok (.idiv, 1)) (hy : v ≠ 0) (K : W p l e R s m args below meth c n0 Q kc ks k n h (pc + 1) ls (.int (u / v) :: st)) : W p l e R s m args below meth c n0 Q kc ks k n h pc ls (.int v :: .int u :: st) :=
  W.lift (fun T t H S => XS.idiv H C.1 rfl (C.a d) rfl hy S) K
theorem W.irem (C : Cx p s m meth c Z y bytes ml ret) {u v : Int32} (d : decode bytes pc = .ok (.irem, 1)) (hy : v ≠ 0) (K : W p l e R s m args below meth c n0 Q kc ks k n h (pc + 1) ls (.int (u % v) :: st)) : W p l e R s m args below meth c n0 Q kc ks k n h pc ls (.int v :: .int u :: st) :=
  W.lift (fun T t H S => XS.irem H C.1 rfl (C.a d) rfl hy (by rw [irem_eq_mod u v]; exact S)) K
theorem W.ldivV (C : Cx p s m meth c Z y bytes ml ret) {u v : Int64} (z : Int64) (d : decode bytes pc = .ok (.ldiv, 1)) (hy : v ≠ 0) (hz : (u / v) = z) (K : W p l e R s m args below meth c n0 Q kc ks k n h (pc + 1) ls (.long z :: st)) : W p l e R s m args below meth c n0 Q kc ks k n h pc ls (.long v :: .long u :: st) :=
  W.lift (fun T t H S => XS.ldiv H C.1 rfl (C.a d) rfl hy (by subst hz; exact S)) K
theorem W.ldiv (C : Cx p s m meth c Z y bytes ml ret) {u v : Int64} (d : decode bytes pc = .ok (.ldiv, 1)) (hy : v ≠ 0) (K : W p l e R s m args below meth c n0 Q kc ks k n h (pc + 1) ls (.long (u / v) :: st)) : W p l e R s m args below meth c n0 Q kc ks k n h pc ls (.long v :: .long u :: st) :=
  W.lift (fun T t H S => XS.ldiv H C.1 rfl (C.a d) rfl hy S) K
theorem W.lrem (C : Cx p s m meth c Z y bytes ml ret) {u v : Int64} (d : decode bytes pc = .ok (.lrem, 1)) (hy : v ≠ 0) (K : W p l e R s m args below meth c n0 Q kc ks k n h (pc + 1) ls (.long (u % v) :: st)) : W p l e R s m args below meth c n0 Q kc ks k n h pc ls (.long v :: .long u :: st) :=
  W.lift (fun T t H S => XS.lrem H C.1 rfl (C.a d) rfl hy (by rw [lrem_mod u v]; exact S)) K
theorem W.inegV (C : Cx p s m meth c Z y bytes ml ret) {u : Int32} (z : Int32) (d : decode bytes pc = .ok (.ineg, 1)) (hz : (-u) = z) (K : W p l e R s m args below meth c n0 Q kc ks k n h (pc + 1) ls (.int z :: st)) : W p l e R s m args below meth c n0 Q kc ks k n h pc ls (.int u :: st) :=
  W.lift (fun T t H S => XS.ineg H C.1 rfl (C.a d) rfl (by subst hz; exact S)) K
theorem W.ineg (C : Cx p s m meth c Z y bytes ml ret) {u : Int32} (d : decode bytes pc = .ok (.ineg, 1)) (K : W p l e R s m args below meth c n0 Q kc ks k n h (pc + 1) ls (.int (-u) :: st)) : W p l e R s m args below meth c n0 Q kc ks k n h pc ls (.int u :: st) :=
  W.lift (fun T t H S => XS.ineg H C.1 rfl (C.a d) rfl S) K
theorem W.i2bV (C : Cx p s m meth c Z y bytes ml ret) {u : Int32} (z : Int32) (d : decode bytes pc = .ok (.i2b, 1)) (hz : (u.toInt8.toInt32) = z) (K : W p l e R s m args below meth c n0 Q kc ks k n h (pc + 1) ls (.int z :: st)) : W p l e R s m args below meth c n0 Q kc ks k n h pc ls (.int u :: st) :=
  W.lift (fun T t H S => XS.i2b H C.1 rfl (C.a d) rfl (by subst hz; exact S)) K
theorem W.i2b (C : Cx p s m meth c Z y bytes ml ret) {u : Int32} (d : decode bytes pc = .ok (.i2b, 1)) (K : W p l e R s m args below meth c n0 Q kc ks k n h (pc + 1) ls (.int (u.toInt8.toInt32) :: st)) : W p l e R s m args below meth c n0 Q kc ks k n h pc ls (.int u :: st) :=
  W.lift (fun T t H S => XS.i2b H C.1 rfl (C.a d) rfl S) K
theorem W.i2cV (C : Cx p s m meth c Z y bytes ml ret) {u : Int32} (z : Int32) (d : decode bytes pc = .ok (.i2c, 1)) (hz : (u.toUInt32.toUInt16.toUInt32.toInt32) = z) (K : W p l e R s m args below meth c n0 Q kc ks k n h (pc + 1) ls (.int z :: st)) : W p l e R s m args below meth c n0 Q kc ks k n h pc ls (.int u :: st) :=
  W.lift (fun T t H S => XS.i2c H C.1 rfl (C.a d) rfl (by subst hz; exact S)) K
theorem W.i2c (C : Cx p s m meth c Z y bytes ml ret) {u : Int32} (d : decode bytes pc = .ok (.i2c, 1)) (K : W p l e R s m args below meth c n0 Q kc ks k n h (pc + 1) ls (.int (u.toUInt32.toUInt16.toUInt32.toInt32) :: st)) : W p l e R s m args below meth c n0 Q kc ks k n h pc ls (.int u :: st) :=
  W.lift (fun T t H S => XS.i2c H C.1 rfl (C.a d) rfl S) K
theorem W.i2sV (C : Cx p s m meth c Z y bytes ml ret) {u : Int32} (z : Int32) (d : decode bytes pc = .ok (.i2s, 1)) (hz : (u.toInt16.toInt32) = z) (K : W p l e R s m args below meth c n0 Q kc ks k n h (pc + 1) ls (.int z :: st)) : W p l e R s m args below meth c n0 Q kc ks k n h pc ls (.int u :: st) :=
  W.lift (fun T t H S => XS.i2s H C.1 rfl (C.a d) rfl (by subst hz; exact S)) K
theorem W.i2s (C : Cx p s m meth c Z y bytes ml ret) {u : Int32} (d : decode bytes pc = .ok (.i2s, 1)) (K : W p l e R s m args below meth c n0 Q kc ks k n h (pc + 1) ls (.int (u.toInt16.toInt32) :: st)) : W p l e R s m args below meth c n0 Q kc ks k n h pc ls (.int u :: st) :=
  W.lift (fun T t H S => XS.i2s H C.1 rfl (C.a d) rfl S) K
theorem W.i2lV (C : Cx p s m meth c Z y bytes ml ret) {u : Int32} (z : Int64) (d : decode bytes pc = .ok (.i2l, 1)) (hz : u.toInt64 = z) (K : W p l e R s m args below meth c n0 Q kc ks k n h (pc + 1) ls (.long z :: st)) : W p l e R s m args below meth c n0 Q kc ks k n h pc ls (.int u :: st) :=
  W.lift (fun T t H S => XS.i2l H C.1 rfl (C.a d) rfl (by subst hz; exact S)) K
theorem W.i2l (C : Cx p s m meth c Z y bytes ml ret) {u : Int32} (d : decode bytes pc = .ok (.i2l, 1)) (K : W p l e R s m args below meth c n0 Q kc ks k n h (pc + 1) ls (.long u.toInt64 :: st)) : W p l e R s m args below meth c n0 Q kc ks k n h pc ls (.int u :: st) :=
  W.lift (fun T t H S => XS.i2l H C.1 rfl (C.a d) rfl S) K
theorem W.l2iV (C : Cx p s m meth c Z y bytes ml ret) {u : Int64} (z : Int32) (d : decode bytes pc = .ok (.l2i, 1)) (hz : u.toInt32 = z) (K : W p l e R s m args below meth c n0 Q kc ks k n h (pc + 1) ls (.int z :: st)) : W p l e R s m args below meth c n0 Q kc ks k n h pc ls (.long u :: st) :=
  W.lift (fun T t H S => XS.l2i H C.1 rfl (C.a d) rfl (by subst hz; exact S)) K
theorem W.l2i (C : Cx p s m meth c Z y bytes ml ret) {u : Int64} (d : decode bytes pc = .ok (.l2i, 1)) (K : W p l e R s m args below meth c n0 Q kc ks k n h (pc + 1) ls (.int u.toInt32 :: st)) : W p l e R s m args below meth c n0 Q kc ks k n h pc ls (.long u :: st) :=
  W.lift (fun T t H S => XS.l2i H C.1 rfl (C.a d) rfl S) K
theorem W.lnegV (C : Cx p s m meth c Z y bytes ml ret) {u : Int64} (z : Int64) (d : decode bytes pc = .ok (.lneg, 1)) (hz : (-u) = z) (K : W p l e R s m args below meth c n0 Q kc ks k n h (pc + 1) ls (.long z :: st)) : W p l e R s m args below meth c n0 Q kc ks k n h pc ls (.long u :: st) :=
  W.lift (fun T t H S => XS.lneg H C.1 rfl (C.a d) rfl (by subst hz; exact S)) K
theorem W.lneg (C : Cx p s m meth c Z y bytes ml ret) {u : Int64} (d : decode bytes pc = .ok (.lneg, 1)) (K : W p l e R s m args below meth c n0 Q kc ks k n h (pc + 1) ls (.long (-u) :: st)) : W p l e R s m args below meth c n0 Q kc ks k n h pc ls (.long u :: st) :=
  W.lift (fun T t H S => XS.lneg H C.1 rfl (C.a d) rfl S) K
theorem W.lcmpV (C : Cx p s m meth c Z y bytes ml ret) {u v : Int64} (z : Int32) (d : decode bytes pc = .ok (.lcmp, 1)) (hz : (lcmpW u v) = z) (K : W p l e R s m args below meth c n0 Q kc ks k n h (pc + 1) ls (.int z :: st)) : W p l e R s m args below meth c n0 Q kc ks k n h pc ls (.long v :: .long u :: st) :=
  W.lift (fun T t H S => XS.lcmp H C.1 rfl (C.a d) rfl (by subst hz; exact S)) K
theorem W.lcmp (C : Cx p s m meth c Z y bytes ml ret) {u v : Int64} (d : decode bytes pc = .ok (.lcmp, 1)) (K : W p l e R s m args below meth c n0 Q kc ks k n h (pc + 1) ls (.int (lcmpW u v) :: st)) : W p l e R s m args below meth c n0 Q kc ks k n h pc ls (.long v :: .long u :: st) :=
  W.lift (fun T t H S => XS.lcmp H C.1 rfl (C.a d) rfl S) K
theorem W.pop (C : Cx p s m meth c Z y bytes ml ret) {u : Value} (d : decode bytes pc = .ok (.pop, 1)) (hc : u.category = 1) (K : W p l e R s m args below meth c n0 Q kc ks k n h (pc + 1) ls (st)) : W p l e R s m args below meth c n0 Q kc ks k n h pc ls (u :: st) :=
  W.lift (fun T t H S => XS.pop H C.1 rfl (C.a d) rfl hc S) K
theorem W.dup (C : Cx p s m meth c Z y bytes ml ret) {u : Value} (d : decode bytes pc = .ok (.dup, 1)) (hc : u.category = 1) (K : W p l e R s m args below meth c n0 Q kc ks k n h (pc + 1) ls (u :: u :: st)) : W p l e R s m args below meth c n0 Q kc ks k n h pc ls (u :: st) :=
  W.lift (fun T t H S => XS.dup H C.1 rfl (C.a d) rfl hc S) K
theorem W.dupX1 (C : Cx p s m meth c Z y bytes ml ret) {u v : Value} (d : decode bytes pc = .ok (.dup_x1, 1)) (hc : u.category = 1) (hc' : v.category = 1) (K : W p l e R s m args below meth c n0 Q kc ks k n h (pc + 1) ls (u :: v :: u :: st)) : W p l e R s m args below meth c n0 Q kc ks k n h pc ls (u :: v :: st) :=
  W.lift (fun T t H S => XT.dupX1 H C.1 rfl (C.a d) rfl hc hc' S) K
theorem W.dup2 (C : Cx p s m meth c Z y bytes ml ret) {u v : Value} (d : decode bytes pc = .ok (.dup2, 1)) (hc : u.category = 1) (hc' : v.category = 1) (K : W p l e R s m args below meth c n0 Q kc ks k n h (pc + 1) ls (u :: v :: u :: v :: st)) : W p l e R s m args below meth c n0 Q kc ks k n h pc ls (u :: v :: st) :=
  W.lift (fun T t H S => XT.dup2 H C.1 rfl (C.a d) rfl hc hc' S) K
theorem W.dup2L (C : Cx p s m meth c Z y bytes ml ret) {u : Int64} (d : decode bytes pc = .ok (.dup2, 1)) (K : W p l e R s m args below meth c n0 Q kc ks k n h (pc + 1) ls (.long u :: .long u :: st)) : W p l e R s m args below meth c n0 Q kc ks k n h pc ls (.long u :: st) :=
  W.lift (fun T t H S => XT.dup2L H C.1 rfl (C.a d) rfl S) K
theorem W.aconstNull (C : Cx p s m meth c Z y bytes ml ret)  (d : decode bytes pc = .ok (.aconst_null, 1)) (K : W p l e R s m args below meth c n0 Q kc ks k n h (pc + 1) ls (.null :: st)) : W p l e R s m args below meth c n0 Q kc ks k n h pc ls (st) :=
  W.lift (fun T t H S => XS.aconstNull H C.1 rfl (C.a d)  S) K
theorem W.iconst (C : Cx p s m meth c Z y bytes ml ret) {i : Int} (v : Int32) (d : decode bytes pc = .ok (.iconst i, 1)) (hv : Int32.ofInt i = v) (K : W p l e R s m args below meth c n0 Q kc ks k n h (pc + 1) ls (.int v :: st)) : W p l e R s m args below meth c n0 Q kc ks k n h pc ls st :=
  W.lift (fun T t H S => XS.iconst H C.1 rfl (C.a d) (by rw [hv]; exact S)) K
theorem W.bipush (C : Cx p s m meth c Z y bytes ml ret) {i : Int} (v : Int32) (d : decode bytes pc = .ok (.bipush i, 2)) (hv : (Int8.ofInt i).toInt32 = v) (K : W p l e R s m args below meth c n0 Q kc ks k n h (pc + 2) ls (.int v :: st)) : W p l e R s m args below meth c n0 Q kc ks k n h pc ls st :=
  W.lift (fun T t H S => XS.bipush H C.1 rfl (C.a d) (by rw [hv]; exact S)) K
theorem W.sipush (C : Cx p s m meth c Z y bytes ml ret) {i : Int} (v : Int32) (d : decode bytes pc = .ok (.sipush i, 3)) (hv : (Int16.ofInt i).toInt32 = v) (K : W p l e R s m args below meth c n0 Q kc ks k n h (pc + 3) ls (.int v :: st)) : W p l e R s m args below meth c n0 Q kc ks k n h pc ls st :=
  W.lift (fun T t H S => XS.sipush H C.1 rfl (C.a d) (by rw [hv]; exact S)) K
theorem W.lconst (C : Cx p s m meth c Z y bytes ml ret) {i : Fin 2} (v : Int64) (d : decode bytes pc = .ok (.lconst i, 1)) (hv : Int64.ofNat i = v) (K : W p l e R s m args below meth c n0 Q kc ks k n h (pc + 1) ls (.long v :: st)) : W p l e R s m args below meth c n0 Q kc ks k n h pc ls st :=
  W.lift (fun T t H S => XS.lconst H C.1 rfl (C.a d) (by rw [hv]; exact S)) K
theorem W.iloadN (C : Cx p s m meth c Z y bytes ml ret) {i : Fin 4} {v : Int32} (d : decode bytes pc = .ok (.iload_n i, 1)) (hl : ls[i.val]? = some (.val (.int v))) (K : W p l e R s m args below meth c n0 Q kc ks k n h (pc + 1) ls (.int v :: st)) : W p l e R s m args below meth c n0 Q kc ks k n h pc ls st :=
  W.lift (fun T t H S => XS.iloadN H C.1 rfl (C.a d) hl S) K
theorem W.iload (C : Cx p s m meth c Z y bytes ml ret) {i : Nat} {v : Int32} (d : decode bytes pc = .ok (.iload i, 2)) (hl : ls[i]? = some (.val (.int v))) (K : W p l e R s m args below meth c n0 Q kc ks k n h (pc + 2) ls (.int v :: st)) : W p l e R s m args below meth c n0 Q kc ks k n h pc ls st :=
  W.lift (fun T t H S => XS.iload H C.1 rfl (C.a d) hl S) K
theorem W.istoreN (C : Cx p s m meth c Z y bytes ml ret) {i : Fin 4} {v : Int32} (l' : Array Slot) (d : decode bytes pc = .ok (.istore_n i, 1)) (hl : storeLocals ls i.val (.int v) = some l') (K : W p l e R s m args below meth c n0 Q kc ks k n h (pc + 1) l' st) : W p l e R s m args below meth c n0 Q kc ks k n h pc ls (.int v :: st) :=
  W.lift (fun T t H S => XS.istoreN H C.1 rfl (C.a d) rfl hl S) K
theorem W.istore (C : Cx p s m meth c Z y bytes ml ret) {i : Nat} {v : Int32} (l' : Array Slot) (d : decode bytes pc = .ok (.istore i, 2)) (hl : storeLocals ls i (.int v) = some l') (K : W p l e R s m args below meth c n0 Q kc ks k n h (pc + 2) l' st) : W p l e R s m args below meth c n0 Q kc ks k n h pc ls (.int v :: st) :=
  W.lift (fun T t H S => XS.istore H C.1 rfl (C.a d) rfl hl S) K
theorem W.lloadN (C : Cx p s m meth c Z y bytes ml ret) {i : Fin 4} {v : Int64} (d : decode bytes pc = .ok (.lload_n i, 1)) (hl : ls[i.val]? = some (.val (.long v))) (K : W p l e R s m args below meth c n0 Q kc ks k n h (pc + 1) ls (.long v :: st)) : W p l e R s m args below meth c n0 Q kc ks k n h pc ls st :=
  W.lift (fun T t H S => XS.lloadN H C.1 rfl (C.a d) hl S) K
theorem W.lload (C : Cx p s m meth c Z y bytes ml ret) {i : Nat} {v : Int64} (d : decode bytes pc = .ok (.lload i, 2)) (hl : ls[i]? = some (.val (.long v))) (K : W p l e R s m args below meth c n0 Q kc ks k n h (pc + 2) ls (.long v :: st)) : W p l e R s m args below meth c n0 Q kc ks k n h pc ls st :=
  W.lift (fun T t H S => XS.lload H C.1 rfl (C.a d) hl S) K
theorem W.lstoreN (C : Cx p s m meth c Z y bytes ml ret) {i : Fin 4} {v : Int64} (l' : Array Slot) (d : decode bytes pc = .ok (.lstore_n i, 1)) (hl : storeLocals ls i.val (.long v) = some l') (K : W p l e R s m args below meth c n0 Q kc ks k n h (pc + 1) l' st) : W p l e R s m args below meth c n0 Q kc ks k n h pc ls (.long v :: st) :=
  W.lift (fun T t H S => XS.lstoreN H C.1 rfl (C.a d) rfl hl S) K
theorem W.lstore (C : Cx p s m meth c Z y bytes ml ret) {i : Nat} {v : Int64} (l' : Array Slot) (d : decode bytes pc = .ok (.lstore i, 2)) (hl : storeLocals ls i (.long v) = some l') (K : W p l e R s m args below meth c n0 Q kc ks k n h (pc + 2) l' st) : W p l e R s m args below meth c n0 Q kc ks k n h pc ls (.long v :: st) :=
  W.lift (fun T t H S => XS.lstore H C.1 rfl (C.a d) rfl hl S) K
theorem W.aloadN (C : Cx p s m meth c Z y bytes ml ret) {i : Fin 4} {v : Value} (d : decode bytes pc = .ok (.aload_n i, 1)) (hl : ls[i.val]? = some (.val v)) (hv : v.isRef = true) (K : W p l e R s m args below meth c n0 Q kc ks k n h (pc + 1) ls (v :: st)) : W p l e R s m args below meth c n0 Q kc ks k n h pc ls st :=
  W.lift (fun T t H S => XS.aloadN H C.1 rfl (C.a d) hl hv S) K
theorem W.aload (C : Cx p s m meth c Z y bytes ml ret) {i : Nat} {v : Value} (d : decode bytes pc = .ok (.aload i, 2)) (hl : ls[i]? = some (.val v)) (hv : v.isRef = true) (K : W p l e R s m args below meth c n0 Q kc ks k n h (pc + 2) ls (v :: st)) : W p l e R s m args below meth c n0 Q kc ks k n h pc ls st :=
  W.lift (fun T t H S => XS.aload H C.1 rfl (C.a d) hl hv S) K
theorem W.astoreN (C : Cx p s m meth c Z y bytes ml ret) {i : Fin 4} {v : Value} (l' : Array Slot) (d : decode bytes pc = .ok (.astore_n i, 1)) (hv : v.isRef = true) (hl : storeLocals ls i.val v = some l') (K : W p l e R s m args below meth c n0 Q kc ks k n h (pc + 1) l' st) : W p l e R s m args below meth c n0 Q kc ks k n h pc ls (v :: st) :=
  W.lift (fun T t H S => XS.astoreN H C.1 rfl (C.a d) rfl hv hl S) K
theorem W.astore (C : Cx p s m meth c Z y bytes ml ret) {i : Nat} {v : Value} (l' : Array Slot) (d : decode bytes pc = .ok (.astore i, 2)) (hv : v.isRef = true) (hl : storeLocals ls i v = some l') (K : W p l e R s m args below meth c n0 Q kc ks k n h (pc + 2) l' st) : W p l e R s m args below meth c n0 Q kc ks k n h pc ls (v :: st) :=
  W.lift (fun T t H S => XS.astore H C.1 rfl (C.a d) rfl hv hl S) K
theorem W.istoreO (C : Cx p s m meth c Z y bytes ml ret) {i : Nat} {v : Int32} {o : Slot} (l' : Array Slot) (d : decode bytes pc = .ok (.istore i, 2)) (hold : ls[i]? = some o) (ho : One o) (hl : ls.setIfInBounds i (.val (.int v)) = l') (K : W p l e R s m args below meth c n0 Q kc ks k n h (pc + 2) l' st) : W p l e R s m args below meth c n0 Q kc ks k n h pc ls (.int v :: st) :=
  W.lift (fun T t H S => XS.istoreS H C.1 rfl (C.a d) rfl hold ho (by rw [hl]; exact S)) K
theorem W.istoreNO (C : Cx p s m meth c Z y bytes ml ret) {i : Fin 4} {v : Int32} {o : Slot} (l' : Array Slot) (d : decode bytes pc = .ok (.istore_n i, 1)) (hold : ls[i.val]? = some o) (ho : One o) (hl : ls.setIfInBounds i.val (.val (.int v)) = l') (K : W p l e R s m args below meth c n0 Q kc ks k n h (pc + 1) l' st) : W p l e R s m args below meth c n0 Q kc ks k n h pc ls (.int v :: st) :=
  W.lift (fun T t H S => XS.istoreNS H C.1 rfl (C.a d) rfl hold ho (by rw [hl]; exact S)) K
theorem W.iinc (C : Cx p s m meth c Z y bytes ml ret) {i : Nat} {cst : Int} {u : Int32} (v : Int32) (l' : Array Slot) (d : decode bytes pc = .ok (.iinc i cst, 3)) (hl : ls[i]? = some (.val (.int u))) (hv : u + Int32.ofInt cst = v) (hl' : storeLocals ls i (.int v) = some l') (K : W p l e R s m args below meth c n0 Q kc ks k n h (pc + 3) l' st) : W p l e R s m args below meth c n0 Q kc ks k n h pc ls st :=
  W.lift (fun T t H S => XS.iinc H C.1 rfl (C.a d) hl (by rw [hv]; exact hl') S) K
theorem jmp {pc pc' : Nat} {o : Int} (hp : (pc : Int) + o = pc') : 0 ≤ (pc : Int) + o ∧ ((pc : Int) + o).toNat = pc' := by omega
theorem W.goto (C : Cx p s m meth c Z y bytes ml ret) {o : Int} (pc' : Nat) (d : decode bytes pc = .ok (.goto o, 3)) (hp : (pc : Int) + o = pc') (K : W p l e R s m args below meth c n0 Q kc ks k n h pc' ls st) : W p l e R s m args below meth c n0 Q kc ks k n h pc ls st :=
  W.lift (fun T t H S => XS.goto H C.1 rfl (pc0 := pc) (pc' := pc') rfl (C.a d) (jmp hp).1 (jmp hp).2 S) K
theorem W.icmp_eq (C : Cx p s m meth c Z y bytes ml ret) {u v : Int32} {o : Int} (pc' : Nat) (d : decode bytes pc = .ok (.if_icmp .eq o, 3)) (hp : (pc : Int) + o = pc') (yes : u = v → W p l e R s m args below meth c n0 Q kc ks k n h pc' ls st) (no : ¬ u = v → W p l e R s m args below meth c n0 Q kc ks k n h (pc + 3) ls st) : W p l e R s m args below meth c n0 Q kc ks k n h pc ls (.int v :: .int u :: st) := by
  by_cases b : u = v
  · exact W.lift (fun T t H S => XS.icmpYes H C.1 rfl (pc0 := pc) (pc' := pc') rfl (C.a d) rfl (XT.ii_eq_t b) (jmp hp).1 (jmp hp).2 S) (yes b)
  · exact W.lift (fun T t H S => XS.icmpNo H C.1 rfl (C.a d) rfl (XT.ii_eq_f b) S) (no b)
theorem W.if_eq (C : Cx p s m meth c Z y bytes ml ret) {u : Int32} {o : Int} (pc' : Nat) (d : decode bytes pc = .ok (.ifCond .eq o, 3)) (hp : (pc : Int) + o = pc') (yes : u = 0 → W p l e R s m args below meth c n0 Q kc ks k n h pc' ls st) (no : ¬ u = 0 → W p l e R s m args below meth c n0 Q kc ks k n h (pc + 3) ls st) : W p l e R s m args below meth c n0 Q kc ks k n h pc ls (.int u :: st) := by
  by_cases b : u = 0
  · exact W.lift (fun T t H S => XS.ifYes H C.1 rfl (pc0 := pc) (pc' := pc') rfl (C.a d) rfl (XT.i0_eq_t b) (jmp hp).1 (jmp hp).2 S) (yes b)
  · exact W.lift (fun T t H S => XS.ifNo H C.1 rfl (C.a d) rfl (XT.i0_eq_f b) S) (no b)
theorem ll_eq_t {u v : Int64} (b : u = v) : ifCond.holds .eq (lcmpW u v) = true := XT.ll_eq_t b
theorem ll_eq_f {u v : Int64} (b : ¬ u = v) : ifCond.holds .eq (lcmpW u v) = false := XT.ll_eq_f b
theorem W.lif_eq (C : Cx p s m meth c Z y bytes ml ret) {u v : Int64} {o : Int} (pc' : Nat) (d : decode bytes pc = .ok (.ifCond .eq o, 3)) (hp : (pc : Int) + o = pc') (yes : u = v → W p l e R s m args below meth c n0 Q kc ks k n h pc' ls st) (no : ¬ u = v → W p l e R s m args below meth c n0 Q kc ks k n h (pc + 3) ls st) : W p l e R s m args below meth c n0 Q kc ks k n h pc ls (.int (lcmpW u v) :: st) := by
  by_cases b : u = v
  · exact W.lift (fun T t H S => XS.ifYes H C.1 rfl (pc0 := pc) (pc' := pc') rfl (C.a d) rfl (ll_eq_t b) (jmp hp).1 (jmp hp).2 S) (yes b)
  · exact W.lift (fun T t H S => XS.ifNo H C.1 rfl (C.a d) rfl (ll_eq_f b) S) (no b)
theorem W.icmp_ne (C : Cx p s m meth c Z y bytes ml ret) {u v : Int32} {o : Int} (pc' : Nat) (d : decode bytes pc = .ok (.if_icmp .ne o, 3)) (hp : (pc : Int) + o = pc') (yes : ¬ u = v → W p l e R s m args below meth c n0 Q kc ks k n h pc' ls st) (no : u = v → W p l e R s m args below meth c n0 Q kc ks k n h (pc + 3) ls st) : W p l e R s m args below meth c n0 Q kc ks k n h pc ls (.int v :: .int u :: st) := by
  by_cases b : u = v
  · exact W.lift (fun T t H S => XS.icmpNo H C.1 rfl (C.a d) rfl (XT.ii_ne_f b) S) (no b)
  · exact W.lift (fun T t H S => XS.icmpYes H C.1 rfl (pc0 := pc) (pc' := pc') rfl (C.a d) rfl (XT.ii_ne_t b) (jmp hp).1 (jmp hp).2 S) (yes b)
theorem W.if_ne (C : Cx p s m meth c Z y bytes ml ret) {u : Int32} {o : Int} (pc' : Nat) (d : decode bytes pc = .ok (.ifCond .ne o, 3)) (hp : (pc : Int) + o = pc') (yes : ¬ u = 0 → W p l e R s m args below meth c n0 Q kc ks k n h pc' ls st) (no : u = 0 → W p l e R s m args below meth c n0 Q kc ks k n h (pc + 3) ls st) : W p l e R s m args below meth c n0 Q kc ks k n h pc ls (.int u :: st) := by
  by_cases b : u = 0
  · exact W.lift (fun T t H S => XS.ifNo H C.1 rfl (C.a d) rfl (XT.i0_ne_f b) S) (no b)
  · exact W.lift (fun T t H S => XS.ifYes H C.1 rfl (pc0 := pc) (pc' := pc') rfl (C.a d) rfl (XT.i0_ne_t b) (jmp hp).1 (jmp hp).2 S) (yes b)
theorem ll_ne_t {u v : Int64} (b : ¬ u = v) : ifCond.holds .ne (lcmpW u v) = true := XT.ll_ne_t b
theorem ll_ne_f {u v : Int64} (b : u = v) : ifCond.holds .ne (lcmpW u v) = false := XT.ll_ne_f b
theorem W.lif_ne (C : Cx p s m meth c Z y bytes ml ret) {u v : Int64} {o : Int} (pc' : Nat) (d : decode bytes pc = .ok (.ifCond .ne o, 3)) (hp : (pc : Int) + o = pc') (yes : ¬ u = v → W p l e R s m args below meth c n0 Q kc ks k n h pc' ls st) (no : u = v → W p l e R s m args below meth c n0 Q kc ks k n h (pc + 3) ls st) : W p l e R s m args below meth c n0 Q kc ks k n h pc ls (.int (lcmpW u v) :: st) := by
  by_cases b : u = v
  · exact W.lift (fun T t H S => XS.ifNo H C.1 rfl (C.a d) rfl (ll_ne_f b) S) (no b)
  · exact W.lift (fun T t H S => XS.ifYes H C.1 rfl (pc0 := pc) (pc' := pc') rfl (C.a d) rfl (ll_ne_t b) (jmp hp).1 (jmp hp).2 S) (yes b)
theorem W.icmp_lt (C : Cx p s m meth c Z y bytes ml ret) {u v : Int32} {o : Int} (pc' : Nat) (d : decode bytes pc = .ok (.if_icmp .lt o, 3)) (hp : (pc : Int) + o = pc') (yes : u < v → W p l e R s m args below meth c n0 Q kc ks k n h pc' ls st) (no : ¬ u < v → W p l e R s m args below meth c n0 Q kc ks k n h (pc + 3) ls st) : W p l e R s m args below meth c n0 Q kc ks k n h pc ls (.int v :: .int u :: st) := by
  by_cases b : u < v
  · exact W.lift (fun T t H S => XS.icmpYes H C.1 rfl (pc0 := pc) (pc' := pc') rfl (C.a d) rfl (XT.ii_lt_t b) (jmp hp).1 (jmp hp).2 S) (yes b)
  · exact W.lift (fun T t H S => XS.icmpNo H C.1 rfl (C.a d) rfl (XT.ii_lt_f b) S) (no b)
theorem W.if_lt (C : Cx p s m meth c Z y bytes ml ret) {u : Int32} {o : Int} (pc' : Nat) (d : decode bytes pc = .ok (.ifCond .lt o, 3)) (hp : (pc : Int) + o = pc') (yes : u < 0 → W p l e R s m args below meth c n0 Q kc ks k n h pc' ls st) (no : ¬ u < 0 → W p l e R s m args below meth c n0 Q kc ks k n h (pc + 3) ls st) : W p l e R s m args below meth c n0 Q kc ks k n h pc ls (.int u :: st) := by
  by_cases b : u < 0
  · exact W.lift (fun T t H S => XS.ifYes H C.1 rfl (pc0 := pc) (pc' := pc') rfl (C.a d) rfl (XT.i0_lt_t b) (jmp hp).1 (jmp hp).2 S) (yes b)
  · exact W.lift (fun T t H S => XS.ifNo H C.1 rfl (C.a d) rfl (XT.i0_lt_f b) S) (no b)
theorem ll_lt_t {u v : Int64} (b : u < v) : ifCond.holds .lt (lcmpW u v) = true := XT.ll_lt_t b
theorem ll_lt_f {u v : Int64} (b : ¬ u < v) : ifCond.holds .lt (lcmpW u v) = false := XT.ll_lt_f b
theorem W.lif_lt (C : Cx p s m meth c Z y bytes ml ret) {u v : Int64} {o : Int} (pc' : Nat) (d : decode bytes pc = .ok (.ifCond .lt o, 3)) (hp : (pc : Int) + o = pc') (yes : u < v → W p l e R s m args below meth c n0 Q kc ks k n h pc' ls st) (no : ¬ u < v → W p l e R s m args below meth c n0 Q kc ks k n h (pc + 3) ls st) : W p l e R s m args below meth c n0 Q kc ks k n h pc ls (.int (lcmpW u v) :: st) := by
  by_cases b : u < v
  · exact W.lift (fun T t H S => XS.ifYes H C.1 rfl (pc0 := pc) (pc' := pc') rfl (C.a d) rfl (ll_lt_t b) (jmp hp).1 (jmp hp).2 S) (yes b)
  · exact W.lift (fun T t H S => XS.ifNo H C.1 rfl (C.a d) rfl (ll_lt_f b) S) (no b)
theorem W.icmp_ge (C : Cx p s m meth c Z y bytes ml ret) {u v : Int32} {o : Int} (pc' : Nat) (d : decode bytes pc = .ok (.if_icmp .ge o, 3)) (hp : (pc : Int) + o = pc') (yes : ¬ u < v → W p l e R s m args below meth c n0 Q kc ks k n h pc' ls st) (no : u < v → W p l e R s m args below meth c n0 Q kc ks k n h (pc + 3) ls st) : W p l e R s m args below meth c n0 Q kc ks k n h pc ls (.int v :: .int u :: st) := by
  by_cases b : u < v
  · exact W.lift (fun T t H S => XS.icmpNo H C.1 rfl (C.a d) rfl (XT.ii_ge_f b) S) (no b)
  · exact W.lift (fun T t H S => XS.icmpYes H C.1 rfl (pc0 := pc) (pc' := pc') rfl (C.a d) rfl (XT.ii_ge_t b) (jmp hp).1 (jmp hp).2 S) (yes b)
theorem W.if_ge (C : Cx p s m meth c Z y bytes ml ret) {u : Int32} {o : Int} (pc' : Nat) (d : decode bytes pc = .ok (.ifCond .ge o, 3)) (hp : (pc : Int) + o = pc') (yes : ¬ u < 0 → W p l e R s m args below meth c n0 Q kc ks k n h pc' ls st) (no : u < 0 → W p l e R s m args below meth c n0 Q kc ks k n h (pc + 3) ls st) : W p l e R s m args below meth c n0 Q kc ks k n h pc ls (.int u :: st) := by
  by_cases b : u < 0
  · exact W.lift (fun T t H S => XS.ifNo H C.1 rfl (C.a d) rfl (XT.i0_ge_f b) S) (no b)
  · exact W.lift (fun T t H S => XS.ifYes H C.1 rfl (pc0 := pc) (pc' := pc') rfl (C.a d) rfl (XT.i0_ge_t b) (jmp hp).1 (jmp hp).2 S) (yes b)
theorem ll_ge_t {u v : Int64} (b : ¬ u < v) : ifCond.holds .ge (lcmpW u v) = true := XT.ll_ge_t b
theorem ll_ge_f {u v : Int64} (b : u < v) : ifCond.holds .ge (lcmpW u v) = false := XT.ll_ge_f b
theorem W.lif_ge (C : Cx p s m meth c Z y bytes ml ret) {u v : Int64} {o : Int} (pc' : Nat) (d : decode bytes pc = .ok (.ifCond .ge o, 3)) (hp : (pc : Int) + o = pc') (yes : ¬ u < v → W p l e R s m args below meth c n0 Q kc ks k n h pc' ls st) (no : u < v → W p l e R s m args below meth c n0 Q kc ks k n h (pc + 3) ls st) : W p l e R s m args below meth c n0 Q kc ks k n h pc ls (.int (lcmpW u v) :: st) := by
  by_cases b : u < v
  · exact W.lift (fun T t H S => XS.ifNo H C.1 rfl (C.a d) rfl (ll_ge_f b) S) (no b)
  · exact W.lift (fun T t H S => XS.ifYes H C.1 rfl (pc0 := pc) (pc' := pc') rfl (C.a d) rfl (ll_ge_t b) (jmp hp).1 (jmp hp).2 S) (yes b)
theorem W.icmp_gt (C : Cx p s m meth c Z y bytes ml ret) {u v : Int32} {o : Int} (pc' : Nat) (d : decode bytes pc = .ok (.if_icmp .gt o, 3)) (hp : (pc : Int) + o = pc') (yes : v < u → W p l e R s m args below meth c n0 Q kc ks k n h pc' ls st) (no : ¬ v < u → W p l e R s m args below meth c n0 Q kc ks k n h (pc + 3) ls st) : W p l e R s m args below meth c n0 Q kc ks k n h pc ls (.int v :: .int u :: st) := by
  by_cases b : v < u
  · exact W.lift (fun T t H S => XS.icmpYes H C.1 rfl (pc0 := pc) (pc' := pc') rfl (C.a d) rfl (XT.ii_gt_t b) (jmp hp).1 (jmp hp).2 S) (yes b)
  · exact W.lift (fun T t H S => XS.icmpNo H C.1 rfl (C.a d) rfl (XT.ii_gt_f b) S) (no b)
theorem W.if_gt (C : Cx p s m meth c Z y bytes ml ret) {u : Int32} {o : Int} (pc' : Nat) (d : decode bytes pc = .ok (.ifCond .gt o, 3)) (hp : (pc : Int) + o = pc') (yes : 0 < u → W p l e R s m args below meth c n0 Q kc ks k n h pc' ls st) (no : ¬ 0 < u → W p l e R s m args below meth c n0 Q kc ks k n h (pc + 3) ls st) : W p l e R s m args below meth c n0 Q kc ks k n h pc ls (.int u :: st) := by
  by_cases b : 0 < u
  · exact W.lift (fun T t H S => XS.ifYes H C.1 rfl (pc0 := pc) (pc' := pc') rfl (C.a d) rfl (XT.i0_gt_t b) (jmp hp).1 (jmp hp).2 S) (yes b)
  · exact W.lift (fun T t H S => XS.ifNo H C.1 rfl (C.a d) rfl (XT.i0_gt_f b) S) (no b)
theorem ll_gt_t {u v : Int64} (b : v < u) : ifCond.holds .gt (lcmpW u v) = true := XT.ll_gt_t b
theorem ll_gt_f {u v : Int64} (b : ¬ v < u) : ifCond.holds .gt (lcmpW u v) = false := XT.ll_gt_f b
theorem W.lif_gt (C : Cx p s m meth c Z y bytes ml ret) {u v : Int64} {o : Int} (pc' : Nat) (d : decode bytes pc = .ok (.ifCond .gt o, 3)) (hp : (pc : Int) + o = pc') (yes : v < u → W p l e R s m args below meth c n0 Q kc ks k n h pc' ls st) (no : ¬ v < u → W p l e R s m args below meth c n0 Q kc ks k n h (pc + 3) ls st) : W p l e R s m args below meth c n0 Q kc ks k n h pc ls (.int (lcmpW u v) :: st) := by
  by_cases b : v < u
  · exact W.lift (fun T t H S => XS.ifYes H C.1 rfl (pc0 := pc) (pc' := pc') rfl (C.a d) rfl (ll_gt_t b) (jmp hp).1 (jmp hp).2 S) (yes b)
  · exact W.lift (fun T t H S => XS.ifNo H C.1 rfl (C.a d) rfl (ll_gt_f b) S) (no b)
theorem W.icmp_le (C : Cx p s m meth c Z y bytes ml ret) {u v : Int32} {o : Int} (pc' : Nat) (d : decode bytes pc = .ok (.if_icmp .le o, 3)) (hp : (pc : Int) + o = pc') (yes : ¬ v < u → W p l e R s m args below meth c n0 Q kc ks k n h pc' ls st) (no : v < u → W p l e R s m args below meth c n0 Q kc ks k n h (pc + 3) ls st) : W p l e R s m args below meth c n0 Q kc ks k n h pc ls (.int v :: .int u :: st) := by
  by_cases b : v < u
  · exact W.lift (fun T t H S => XS.icmpNo H C.1 rfl (C.a d) rfl (XT.ii_le_f b) S) (no b)
  · exact W.lift (fun T t H S => XS.icmpYes H C.1 rfl (pc0 := pc) (pc' := pc') rfl (C.a d) rfl (XT.ii_le_t b) (jmp hp).1 (jmp hp).2 S) (yes b)
theorem W.if_le (C : Cx p s m meth c Z y bytes ml ret) {u : Int32} {o : Int} (pc' : Nat) (d : decode bytes pc = .ok (.ifCond .le o, 3)) (hp : (pc : Int) + o = pc') (yes : ¬ 0 < u → W p l e R s m args below meth c n0 Q kc ks k n h pc' ls st) (no : 0 < u → W p l e R s m args below meth c n0 Q kc ks k n h (pc + 3) ls st) : W p l e R s m args below meth c n0 Q kc ks k n h pc ls (.int u :: st) := by
  by_cases b : 0 < u
  · exact W.lift (fun T t H S => XS.ifNo H C.1 rfl (C.a d) rfl (XT.i0_le_f b) S) (no b)
  · exact W.lift (fun T t H S => XS.ifYes H C.1 rfl (pc0 := pc) (pc' := pc') rfl (C.a d) rfl (XT.i0_le_t b) (jmp hp).1 (jmp hp).2 S) (yes b)
theorem ll_le_t {u v : Int64} (b : ¬ v < u) : ifCond.holds .le (lcmpW u v) = true := XT.ll_le_t b
theorem ll_le_f {u v : Int64} (b : v < u) : ifCond.holds .le (lcmpW u v) = false := XT.ll_le_f b
theorem W.lif_le (C : Cx p s m meth c Z y bytes ml ret) {u v : Int64} {o : Int} (pc' : Nat) (d : decode bytes pc = .ok (.ifCond .le o, 3)) (hp : (pc : Int) + o = pc') (yes : ¬ v < u → W p l e R s m args below meth c n0 Q kc ks k n h pc' ls st) (no : v < u → W p l e R s m args below meth c n0 Q kc ks k n h (pc + 3) ls st) : W p l e R s m args below meth c n0 Q kc ks k n h pc ls (.int (lcmpW u v) :: st) := by
  by_cases b : v < u
  · exact W.lift (fun T t H S => XS.ifNo H C.1 rfl (C.a d) rfl (ll_le_f b) S) (no b)
  · exact W.lift (fun T t H S => XS.ifYes H C.1 rfl (pc0 := pc) (pc' := pc') rfl (C.a d) rfl (ll_le_t b) (jmp hp).1 (jmp hp).2 S) (yes b)
theorem W.ifnullNo (C : Cx p s m meth c Z y bytes ml ret) {b : Addr} {o : Int} (d : decode bytes pc = .ok (.ifnull o, 3)) (K : W p l e R s m args below meth c n0 Q kc ks k n h (pc + 3) ls st) : W p l e R s m args below meth c n0 Q kc ks k n h pc ls (.ref b :: st) :=
  W.lift (fun T t H S => XS.ifnullNo H C.1 rfl (C.a d) rfl S) K
theorem W.ifnullYes (C : Cx p s m meth c Z y bytes ml ret) {o : Int} (pc' : Nat) (d : decode bytes pc = .ok (.ifnull o, 3)) (hp : (pc : Int) + o = pc') (K : W p l e R s m args below meth c n0 Q kc ks k n h pc' ls st) : W p l e R s m args below meth c n0 Q kc ks k n h pc ls (.null :: st) :=
  W.lift (fun T t H S => XS.ifnullYes H C.1 rfl (pc0 := pc) (pc' := pc') rfl (C.a d) rfl (jmp hp).1 (jmp hp).2 S) K
theorem W.ifnonnullYes (C : Cx p s m meth c Z y bytes ml ret) {b : Addr} {o : Int} (pc' : Nat) (d : decode bytes pc = .ok (.ifnonnull o, 3)) (hp : (pc : Int) + o = pc') (K : W p l e R s m args below meth c n0 Q kc ks k n h pc' ls st) : W p l e R s m args below meth c n0 Q kc ks k n h pc ls (.ref b :: st) :=
  W.lift (fun T t H S => XT.ifnonnullYes H C.1 rfl (pc0 := pc) (pc' := pc') rfl (C.a d) rfl (jmp hp).1 (jmp hp).2 S) K
theorem W.ifnonnullNo (C : Cx p s m meth c Z y bytes ml ret) {o : Int} (d : decode bytes pc = .ok (.ifnonnull o, 3)) (K : W p l e R s m args below meth c n0 Q kc ks k n h (pc + 3) ls st) : W p l e R s m args below meth c n0 Q kc ks k n h pc ls (.null :: st) :=
  W.lift (fun T t H S => XT.ifnonnullNo H C.1 rfl (C.a d) rfl S) K
theorem W.acmp_eq (C : Cx p s m meth c Z y bytes ml ret) {u v : Value} {o : Int} (pc' : Nat) (d : decode bytes pc = .ok (.if_acmp .eq o, 3)) (hu : u.isRef = true) (hv : v.isRef = true) (hp : (pc : Int) + o = pc') (yes : u = v → W p l e R s m args below meth c n0 Q kc ks k n h pc' ls st) (no : ¬ u = v → W p l e R s m args below meth c n0 Q kc ks k n h (pc + 3) ls st) : W p l e R s m args below meth c n0 Q kc ks k n h pc ls (v :: u :: st) := by
  by_cases b : u = v
  · exact W.lift (fun T t H S => XT.acmpYes H C.1 rfl (pc0 := pc) (pc' := pc') rfl (C.a d) rfl hu hv (XT.aa_eq_t b) (jmp hp).1 (jmp hp).2 S) (yes b)
  · exact W.lift (fun T t H S => XT.acmpNo H C.1 rfl (C.a d) rfl hu hv (XT.aa_eq_f b) S) (no b)
theorem W.acmp_ne (C : Cx p s m meth c Z y bytes ml ret) {u v : Value} {o : Int} (pc' : Nat) (d : decode bytes pc = .ok (.if_acmp .ne o, 3)) (hu : u.isRef = true) (hv : v.isRef = true) (hp : (pc : Int) + o = pc') (yes : ¬ u = v → W p l e R s m args below meth c n0 Q kc ks k n h pc' ls st) (no : u = v → W p l e R s m args below meth c n0 Q kc ks k n h (pc + 3) ls st) : W p l e R s m args below meth c n0 Q kc ks k n h pc ls (v :: u :: st) := by
  by_cases b : u = v
  · exact W.lift (fun T t H S => XT.acmpNo H C.1 rfl (C.a d) rfl hu hv (XT.aa_ne_f b) S) (no b)
  · exact W.lift (fun T t H S => XT.acmpYes H C.1 rfl (pc0 := pc) (pc' := pc') rfl (C.a d) rfl hu hv (XT.aa_ne_t b) (jmp hp).1 (jmp hp).2 S) (yes b)
theorem W.ldcI (C : Cx p s m meth c Z y bytes ml ret) {i : Nat} {v : Int32} (d : decode bytes pc = .ok (.ldc i, 2)) (w : (Jvm.Cond.constant y.cls i v).before a0 Z = true) (K : W p l e R s m args below meth c n0 Q kc ks k n h (pc + 2) ls (.int v :: st)) : W p l e R s m args below meth c n0 Q kc ks k n h pc ls st := fun T locs X eT N => by
  obtain ⟨s₂, o, h1, h2⟩ := K T locs X eT N
  exact ⟨s₂, o, X.ldcI C.1 C.2.2.1 (mvT C.2.1 w) rfl (C.a d) h1, h2⟩
theorem W.ldcWI (C : Cx p s m meth c Z y bytes ml ret) {i : Nat} {v : Int32} (d : decode bytes pc = .ok (.ldc_w i, 3)) (w : (Jvm.Cond.constant y.cls i v).before a0 Z = true) (K : W p l e R s m args below meth c n0 Q kc ks k n h (pc + 3) ls (.int v :: st)) : W p l e R s m args below meth c n0 Q kc ks k n h pc ls st := fun T locs X eT N => by
  obtain ⟨s₂, o, h1, h2⟩ := K T locs X eT N
  exact ⟨s₂, o, X.ldcWI C.1 C.2.2.1 (mvT C.2.1 w) rfl (C.a d) h1, h2⟩
theorem W.ldc2J (C : Cx p s m meth c Z y bytes ml ret) {i : Nat} {v : Int64} (d : decode bytes pc = .ok (.ldc2_w i, 3)) (w : (Jvm.Cond.constantLong y.cls i v).before a0 Z = true) (K : W p l e R s m args below meth c n0 Q kc ks k n h (pc + 3) ls (.long v :: st)) : W p l e R s m args below meth c n0 Q kc ks k n h pc ls st := fun T locs X eT N => by
  obtain ⟨s₂, o, h1, h2⟩ := K T locs X eT N
  exact ⟨s₂, o, X.ldc2J C.1 C.2.2.1 (mvT C.2.1 w) rfl (C.a d) h1, h2⟩
theorem W.iret {t : FieldType} {z : Int32} (C : Cx p s m meth c Z y bytes ml (some t)) (d : decode bytes pc = .ok (.ireturn, 1)) (ht : t = .int ∨ t = .boolean ∨ t = .byte ∨ t = .char ∨ t = .short) (hn : narrow t (.int z) = .int z) (hk : k ≤ kc) (hs : n ≤ ks) (q : Q (some (.int z)) h) : W p l e R s m args below meth c n0 Q kc ks k n h pc ls (.int z :: st) := fun T locs X eT N => by
  obtain ⟨fs, hr, hrun, hended, hW, hsame⟩ := X.leave (v := some (.int z)) (fun q => by rw [C.2.2.2.2.2.1] at q; cases q) C.2.2.2.2.2.2.1
  exact ⟨_, _, retOut X C.1 C.2.2.2.2.2.1 hn (Or.inl ⟨rfl, ht, z, rfl⟩) (C.a d) hr, hrun, hended, _, _, rfl, ⟨by subst eT; exact q, N⟩, ⟨_, rfl⟩, hW, hsame.mono hk hs⟩
theorem W.lret {t : FieldType} {z : Int64} (C : Cx p s m meth c Z y bytes ml (some t)) (d : decode bytes pc = .ok (.lreturn, 1)) (ht : t = .long) (hn : narrow t (.long z) = .long z) (hk : k ≤ kc) (hs : n ≤ ks) (q : Q (some (.long z)) h) : W p l e R s m args below meth c n0 Q kc ks k n h pc ls (.long z :: st) := fun T locs X eT N => by
  obtain ⟨fs, hr, hrun, hended, hW, hsame⟩ := X.leave (v := some (.long z)) (fun q => by rw [C.2.2.2.2.2.1] at q; cases q) C.2.2.2.2.2.2.1
  exact ⟨_, _, retOut X C.1 C.2.2.2.2.2.1 hn (Or.inr (Or.inl ⟨rfl, ht, z, rfl⟩)) (C.a d) hr, hrun, hended, _, _, rfl, ⟨by subst eT; exact q, N⟩, ⟨_, rfl⟩, hW, hsame.mono hk hs⟩
theorem W.aret {t : FieldType} {z : Value} (C : Cx p s m meth c Z y bytes ml (some t)) (d : decode bytes pc = .ok (.areturn, 1)) (ht : t.isReference = true) (hz : z.isRef = true) (hn : narrow t (z) = z) (hk : k ≤ kc) (hs : n ≤ ks) (q : Q (some (z)) h) : W p l e R s m args below meth c n0 Q kc ks k n h pc ls (z :: st) := fun T locs X eT N => by
  obtain ⟨fs, hr, hrun, hended, hW, hsame⟩ := X.leave (v := some (z)) (fun q => by rw [C.2.2.2.2.2.1] at q; cases q) C.2.2.2.2.2.2.1
  exact ⟨_, _, retOut X C.1 C.2.2.2.2.2.1 hn (Or.inr (Or.inr (Or.inr (Or.inr ⟨rfl, ht, hz⟩)))) (C.a d) hr, hrun, hended, _, _, rfl, ⟨by subst eT; exact q, N⟩, ⟨_, rfl⟩, hW, hsame.mono hk hs⟩
theorem W.retV (C : Cx p s m meth c Z y bytes ml none) (d : decode bytes pc = .ok (.return_, 1)) (hk : k ≤ kc) (hs : n ≤ ks) (q : Q none h) : W p l e R s m args below meth c n0 Q kc ks k n h pc ls [] := fun T locs X eT N => by
  obtain ⟨fs, hr, hrun, hended, hW, hsame⟩ := X.leave (v := none) (fun _ => rfl) C.2.2.2.2.2.2.1
  exact ⟨_, _, X.returnOut C.1 C.2.2.2.2.2.1 (C.a d) hr, hrun, hended, _, _, rfl, ⟨by subst eT; exact q, N⟩, ⟨_, rfl⟩, hW, hsame.mono hk hs⟩
theorem W.callS (C : Cx p s m meth c Z y bytes ml ret) {y' : MethodName} {index : Nat} {bytes' : ByteArray} {ml' : Nat} {ret' : Option FieldType} {rm : Room} {Q' : Option Value → Heap → Prop} (d : decode bytes pc = .ok (.invokestatic index, 3)) (w1 : (Jvm.Cond.methodLink y.cls index y').before a0 Z = true) (w2 : (Jvm.Cond.static y').before a0 Z = true) (w3 : (Jvm.Cond.initialized y'.cls).before a0 Z = true) (w4 : (Jvm.Cond.code y' bytes' ml' ret').before a0 Z = true) (hy : y'.cls ≠ "java/lang/invoke/MethodHandle" ∧ y'.cls ≠ "java/lang/invoke/VarHandle")
    {argsL rest : List Value} (hst : st = argsL.reverse ++ rest) (hlen : ∀ sig, parseMethodDescriptor y'.desc = some sig → argsL.length = sig.parameters.length) (D : Con l Z y' bytes' ml' ret' rm argsL.toArray h n0 Q') (w k' n' : Nat) (hW : (rest.map fun v => v.category).sum = w) (hk : k + rm.cells = k') (hn : n + rm.slots = n') (hf : rm.frames + 1 ≤ R.frames) (hl : w + (ml' + 11) + rm.locals ≤ R.locals) (hc : k' ≤ R.cells) (hs : n' ≤ R.slots) (hsz : ls.size = ml)
    (K : ∀ v h', Q' v h' → W p l e R s m args below meth c n0 Q kc ks k' n' h' (pc + 3) ls (v.toList ++ rest)) : W p l e R s m args below meth c n0 Q kc ks k n h pc ls st := fun T locs X eT N => by
  obtain ⟨_, _, ⟨T1, L1, k1, n1⟩, -, X1, ⟨Lc1, hQ1, l1, y1, z1⟩, st1⟩ := Jvm.LawKit.callS X C.1 (y := y') C.2.2.1 (mvT C.2.1 w1) (mvT C.2.1 w2) (mvT C.2.1 w3) (mvT C.2.1 w4) hy (backOf (W := w) (Q := fun v h' L => Q' v h' ∧ Fr n0 L) (D []) C.2.1 w4 w3 hf hl) (g := mkF m pc ls st) rfl (hsz.trans C.2.2.2.2.1.symm) (argsL := argsL) (rest := rest) hlen hst (by show 2 * 0 + _ ≤ _; omega) (C.a d) (fun _ _ => ⟨rfl, eT, by rw [hk]; exact hc, by rw [hn]; exact hs⟩)
  dsimp only [Pt.U, Pt.locs, Pt.cells, Pt.slots] at X1 l1 y1 z1 st1 hQ1
  subst l1
  rw [hk] at y1
  rw [hn] at z1
  subst y1 z1
  obtain ⟨s₂, o, g1, g2⟩ := K _ _ hQ1.1 T1 _ X1 rfl (Fr.app N hQ1.2)
  exact ⟨s₂, o, st1 _ g1, g2⟩
theorem W.callI (C : Cx p s m meth c Z y bytes ml ret) {y' : MethodName} {index : Nat} {bytes' : ByteArray} {ml' : Nat} {rm : Room} {Q' : Option Value → Heap → Prop} (d : decode bytes pc = .ok (.invokespecial index, 3)) (hi : y'.name = "<init>") (w1 : (Jvm.Cond.methodLink y.cls index y').before a0 Z = true) (w2 : (Jvm.Cond.instanceMethod y').before a0 Z = true) (w3 : (Jvm.Cond.initialized y'.cls).before a0 Z = true) (w4 : (Jvm.Cond.code y' bytes' ml' none).before a0 Z = true) (hy : y'.cls ≠ "java/lang/invoke/MethodHandle" ∧ y'.cls ≠ "java/lang/invoke/VarHandle")
    {a : Addr} {argsL rest : List Value} (hst : st = argsL.reverse ++ .ref a :: rest) (hlen : ∀ sig, parseMethodDescriptor y'.desc = some sig → argsL.length = sig.parameters.length) (D : Con l Z y' bytes' ml' none rm (.ref a :: argsL).toArray h n0 Q') (w k' n' : Nat) (hW : (rest.map fun v => v.category).sum = w) (hk : k + rm.cells = k') (hn : n + rm.slots = n') (hf : rm.frames + 1 ≤ R.frames) (hl : w + (ml' + 11) + rm.locals ≤ R.locals) (hc : k' ≤ R.cells) (hs : n' ≤ R.slots) (hsz : ls.size = ml)
    (K : ∀ v h', Q' v h' → W p l e R s m args below meth c n0 Q kc ks k' n' h' (pc + 3) ls (v.toList ++ rest)) : W p l e R s m args below meth c n0 Q kc ks k n h pc ls st := fun T locs X eT N => by
  obtain ⟨_, _, ⟨T1, L1, k1, n1⟩, -, X1, ⟨Lc1, hQ1, l1, y1, z1⟩, st1⟩ := X.specialBack C.1 (y := y') hi C.2.2.1 (mvT C.2.1 w1) (mvT C.2.1 w2) (mvT C.2.1 w4) hy (backOf (W := w) (Q := fun v h' L => Q' v h' ∧ Fr n0 L) (D []) C.2.1 w4 w3 hf hl) (g := mkF m pc ls st) rfl (hsz.trans C.2.2.2.2.1.symm) (Steps.refl _) (a := a) (argsL := argsL) (rest := rest) hlen hst (by show 2 * 0 + _ ≤ _; omega) (C.a d) (fun _ _ => ⟨rfl, eT, by rw [hk]; exact hc, by rw [hn]; exact hs⟩)
  dsimp only [Pt.U, Pt.locs, Pt.cells, Pt.slots] at X1 l1 y1 z1 st1 hQ1
  subst l1
  rw [hk] at y1
  rw [hn] at z1
  subst y1 z1
  obtain ⟨s₂, o, g1, g2⟩ := K _ _ hQ1.1 T1 _ X1 rfl (Fr.app N hQ1.2)
  exact ⟨s₂, o, st1.trans g1, g2⟩
theorem W.callV (C : Cx p s m meth c Z y bytes ml ret) {y' : MethodName} {K0 : String} {index : Nat} {bytes' : ByteArray} {ml' : Nat} {ret' : Option FieldType} {rm : Room} {Q' : Option Value → Heap → Prop} (d : decode bytes pc = .ok (.invokevirtual index, 3)) (w1 : (Jvm.Cond.methodLink y.cls index y').before a0 Z = true) (w2 : (Jvm.Cond.declares y').before a0 Z = true) (w5 : (Jvm.Cond.selects K0 y' y').before a0 Z = true) (w6 : (Jvm.Cond.instanceMethod y').before a0 Z = true) (w3 : (Jvm.Cond.initialized y'.cls).before a0 Z = true) (w4 : (Jvm.Cond.code y' bytes' ml' ret').before a0 Z = true) (hy : y'.cls ≠ "java/lang/invoke/MethodHandle" ∧ y'.cls ≠ "java/lang/invoke/VarHandle")
    {a : Addr} (E : Exa Z h a K0) {argsL rest : List Value} (hst : st = argsL.reverse ++ .ref a :: rest) (hlen : ∀ sig, parseMethodDescriptor y'.desc = some sig → argsL.length = sig.parameters.length) (D : Con l Z y' bytes' ml' ret' rm (.ref a :: argsL).toArray h n0 Q') (w k' n' : Nat) (hW : (rest.map fun v => v.category).sum = w) (hk : k + rm.cells = k') (hn : n + rm.slots = n') (hf : rm.frames + 1 ≤ R.frames) (hl : w + (ml' + 11) + rm.locals ≤ R.locals) (hc : k' ≤ R.cells) (hs : n' ≤ R.slots) (hsz : ls.size = ml)
    (K : ∀ v h', Q' v h' → W p l e R s m args below meth c n0 Q kc ks k' n' h' (pc + 3) ls (v.toList ++ rest)) : W p l e R s m args below meth c n0 Q kc ks k n h pc ls st := fun T locs X eT N => by
  obtain ⟨cq, kq, qa, qb, qc⟩ := isOf C.2.1 eT E
  obtain ⟨_, _, ⟨T1, L1, k1, n1⟩, -, X1, ⟨Lc1, hQ1, l1, y1, z1⟩, st1⟩ := X.virtualBack C.1 (y := y') (z := y') C.2.2.1 (mvT C.2.1 w1) (mvT C.2.1 w2) (notFace_of_selects (args := #[]) (mvT C.2.1 w5)) (mvT C.2.1 w5) (mvT C.2.1 w6) hy (backOf (W := w) (Q := fun v h' L => Q' v h' ∧ Fr n0 L) (D []) C.2.1 w4 w3 hf hl) qa qc (g := mkF m pc ls st) rfl (hsz.trans C.2.2.2.2.1.symm) (Steps.refl _) (argsL := argsL) (rest := rest) hlen hst (by show 2 * 0 + _ ≤ _; omega) (C.a d) (fun _ _ => ⟨rfl, eT, by rw [hk]; exact hc, by rw [hn]; exact hs⟩)
  dsimp only [Pt.U, Pt.locs, Pt.cells, Pt.slots] at X1 l1 y1 z1 st1 hQ1
  subst l1
  rw [hk] at y1
  rw [hn] at z1
  subst y1 z1
  obtain ⟨s₂, o, g1, g2⟩ := K _ _ hQ1.1 T1 _ X1 rfl (Fr.app N hQ1.2)
  exact ⟨s₂, o, st1.trans g1, g2⟩
theorem W.initO (C : Cx p s m meth c Z y bytes ml ret) {index : Nat} (d : decode bytes pc = .ok (.invokespecial index, 3)) (w1 : (Jvm.Cond.methodLink y.cls index Lib.objectInit).before a0 Z = true) (w2 : (Jvm.Cond.instanceMethod Lib.objectInit).before a0 Z = true) (w3 : (Jvm.Cond.code Lib.objectInit ⟨#[0xb1]⟩ 1 none).before a0 Z = true)
    {a : Addr} (w : Nat) (hW : (st.map fun v => v.category).sum = w) (hf : 1 ≤ R.frames) (hl : w + 12 ≤ R.locals) (hsz : ls.size = ml) (K : W p l e R s m args below meth c n0 Q kc ks k n h (pc + 3) ls st) : W p l e R s m args below meth c n0 Q kc ks k n h pc ls (.ref a :: st) := fun T locs X eT N => by
  obtain ⟨T1, X1, e1, st1⟩ := Jvm.RoadKit.initO X C.1 C.2.1 C.2.2.1 w1 w2 w3 eT (g := mkF m pc ls (.ref a :: st)) rfl (hsz.trans C.2.2.2.2.1.symm) rfl (C.a d) hf (W := w) (by show 2 * 0 + _ ≤ _; omega) hl
  obtain ⟨s₂, o, g1, g2⟩ := K T1 _ X1 e1 N
  exact ⟨s₂, o, st1 _ g1, g2⟩
theorem W.new (C : Cx p s m meth c Z y bytes ml ret) {index sz : Nat} {K0 : String} (d : decode bytes pc = .ok (.new index, 3)) (w1 : (Jvm.Cond.classLink y.cls index K0).before a0 Z = true) (w2 : (Jvm.Cond.instantiable K0 sz).before a0 Z = true) (w3 : (Jvm.Cond.initialized K0).before a0 Z = true) (k' n' : Nat) (hk : k + 1 = k') (hn : n + sz = n') (hc : k' ≤ R.cells) (hs : n' ≤ R.slots)
    (K : ∀ a h', a = h.size → Ext h h' → Exa Z h' a K0 → (∀ {O nm d : String} {ty : FieldType}, Laid Z a0 K0 O nm d → parseFieldDescriptor d = some ty → Fld Z h' a O nm d (defaultValue ty)) → W p l e R s m args below meth c n0 Q kc ks k' n' h' (pc + 3) ls (.ref a :: st)) : W p l e R s m args below meth c n0 Q kc ks k n h pc ls st := fun T locs X eT N => by
  subst hk hn
  obtain ⟨T1, h1, X1, e1, E1, A1, D1, -, st1⟩ := newO X C.1 C.2.1 C.2.2.1 w1 w2 w3 eT (g := mkF m pc ls st) rfl (C.a d) hc hs
  obtain ⟨s₂, o, g1, g2⟩ := K _ h1 rfl E1 A1 D1 T1 _ X1 e1 N
  exact ⟨s₂, o, st1 _ g1, g2⟩
theorem W.getF (C : Cx p s m meth c Z y bytes ml ret) {index : Nat} {R0 O nm dd : String} (d : decode bytes pc = .ok (.getfield index, 3)) (w : (Jvm.Cond.fieldLink y.cls index R0 nm dd).before a0 Z = true) (via : Via Z R0 O nm dd) {a : Addr} {v : Value} (F : Fld Z h a O nm dd v) (K : W p l e R s m args below meth c n0 Q kc ks k n h (pc + 3) ls (v :: st)) : W p l e R s m args below meth c n0 Q kc ks k n h pc ls (.ref a :: st) := fun T locs X eT N => by
  obtain ⟨T1, X1, e1, st1⟩ := Jvm.RoadKit.getF X C.1 C.2.1 C.2.2.1 (host := "") (Or.inl w) via eT F (g := mkF m pc ls (.ref a :: st)) rfl rfl (C.a d)
  obtain ⟨s₂, o, g1, g2⟩ := K T1 _ X1 e1 N
  exact ⟨s₂, o, st1 _ g1, g2⟩
theorem W.getFN (C : Cx p s m meth c Z y bytes ml ret) {index : Nat} {R0 O nm dd host : String} (d : decode bytes pc = .ok (.getfield index, 3)) (w : (Jvm.Cond.fieldLinkNest y.cls index R0 nm dd host).before a0 Z = true) (via : Via Z R0 O nm dd) {a : Addr} {v : Value} (F : Fld Z h a O nm dd v) (K : W p l e R s m args below meth c n0 Q kc ks k n h (pc + 3) ls (v :: st)) : W p l e R s m args below meth c n0 Q kc ks k n h pc ls (.ref a :: st) := fun T locs X eT N => by
  obtain ⟨T1, X1, e1, st1⟩ := Jvm.RoadKit.getF X C.1 C.2.1 C.2.2.1 (host := host) (Or.inr w) via eT F (g := mkF m pc ls (.ref a :: st)) rfl rfl (C.a d)
  obtain ⟨s₂, o, g1, g2⟩ := K T1 _ X1 e1 N
  exact ⟨s₂, o, st1 _ g1, g2⟩
theorem W.getS (C : Cx p s m meth c Z y bytes ml ret) {index : Nat} {R0 O nm dd : String} (d : decode bytes pc = .ok (.getstatic index, 3)) (w : (Jvm.Cond.fieldLink y.cls index R0 nm dd).before a0 Z = true) (via : Via Z R0 O nm dd) {v : Value} (F : Sta Z h O nm dd v) (K : W p l e R s m args below meth c n0 Q kc ks k n h (pc + 3) ls (v :: st)) : W p l e R s m args below meth c n0 Q kc ks k n h pc ls st := fun T locs X eT N => by
  obtain ⟨T1, X1, e1, st1⟩ := Jvm.RoadKit.getS X C.1 C.2.1 (host := "") C.2.2.1 w via eT F (g := mkF m pc ls st) rfl (C.a d)
  obtain ⟨s₂, o, g1, g2⟩ := K T1 _ X1 e1 N
  exact ⟨s₂, o, st1 _ g1, g2⟩
theorem W.putF (C : Cx p s m meth c Z y bytes ml ret) {index kk : Nat} {R0 O nm dd K0 : String} {ty : FieldType} (d : decode bytes pc = .ok (.putfield index, 3)) (w : (Jvm.Cond.fieldLink y.cls index R0 nm dd).before a0 Z = true) (via : Via Z R0 O nm dd) {a : Addr} {v old : Value} (F : Fld Z h a O nm dd old) (E : Exa Z h a K0) (L : (Jvm.Cond.lays K0 O nm dd).before a0 Z = true ∨ ((Jvm.Cond.laysFinal K0 O nm dd).before a0 Z = true ∧ y.cls = O ∧ y.name = "<init>")) (wi : (Jvm.Cond.instantiable K0 kk).before a0 Z = true)
    (hty : parseFieldDescriptor dd = some ty) (hn : narrow ty v = v) (hf : fits ty v = true) (g : n0 ≤ a) (K : ∀ h', Wr h h' a (Jvm.RoadKit.slotOf Z O nm dd) v → W p l e R s m args below meth c n0 Q kc ks k n h' (pc + 3) ls st) : W p l e R s m args below meth c n0 Q kc ks k n h pc ls (v :: .ref a :: st) := fun T locs X eT N => by
  obtain ⟨T1, h1, X1, e1, W1, st1⟩ := Jvm.RoadKit.putF X C.1 C.2.1 C.2.2.1 (host := "") (Or.inl w) via eT F E (L.imp id fun q => ⟨q.1, q.2.1, C.2.2.2.2.2.2.2.trans q.2.2⟩) wi hty hn hf (g := mkF m pc ls (v :: .ref a :: st)) rfl rfl (C.a d)
  obtain ⟨s₂, o, g1, g2⟩ := K h1 W1 T1 _ X1 e1 (Fr.snoc X1 N g)
  exact ⟨s₂, o, st1 _ g1, g2⟩
/-- an array at a of component type ty that holds vs -/
def Al (Z : State) (h : Heap) (a : Addr) (ty : FieldType) (vs : List Value) : Prop := ∃ c : Cell, Arr Z h a c ty ∧ c.slots = vs.toArray
theorem Al.lt {a : Addr} {ty : FieldType} {vs : List Value} (F : Al Z h a ty vs) : a < h.size := by obtain ⟨c, A, -⟩ := F; exact A.lt
theorem Al.ext {a : Addr} {ty : FieldType} {vs : List Value} {h' : Heap} (F : Al Z h a ty vs) (E : Ext h h') : Al Z h' a ty vs := by obtain ⟨c, A, r⟩ := F; exact ⟨c, A.ext E, r⟩
theorem Al.other {a b : Addr} {ty : FieldType} {vs : List Value} {h' : Heap} {sl : Nat} {v : Value} (F : Al Z h b ty vs) (U : Wr h h' a sl v) (q : b ≠ a) : Al Z h' b ty vs := by obtain ⟨c, A, r⟩ := F; exact ⟨c, A.other U q, r⟩
theorem Al.keep {a : Addr} {ty : FieldType} {vs : List Value} {h' : Heap} {ws : List Addr} (F : Al Z h a ty vs) (K : Keep h h' ws) (q : a ∉ ws) : Al Z h' a ty vs := by obtain ⟨c, A, r⟩ := F; exact ⟨c, ⟨K.2.1 a c A.1 q, A.2⟩, r⟩
theorem Al.set {a : Addr} {ty : FieldType} {vs : List Value} {h' : Heap} {i : Nat} {v : Value} (F : Al Z h a ty vs) (U : Wr h h' a i v) : Al Z h' a ty (vs.set i v) := by
  obtain ⟨c, A, r⟩ := F
  refine ⟨_, A.same U, ?_⟩
  simp [Cell.setSlot, r]
theorem idx_of {j : Int32} {i : Nat} (hi : j.toInt = (i : Int)) : ¬ j < 0 ∧ j.toNatClampNeg = i := by
  refine ⟨fun q => ?_, ?_⟩
  · rw [Int32.lt_iff_toInt_lt] at q
    have : (0 : Int32).toInt = 0 := rfl
    omega
  · show j.toInt.toNat = i
    omega
theorem inb_of_idx {j : Int32} {i : Nat} {cl : Cell} {vs : List Value} (hi : j.toInt = (i : Int)) (r : cl.slots = vs.toArray) (hb : i < vs.length) : ¬ (j < 0 ∨ cl.slots.size ≤ j.toNatClampNeg) := by
  obtain ⟨q1, q2⟩ := idx_of hi
  rw [q2, r]
  simp only [List.size_toArray]
  rintro (z | z)
  · exact q1 z
  · omega
theorem W.arrlen (C : Cx p s m meth c Z y bytes ml ret) {a : Addr} {ty : FieldType} {vs : List Value} (z : Int32) (d : decode bytes pc = .ok (.arraylength, 1)) (A : Al Z h a ty vs) (hz : vs.length.toInt32 = z) (K : W p l e R s m args below meth c n0 Q kc ks k n h (pc + 1) ls (.int z :: st)) : W p l e R s m args below meth c n0 Q kc ks k n h pc ls (.ref a :: st) := fun T locs X eT N => by
  obtain ⟨cl, A, r⟩ := A
  obtain ⟨s₂, o, g1, g2⟩ := K T locs X eT N
  refine ⟨s₂, o, X.arraylength C.1 (by rw [eT]; exact A.1) (State.isArrayOf_alike C.2.1.alike A.2.1) (g := mkF m pc ls (.ref a :: st)) rfl rfl (C.a d) _ ?_, g2⟩
  have : cl.slots.size.toInt32 = z := by rw [r]; simpa using hz
  rw [this]; exact g1
theorem W.iaload (C : Cx p s m meth c Z y bytes ml ret) {a : Addr} {vs : List Value} {j : Int32} (i : Nat) {v : Value} (d : decode bytes pc = .ok (.iaload, 1)) (A : Al Z h a .int vs) (hi : j.toInt = (i : Int)) (hv : vs[i]? = some v) (K : W p l e R s m args below meth c n0 Q kc ks k n h (pc + 1) ls (v :: st)) : W p l e R s m args below meth c n0 Q kc ks k n h pc ls (.int j :: .ref a :: st) := fun T locs X eT N => by
  obtain ⟨cl, A, r⟩ := A
  obtain ⟨s₂, o, g1, g2⟩ := K T locs X eT N
  have hb : i < vs.length := (List.getElem?_eq_some_iff.mp hv).1
  exact ⟨s₂, o, X.iaload C.1 (j := j) (v := v) (by rw [eT]; exact A.1) (State.isArrayOf_alike C.2.1.alike A.2.1) A.2.2 (inb_of_idx hi r hb) (by rw [(idx_of hi).2, r]; simpa using hv) (g := mkF m pc ls (.int j :: .ref a :: st)) rfl rfl (C.a d) _ g1, g2⟩
theorem W.laload (C : Cx p s m meth c Z y bytes ml ret) {a : Addr} {vs : List Value} {j : Int32} (i : Nat) {v : Value} (d : decode bytes pc = .ok (.laload, 1)) (A : Al Z h a .long vs) (hi : j.toInt = (i : Int)) (hv : vs[i]? = some v) (K : W p l e R s m args below meth c n0 Q kc ks k n h (pc + 1) ls (v :: st)) : W p l e R s m args below meth c n0 Q kc ks k n h pc ls (.int j :: .ref a :: st) := fun T locs X eT N => by
  obtain ⟨cl, A, r⟩ := A
  obtain ⟨s₂, o, g1, g2⟩ := K T locs X eT N
  have hb : i < vs.length := (List.getElem?_eq_some_iff.mp hv).1
  exact ⟨s₂, o, X.laload C.1 (j := j) (v := v) (by rw [eT]; exact A.1) (State.isArrayOf_alike C.2.1.alike A.2.1) A.2.2 (inb_of_idx hi r hb) (by rw [(idx_of hi).2, r]; simpa using hv) (g := mkF m pc ls (.int j :: .ref a :: st)) rfl rfl (C.a d) _ g1, g2⟩
theorem W.baload (C : Cx p s m meth c Z y bytes ml ret) {a : Addr} {vs : List Value} {j : Int32} (i : Nat) {v : Value} (d : decode bytes pc = .ok (.baload, 1)) (A : Al Z h a .byte vs) (hi : j.toInt = (i : Int)) (hv : vs[i]? = some v) (K : W p l e R s m args below meth c n0 Q kc ks k n h (pc + 1) ls (v :: st)) : W p l e R s m args below meth c n0 Q kc ks k n h pc ls (.int j :: .ref a :: st) := fun T locs X eT N => by
  obtain ⟨cl, A, r⟩ := A
  obtain ⟨s₂, o, g1, g2⟩ := K T locs X eT N
  have hb : i < vs.length := (List.getElem?_eq_some_iff.mp hv).1
  exact ⟨s₂, o, X.baloadBytes C.1 (j := j) (v := v) (by rw [eT]; exact A.1) (State.isArrayOf_alike C.2.1.alike A.2.1) A.2.2 (inb_of_idx hi r hb) (by rw [(idx_of hi).2, r]; simpa using hv) (g := mkF m pc ls (.int j :: .ref a :: st)) rfl rfl (C.a d) _ g1, g2⟩
theorem W.caload (C : Cx p s m meth c Z y bytes ml ret) {a : Addr} {vs : List Value} {j : Int32} (i : Nat) {v : Value} (d : decode bytes pc = .ok (.caload, 1)) (A : Al Z h a .char vs) (hi : j.toInt = (i : Int)) (hv : vs[i]? = some v) (K : W p l e R s m args below meth c n0 Q kc ks k n h (pc + 1) ls (v :: st)) : W p l e R s m args below meth c n0 Q kc ks k n h pc ls (.int j :: .ref a :: st) := fun T locs X eT N => by
  obtain ⟨cl, A, r⟩ := A
  obtain ⟨s₂, o, g1, g2⟩ := K T locs X eT N
  have hb : i < vs.length := (List.getElem?_eq_some_iff.mp hv).1
  exact ⟨s₂, o, X.caload C.1 (j := j) (v := v) (by rw [eT]; exact A.1) (State.isArrayOf_alike C.2.1.alike A.2.1) A.2.2 (inb_of_idx hi r hb) (by rw [(idx_of hi).2, r]; simpa using hv) (g := mkF m pc ls (.int j :: .ref a :: st)) rfl rfl (C.a d) _ g1, g2⟩
theorem W.zaload (C : Cx p s m meth c Z y bytes ml ret) {a : Addr} {vs : List Value} {j : Int32} (i : Nat) {v : Value} (d : decode bytes pc = .ok (.baload, 1)) (A : Al Z h a .boolean vs) (hi : j.toInt = (i : Int)) (hv : vs[i]? = some v) (K : W p l e R s m args below meth c n0 Q kc ks k n h (pc + 1) ls (v :: st)) : W p l e R s m args below meth c n0 Q kc ks k n h pc ls (.int j :: .ref a :: st) := fun T locs X eT N => by
  obtain ⟨cl, A, r⟩ := A
  obtain ⟨s₂, o, g1, g2⟩ := K T locs X eT N
  have hb : i < vs.length := (List.getElem?_eq_some_iff.mp hv).1
  exact ⟨s₂, o, X.baloadBooleans C.1 (j := j) (v := v) (by rw [eT]; exact A.1) (State.isArrayOf_alike C.2.1.alike A.2.1) A.2.2 (inb_of_idx hi r hb) (by rw [(idx_of hi).2, r]; simpa using hv) (g := mkF m pc ls (.int j :: .ref a :: st)) rfl rfl (C.a d) _ g1, g2⟩
theorem W.aaload (C : Cx p s m meth c Z y bytes ml ret) {a : Addr} {ty : FieldType} {vs : List Value} {j : Int32} (i : Nat) {v : Value} (d : decode bytes pc = .ok (.aaload, 1)) (A : Al Z h a ty vs) (hty : ty.isReference = true) (hi : j.toInt = (i : Int)) (hv : vs[i]? = some v) (K : W p l e R s m args below meth c n0 Q kc ks k n h (pc + 1) ls (v :: st)) : W p l e R s m args below meth c n0 Q kc ks k n h pc ls (.int j :: .ref a :: st) := fun T locs X eT N => by
  obtain ⟨cl, A, r⟩ := A
  obtain ⟨s₂, o, g1, g2⟩ := K T locs X eT N
  have hb : i < vs.length := (List.getElem?_eq_some_iff.mp hv).1
  exact ⟨s₂, o, X.aaload C.1 (j := j) (v := v) (by rw [eT]; exact A.1) (State.isArrayOf_alike C.2.1.alike A.2.1) hty A.2.2 (inb_of_idx hi r hb) (by rw [(idx_of hi).2, r]; simpa using hv) (g := mkF m pc ls (.int j :: .ref a :: st)) rfl rfl (C.a d) _ g1, g2⟩
theorem W.iastore (C : Cx p s m meth c Z y bytes ml ret) {a : Addr} {vs : List Value} {j : Int32} {x : Int32} (i : Nat) (d : decode bytes pc = .ok (.iastore, 1)) (A : Al Z h a .int vs) (hi : j.toInt = (i : Int)) (hb : i < vs.length) (g : n0 ≤ a) (K : ∀ h', Wr h h' a i (.int x) → Al Z h' a .int (vs.set i (.int x)) → W p l e R s m args below meth c n0 Q kc ks k n h' (pc + 1) ls st) : W p l e R s m args below meth c n0 Q kc ks k n h pc ls (.int x :: .int j :: .ref a :: st) := fun T locs X eT N => by
  obtain ⟨cl, A, r⟩ := A
  obtain ⟨T1, h1, X1, e1, W1, st1⟩ := stI X C.1 C.2.1 eT A (j := j) (x := x) (inb_of_idx hi r hb) (g := mkF m pc ls (.int x :: .int j :: .ref a :: st)) rfl rfl (C.a d)
  have N1 := Fr.snoc X1 N g
  rw [(idx_of hi).2] at W1
  obtain ⟨s₂, o, g1, g2⟩ := K h1 W1 (Al.set ⟨cl, A, r⟩ W1) T1 _ X1 e1 N1
  exact ⟨s₂, o, st1 _ g1, g2⟩
theorem W.lastore (C : Cx p s m meth c Z y bytes ml ret) {a : Addr} {vs : List Value} {j : Int32} {x : Int64} (i : Nat) (d : decode bytes pc = .ok (.lastore, 1)) (A : Al Z h a .long vs) (hi : j.toInt = (i : Int)) (hb : i < vs.length) (g : n0 ≤ a) (K : ∀ h', Wr h h' a i (.long x) → Al Z h' a .long (vs.set i (.long x)) → W p l e R s m args below meth c n0 Q kc ks k n h' (pc + 1) ls st) : W p l e R s m args below meth c n0 Q kc ks k n h pc ls (.long x :: .int j :: .ref a :: st) := fun T locs X eT N => by
  obtain ⟨cl, A, r⟩ := A
  obtain ⟨T1, h1, X1, e1, W1, st1⟩ := stJ X C.1 C.2.1 eT A (j := j) (x := x) (inb_of_idx hi r hb) (g := mkF m pc ls (.long x :: .int j :: .ref a :: st)) rfl rfl (C.a d)
  have N1 := Fr.snoc X1 N g
  rw [(idx_of hi).2] at W1
  obtain ⟨s₂, o, g1, g2⟩ := K h1 W1 (Al.set ⟨cl, A, r⟩ W1) T1 _ X1 e1 N1
  exact ⟨s₂, o, st1 _ g1, g2⟩
theorem W.bastore (C : Cx p s m meth c Z y bytes ml ret) {a : Addr} {vs : List Value} {j : Int32} {x : Int32} (i : Nat) (d : decode bytes pc = .ok (.bastore, 1)) (A : Al Z h a .byte vs) (hi : j.toInt = (i : Int)) (hb : i < vs.length) (g : n0 ≤ a) (K : ∀ h', Wr h h' a i (.int x.toInt8.toInt32) → Al Z h' a .byte (vs.set i (.int x.toInt8.toInt32)) → W p l e R s m args below meth c n0 Q kc ks k n h' (pc + 1) ls st) : W p l e R s m args below meth c n0 Q kc ks k n h pc ls (.int x :: .int j :: .ref a :: st) := fun T locs X eT N => by
  obtain ⟨cl, A, r⟩ := A
  obtain ⟨T1, h1, X1, e1, W1, st1⟩ := stB X C.1 C.2.1 eT A (j := j) (x := x) (inb_of_idx hi r hb) (g := mkF m pc ls (.int x :: .int j :: .ref a :: st)) rfl rfl (C.a d)
  have N1 := Fr.snoc X1 N g
  rw [(idx_of hi).2] at W1
  obtain ⟨s₂, o, g1, g2⟩ := K h1 W1 (Al.set ⟨cl, A, r⟩ W1) T1 _ X1 e1 N1
  exact ⟨s₂, o, st1 _ g1, g2⟩
theorem W.castore (C : Cx p s m meth c Z y bytes ml ret) {a : Addr} {vs : List Value} {j : Int32} {x : Int32} (i : Nat) (d : decode bytes pc = .ok (.castore, 1)) (A : Al Z h a .char vs) (hi : j.toInt = (i : Int)) (hb : i < vs.length) (g : n0 ≤ a) (K : ∀ h', Wr h h' a i (.int x.toUInt32.toUInt16.toUInt32.toInt32) → Al Z h' a .char (vs.set i (.int x.toUInt32.toUInt16.toUInt32.toInt32)) → W p l e R s m args below meth c n0 Q kc ks k n h' (pc + 1) ls st) : W p l e R s m args below meth c n0 Q kc ks k n h pc ls (.int x :: .int j :: .ref a :: st) := fun T locs X eT N => by
  obtain ⟨cl, A, r⟩ := A
  obtain ⟨T1, h1, X1, e1, W1, st1⟩ := stC X C.1 C.2.1 eT A (j := j) (x := x) (inb_of_idx hi r hb) (g := mkF m pc ls (.int x :: .int j :: .ref a :: st)) rfl rfl (C.a d)
  have N1 := Fr.snoc X1 N g
  rw [(idx_of hi).2] at W1
  obtain ⟨s₂, o, g1, g2⟩ := K h1 W1 (Al.set ⟨cl, A, r⟩ W1) T1 _ X1 e1 N1
  exact ⟨s₂, o, st1 _ g1, g2⟩
theorem W.zastore (C : Cx p s m meth c Z y bytes ml ret) {a : Addr} {vs : List Value} {j : Int32} {x : Int32} (i : Nat) (d : decode bytes pc = .ok (.bastore, 1)) (A : Al Z h a .boolean vs) (hi : j.toInt = (i : Int)) (hb : i < vs.length) (g : n0 ≤ a) (K : ∀ h', Wr h h' a i (.int (x &&& 1)) → Al Z h' a .boolean (vs.set i (.int (x &&& 1))) → W p l e R s m args below meth c n0 Q kc ks k n h' (pc + 1) ls st) : W p l e R s m args below meth c n0 Q kc ks k n h pc ls (.int x :: .int j :: .ref a :: st) := fun T locs X eT N => by
  obtain ⟨cl, A, r⟩ := A
  obtain ⟨T1, h1, X1, e1, W1, st1⟩ := stZ X C.1 C.2.1 eT A (j := j) (x := x) (inb_of_idx hi r hb) (g := mkF m pc ls (.int x :: .int j :: .ref a :: st)) rfl rfl (C.a d)
  have N1 := Fr.snoc X1 N g
  rw [(idx_of hi).2] at W1
  obtain ⟨s₂, o, g1, g2⟩ := K h1 W1 (Al.set ⟨cl, A, r⟩ W1) T1 _ X1 e1 N1
  exact ⟨s₂, o, st1 _ g1, g2⟩
theorem i8_i8 (y : Int32) : y.toInt8.toInt32.toInt8.toInt32 = y.toInt8.toInt32 := by simp
theorem W.bastoreI (C : Cx p s m meth c Z y bytes ml ret) {a : Addr} {vs : List Value} {j : Int32} {x : Int32} (i : Nat) (d : decode bytes pc = .ok (.bastore, 1)) (A : Al Z h a .byte vs) (hi : j.toInt = (i : Int)) (hb : i < vs.length) (g : n0 ≤ a) (K : ∀ h', Wr h h' a i (.int x.toInt8.toInt32) → Al Z h' a .byte (vs.set i (.int x.toInt8.toInt32)) → W p l e R s m args below meth c n0 Q kc ks k n h' (pc + 1) ls st) : W p l e R s m args below meth c n0 Q kc ks k n h pc ls (.int x.toInt8.toInt32 :: .int j :: .ref a :: st) :=
  W.bastore C i d A hi hb g (by rw [i8_i8]; exact K)
theorem W.newP (C : Cx p s m meth c Z y bytes ml ret) {aty : ArrayType} {nn : Int32} (sz cap : Nat) (d : decode bytes pc = .ok (.newarray aty, 2)) (w : (Jvm.Cond.arrayClass (newarray.typeOf aty)).before a0 Z = true) (hn : nn.toInt = (sz : Int)) (hcap : sz ≤ cap) (hb : cap * 8 ≤ 536870912) (k' n' : Nat) (hk : k + 1 = k') (hn' : n + cap = n') (hc : k' ≤ R.cells) (hl : n' ≤ R.slots)
    (K : ∀ a h', a = h.size → Ext h h' → Al Z h' a (newarray.typeOf aty) (List.replicate sz (defaultValue (newarray.typeOf aty))) → W p l e R s m args below meth c n0 Q kc ks k' n' h' (pc + 2) ls (.ref a :: st)) : W p l e R s m args below meth c n0 Q kc ks k n h pc ls (.int nn :: st) := fun T locs X eT N => by
  subst hk hn'
  obtain ⟨T1, h1, cA, X1, e1, E1, A1, st1⟩ := Jvm.RoadKit.newP X C.1 C.2.1 w eT (g := mkF m pc ls (.int nn :: st)) rfl (C.a d) rfl (idx_of hn).1 (cap := cap) (by rw [(idx_of hn).2]; exact hcap) hb hc hl
  obtain ⟨s₂, o, g1, g2⟩ := K _ h1 rfl E1 ⟨_, A1, by simp [newA, (idx_of hn).2]⟩ T1 _ X1 e1 N
  exact ⟨s₂, o, st1 _ g1, g2⟩
theorem Al.arv {a : Addr} {ty : FieldType} {vs : List Value} {dv : Value} (F : Al Z h a ty vs) (hl : vs.length < 2147483648) (hf : ∀ v ∈ vs, fits ty v = true) : ∃ k, Arv Z h a k ty vs.length.toInt32 vs dv := by
  obtain ⟨c, A, r⟩ := F
  have hs : c.slots.size = vs.length := by rw [r]; simp
  have hz : (vs.length.toInt32).toInt = vs.length := len_toInt hl
  obtain ⟨q1, q2⟩ := idx_of hz
  refine ⟨c.cls, c, A, rfl, by rw [hs, q2], q1, fun i hi => ?_, fun i hi => ?_⟩
  · rw [hs] at hi
    rw [r]; simp [List.getD_eq_getElem?_getD, List.getElem?_eq_getElem hi]
  · rw [hs] at hi
    have : vs.getD i dv = vs[i] := by simp [List.getD_eq_getElem?_getD, List.getElem?_eq_getElem hi]
    rw [this]; exact hf _ (List.getElem_mem hi)
theorem Al.of_arv {a : Addr} {k : ClassId} {ty : FieldType} {z : Int32} {vs : List Value} {dv : Value} (F : Arv Z h a k ty z vs dv) (hl : z.toNatClampNeg = vs.length) : Al Z h a ty vs := by
  obtain ⟨c, A, -, r2, -, H, -⟩ := F
  refine ⟨c, A, ?_⟩
  have hs : c.slots.size = vs.length := r2.trans hl
  apply Array.ext_getElem?
  intro i
  by_cases hi : i < vs.length
  · rw [H i (by rw [hs]; exact hi)]; simp [List.getD_eq_getElem?_getD, List.getElem?_eq_getElem hi]
  · rw [Array.getElem?_eq_none (by rw [hs]; omega)]; simp; omega
theorem cut_map (va : List Value) (dv : Value) (i q : Nat) (h : i + q ≤ va.length) : (List.range q).map (fun t => va.getD (i + t) dv) = (va.drop i).take q := by
  apply List.ext_getElem?
  intro t
  by_cases ht : t < q
  · have h1 : i + t < va.length := by omega
    simp [List.getElem?_take, ht, List.getD_eq_getElem?_getD, List.getElem?_eq_getElem h1]
  · simp [List.getElem?_take, ht]
theorem W.arrcopy (C : Cx p s m meth c Z y bytes ml ret) {index : Nat} {a b : Addr} {ty : FieldType} {va vd : List Value} {sp dp nn : Int32} (i j q : Nat) (d : decode bytes pc = .ok (.invokestatic index, 3)) (w1 : (Jvm.Cond.methodLink y.cls index Jvm.Stand.acN).before a0 Z = true) (w2 : (Jvm.Cond.native Jvm.Stand.acN).before a0 Z = true) (w3 : (Jvm.Cond.static Jvm.Stand.acN).before a0 Z = true) (w4 : (Jvm.Cond.initialized "java/lang/System").before a0 Z = true)
    (A : Al Z h a ty va) (B : Al Z h b ty vd) (hty : refKind ty = false) (hfa : ∀ v ∈ va, fits ty v = true) (hfb : ∀ v ∈ vd, fits ty v = true) (hla : va.length < 2147483648) (hlb : vd.length < 2147483648) (hsp : sp.toInt = (i : Int)) (hdp : dp.toInt = (j : Int)) (hnn : nn.toInt = (q : Int)) (h4 : i + q ≤ va.length) (h5 : j + q ≤ vd.length) (ge : n0 ≤ b)
    (w : Nat) (hW : (st.map fun v => v.category).sum = w) (hf : 1 ≤ R.frames) (hlo : w + (nativeFrameWords "java/lang/System" "arraycopy" 5 + 11) ≤ R.locals) (hsz : ls.size = ml)
    (K : ∀ h', Keep h h' [b] → Al Z h' b ty (vd.take j ++ (va.drop i).take q ++ vd.drop (j + q)) → W p l e R s m args below meth c n0 Q kc ks k n h' (pc + 3) ls st) : W p l e R s m args below meth c n0 Q kc ks k n h pc ls (.int nn :: .int dp :: .ref b :: .int sp :: .ref a :: st) := fun T locs X eT N => by
  obtain ⟨ka, A⟩ := A.arv (dv := .null) hla hfa
  obtain ⟨kb, B⟩ := B.arv (dv := .null) hlb hfb
  obtain ⟨s1, s2⟩ := idx_of hsp
  obtain ⟨d1, d2⟩ := idx_of hdp
  obtain ⟨n1, n2⟩ := idx_of hnn
  have za := (idx_of (len_toInt hla)).2
  have zb := (idx_of (len_toInt hlb)).2
  obtain ⟨T1, h1, L1, X1, e1, N1, K1, B1, st1⟩ := cpA X C.1 C.2.1 C.2.2.1 w1 w2 w3 w4 eT A B (Or.inl ⟨rfl, hty⟩) s1 d1 n1 (by rw [s2, n2, za]; exact h4) (by rw [d2, n2, zb]; exact h5) rfl (by rw [d2, n2]; exact h5) N ge (g := mkF m pc ls (.int nn :: .int dp :: .ref b :: .int sp :: .ref a :: st)) rfl (hsz.trans C.2.2.2.2.1.symm) rfl (C.a d) hf (W := w) (by show 2 * 0 + _ ≤ _; omega) hlo
  rw [s2, d2, n2, cut_map va .null i q h4] at B1
  have B2 : Al Z h1 b ty (vd.take j ++ (va.drop i).take q ++ vd.drop (j + q)) := Al.of_arv B1 (by rw [zb]; simp; omega)
  obtain ⟨s₂, o, g1, g2⟩ := K h1 K1 B2 T1 _ X1 e1 N1
  exact ⟨s₂, o, st1 _ g1, g2⟩
theorem W.clone (C : Cx p s m meth c Z y bytes ml ret) {index : Nat} {ad : String} {a : Addr} {ty : FieldType} {vs : List Value} (cap : Nat) (d : decode bytes pc = .ok (.invokevirtual index, 3)) (w1 : (Jvm.Cond.methodLink y.cls index ⟨ad, "clone", "()Ljava/lang/Object;"⟩).before a0 Z = true) (w2 : (Jvm.Cond.sameMethod ad "java/lang/Object" "clone" "()Ljava/lang/Object;").before a0 Z = true) (w3 : (Jvm.Cond.native ⟨"java/lang/Object", "clone", "()Ljava/lang/Object;"⟩).before a0 Z = true)
    (w4 : (Jvm.Cond.instanceMethod ⟨"java/lang/Object", "clone", "()Ljava/lang/Object;"⟩).before a0 Z = true) (w5 : (Jvm.Cond.selects ad ⟨ad, "clone", "()Ljava/lang/Object;"⟩ ⟨"java/lang/Object", "clone", "()Ljava/lang/Object;"⟩).before a0 Z = true) (w6 : (Jvm.Cond.castable ad "java/lang/Cloneable").before a0 Z = true)
    (A : Al Z h a ty vs) (E : Exa Z h a ad) (hfa : ∀ v ∈ vs, fits ty v = true) (hla : vs.length < 2147483648) (w k' n' : Nat) (hW : (st.map fun v => v.category).sum = w) (hf : 1 ≤ R.frames) (hlo : w + 14 ≤ R.locals) (hcap : vs.length ≤ cap) (hk : k + 1 = k') (hn : n + cap = n') (hc : k' ≤ R.cells) (hs : n' ≤ R.slots) (hsz : ls.size = ml)
    (K : ∀ a' h', a' = h.size → Ext h h' → Al Z h' a' ty vs → Exa Z h' a' ad → W p l e R s m args below meth c n0 Q kc ks k' n' h' (pc + 3) ls (.ref a' :: st)) : W p l e R s m args below meth c n0 Q kc ks k n h pc ls (.ref a :: st) := fun T locs X eT N => by
  subst hk hn
  obtain ⟨ka, A⟩ := A.arv (dv := .null) hla hfa
  have za := (idx_of (len_toInt hla)).2
  obtain ⟨T1, h1, X1, e1, E1, B1, G1, st1⟩ := cloneH X C.1 C.2.1 C.2.2.1 w1 w2 w3 w4 w5 w6 eT A.arh E (g := mkF m pc ls (.ref a :: st)) rfl (hsz.trans C.2.2.2.2.1.symm) rfl (C.a d) hf (W := w) (cap := cap) (by show 2 * 0 + _ ≤ _; omega) hlo (by rw [za]; exact hcap) hc hs
  obtain ⟨s₂, o, g1, g2⟩ := K _ h1 rfl E1 (Al.of_arv (show Arv Z h1 h.size ka ty vs.length.toInt32 vs .null from B1) za) G1 T1 _ X1 e1 N
  exact ⟨s₂, o, st1 _ g1, g2⟩
theorem W.cast (C : Cx p s m meth c Z y bytes ml ret) {index : Nat} {K0 : String} {a : Addr} (d : decode bytes pc = .ok (.checkcast index, 3)) (w1 : (Jvm.Cond.classLink y.cls index K0).before a0 Z = true) (I : Ins Z h a K0 true) (K : W p l e R s m args below meth c n0 Q kc ks k n h (pc + 3) ls (.ref a :: st)) : W p l e R s m args below meth c n0 Q kc ks k n h pc ls (.ref a :: st) := fun T locs X eT N => by
  obtain ⟨T1, X1, e1, st1⟩ := castY X C.1 C.2.1 C.2.2.1 w1 eT I (g := mkF m pc ls (.ref a :: st)) rfl rfl (C.a d)
  obtain ⟨s₂, o, g1, g2⟩ := K T1 _ X1 e1 N
  exact ⟨s₂, o, st1 _ g1, g2⟩
/-- an array of references, of the class k0 -/
def Alr (Z : State) (h : Heap) (a : Addr) (k0 : ClassId) (ty : FieldType) (vs : List Value) : Prop := ∃ c : Cell, Arr Z h a c ty ∧ c.cls = k0 ∧ c.slots = vs.toArray
theorem Alr.al {a : Addr} {k0 : ClassId} {ty : FieldType} {vs : List Value} (F : Alr Z h a k0 ty vs) : Al Z h a ty vs := by obtain ⟨c, A, -, r⟩ := F; exact ⟨c, A, r⟩
theorem Alr.lt {a : Addr} {k0 : ClassId} {ty : FieldType} {vs : List Value} (F : Alr Z h a k0 ty vs) : a < h.size := F.al.lt
theorem Alr.ext {a : Addr} {k0 : ClassId} {ty : FieldType} {vs : List Value} {h' : Heap} (F : Alr Z h a k0 ty vs) (E : Ext h h') : Alr Z h' a k0 ty vs := by obtain ⟨c, A, r⟩ := F; exact ⟨c, A.ext E, r⟩
theorem Alr.other {a b : Addr} {k0 : ClassId} {ty : FieldType} {vs : List Value} {h' : Heap} {sl : Nat} {v : Value} (F : Alr Z h b k0 ty vs) (U : Wr h h' a sl v) (q : b ≠ a) : Alr Z h' b k0 ty vs := by obtain ⟨c, A, r⟩ := F; exact ⟨c, A.other U q, r⟩
theorem Alr.keep {a : Addr} {k0 : ClassId} {ty : FieldType} {vs : List Value} {h' : Heap} {ws : List Addr} (F : Alr Z h a k0 ty vs) (K : Keep h h' ws) (q : a ∉ ws) : Alr Z h' a k0 ty vs := by obtain ⟨c, A, r⟩ := F; exact ⟨c, ⟨K.2.1 a c A.1 q, A.2⟩, r⟩
theorem W.newRA (C : Cx p s m meth c Z y bytes ml ret) {index : Nat} {ty : FieldType} {K0 ad : String} {nn : Int32} (sz cap : Nat) (d : decode bytes pc = .ok (.anewarray index, 3)) (hC : (FieldType.array ty).toString = K0) (w1 : (Jvm.Cond.classLink y.cls index K0).before a0 Z = true) (w2 : (Jvm.Cond.arrayOver (.array ty)).before a0 Z = true) (had : "[" ++ K0 = ad) (hn : nn.toInt = (sz : Int)) (hcap : sz ≤ cap) (hb : cap * 8 ≤ 536870912) (k' n' : Nat) (hk : k + 1 = k') (hn' : n + cap = n') (hc : k' ≤ R.cells) (hl : n' ≤ R.slots)
    (K : ∀ a h' k0, a = h.size → Ext h h' → Alr Z h' a k0 (.array ty) (List.replicate sz .null) → OvrA Z k0 ty K0 → Exa Z h' a ad → W p l e R s m args below meth c n0 Q kc ks k' n' h' (pc + 3) ls (.ref a :: st)) : W p l e R s m args below meth c n0 Q kc ks k n h pc ls (.int nn :: st) := fun T locs X eT N => by
  subst hk hn'
  obtain ⟨T1, h1, cA, X1, e1, E1, A1, G1, O1, st1⟩ := Jvm.RoadKit.newRA X C.1 C.2.1 C.2.2.1 hC w1 w2 eT (g := mkF m pc ls (.int nn :: st)) rfl (C.a d) rfl (idx_of hn).1 (cap := cap) (by rw [(idx_of hn).2]; exact hcap) hb hc hl had
  obtain ⟨s₂, o, g1, g2⟩ := K _ h1 cA rfl E1 ⟨_, A1, rfl, by simp [newA, (idx_of hn).2, defaultValue]⟩ O1 G1 T1 _ X1 e1 N
  exact ⟨s₂, o, st1 _ g1, g2⟩
theorem W.newPE (C : Cx p s m meth c Z y bytes ml ret) {aty : ArrayType} {nn : Int32} {ad : String} (sz cap : Nat) (d : decode bytes pc = .ok (.newarray aty, 2)) (w : (Jvm.Cond.arrayClass (newarray.typeOf aty)).before a0 Z = true) (had : "[" ++ (newarray.typeOf aty).toString = ad) (hn : nn.toInt = (sz : Int)) (hcap : sz ≤ cap) (hb : cap * 8 ≤ 536870912) (k' n' : Nat) (hk : k + 1 = k') (hn' : n + cap = n') (hc : k' ≤ R.cells) (hl : n' ≤ R.slots)
    (K : ∀ a h', a = h.size → Ext h h' → Al Z h' a (newarray.typeOf aty) (List.replicate sz (defaultValue (newarray.typeOf aty))) → Exa Z h' a ad → W p l e R s m args below meth c n0 Q kc ks k' n' h' (pc + 2) ls (.ref a :: st)) : W p l e R s m args below meth c n0 Q kc ks k n h pc ls (.int nn :: st) := fun T locs X eT N => by
  subst hk hn'
  obtain ⟨T1, h1, cA, X1, e1, E1, A1, G1, st1⟩ := Jvm.RoadKit.newPE X C.1 C.2.1 w eT (g := mkF m pc ls (.int nn :: st)) rfl (C.a d) rfl (idx_of hn).1 (cap := cap) (by rw [(idx_of hn).2]; exact hcap) hb hc hl had
  obtain ⟨s₂, o, g1, g2⟩ := K _ h1 rfl E1 ⟨_, A1, by simp [newA, (idx_of hn).2]⟩ G1 T1 _ X1 e1 N
  exact ⟨s₂, o, st1 _ g1, g2⟩
theorem W.aastoreA (C : Cx p s m meth c Z y bytes ml ret) {a b : Addr} {k0 : ClassId} {ty : FieldType} {K0 : String} {vs : List Value} {j : Int32} (i : Nat) (d : decode bytes pc = .ok (.aastore, 1)) (A : Alr Z h a k0 (.array ty) vs) (O : OvrA Z k0 ty K0) (I : Ins Z h b K0 true) (hi : j.toInt = (i : Int)) (hb : i < vs.length) (g : n0 ≤ a) (K : ∀ h', Wr h h' a i (.ref b) → Alr Z h' a k0 (.array ty) (vs.set i (.ref b)) → W p l e R s m args below meth c n0 Q kc ks k n h' (pc + 1) ls st) : W p l e R s m args below meth c n0 Q kc ks k n h pc ls (.ref b :: .int j :: .ref a :: st) := fun T locs X eT N => by
  obtain ⟨cl, A, q0, r⟩ := A
  obtain ⟨T1, h1, X1, e1, W1, st1⟩ := stR X C.1 C.2.1 eT A (j := j) (inb_of_idx hi r hb) rfl (Sto.ofVA A q0 O I) (g := mkF m pc ls (.ref b :: .int j :: .ref a :: st)) rfl rfl (C.a d)
  have N1 := Fr.snoc X1 N g
  rw [(idx_of hi).2] at W1
  obtain ⟨s₂, o, g1, g2⟩ := K h1 W1 ⟨_, A.same W1, q0, by simp [Cell.setSlot, r]⟩ T1 _ X1 e1 N1
  exact ⟨s₂, o, st1 _ g1, g2⟩
end
theorem tkw {ts : List Jvm.Cond} {a0 : Array Value} {Z : State} (hw : ∀ d ∈ ts, d.before a0 Z = true) (i : Nat) {d : Jvm.Cond} (q : ts[i]? = some d) : d.before a0 Z = true := hw d (List.mem_of_getElem? q)
end Jvm.OwnKit
namespace Jvm.Pilot.@@N@@
open Jvm Jvm.ClassFile Sem Op Lib Jvm.Free Jvm.Stand Jvm.LawKit Jvm.RoadKit Bundle Jvm.OwnKit Jvm.Pilot.@@N@@.Jvm.D
abbrev y4 : MethodName := ⟨"java/lang/Math", "max", "(II)I"⟩
theorem d4_0 : decode jdk_29_method_65_code 0 = .ok (.iload_n 0, 1) := by decide +kernel
theorem d4_1 : decode jdk_29_method_65_code 1 = .ok (.iload_n 1, 1) := by decide +kernel
theorem d4_2 : decode jdk_29_method_65_code 2 = .ok (.if_icmp .lt 7, 3) := by decide +kernel
theorem d4_5 : decode jdk_29_method_65_code 5 = .ok (.iload_n 0, 1) := by decide +kernel
theorem d4_6 : decode jdk_29_method_65_code 6 = .ok (.goto 4, 3) := by decide +kernel
theorem d4_9 : decode jdk_29_method_65_code 9 = .ok (.iload_n 1, 1) := by decide +kernel
theorem d4_10 : decode jdk_29_method_65_code 10 = .ok (.ireturn, 1) := by decide +kernel
theorem pf_4 : plainFor y4 = true := by first | exact plainFor_of_name (by first | (simp [plainName, overriddenIn]; done) | decide +kernel) | decide +kernel
theorem ef_4 (m : MethodId) (x : Int32) (y : Int32) : entryFrame m #[(.int x), (.int y)] 2 = mkF m 0 #[.val (.int x), .val (.int y)] [] := by first | (simp [entryFrame, mkF, argsToLocals, Value.category]; done) | rfl
def own_max (x : Int32) (y : Int32) : Int32 := if x < y then y else x
set_option maxRecDepth 65536 in
set_option maxHeartbeats 40000000 in
theorem con_4 (l : Launch) (Z : State) (a0 : Array Value) (hw : ∀ d ∈ tables_1, d.before a0 Z = true) (h0 : Heap) (n0 : Nat) (x : Int32) (y : Int32)   : Con l Z y4 jdk_29_method_65_code 2 (some .int) ({ frames := 0, cells := 0, slots := 0, locals := 0 } : Room) #[(.int x), (.int y)] h0 n0 (Pu (some (.int (own_max x y))) h0) := by
  refine Con.of pf_4 (fun m => ef_4 m x y) ?_
  intro p e s m below meth c C
  refine W.iloadN C d4_0 rfl ?_
  refine W.iloadN C d4_1 rfl ?_
  refine W.icmp_lt C 9 d4_2 rfl (fun b1 => ?_) (fun b1 => ?_)
  · skip
    refine W.iloadN C d4_9 rfl ?_
    exact W.iret C d4_10 (by simp) rfl (by decide) (by decide) ⟨by show some _ = some _; rw [own_max, if_pos b1], rfl⟩
  · skip
    refine W.iloadN C d4_5 rfl ?_
    refine W.goto C 10 d4_6 rfl ?_
    exact W.iret C d4_10 (by simp) rfl (by decide) (by decide) ⟨by show some _ = some _; rw [own_max, if_neg b1], rfl⟩

abbrev y2 : MethodName := ⟨"com/example/trellis/trellis/model/RegexOccurrences", "<init>", "()V"⟩
theorem d2_0 : decode prog_65_method_1_code 0 = .ok (.aload_n 0, 1) := by decide +kernel
theorem d2_1 : decode prog_65_method_1_code 1 = .ok (.invokespecial 1, 3) := by decide +kernel
theorem d2_4 : decode prog_65_method_1_code 4 = .ok (.aload_n 0, 1) := by decide +kernel
theorem d2_5 : decode prog_65_method_1_code 5 = .ok (.iconst 3, 1) := by decide +kernel
theorem d2_6 : decode prog_65_method_1_code 6 = .ok (.newarray .int, 2) := by decide +kernel
theorem d2_8 : decode prog_65_method_1_code 8 = .ok (.putfield 9, 3) := by decide +kernel
theorem d2_11 : decode prog_65_method_1_code 11 = .ok (.aload_n 0, 1) := by decide +kernel
theorem d2_12 : decode prog_65_method_1_code 12 = .ok (.iconst (-1), 1) := by decide +kernel
theorem d2_13 : decode prog_65_method_1_code 13 = .ok (.putfield 13, 3) := by decide +kernel
theorem d2_16 : decode prog_65_method_1_code 16 = .ok (.return_, 1) := by decide +kernel
theorem pf_2 : plainFor y2 = true := by first | exact plainFor_of_name (by first | (simp [plainName, overriddenIn]; done) | decide +kernel) | decide +kernel
theorem ef_2 (m : MethodId) (a1 : Addr) : entryFrame m #[(.ref a1)] 1 = mkF m 0 #[.val (.ref a1)] [] := by first | (simp [entryFrame, mkF, argsToLocals, Value.category]; done) | rfl
theorem pd_0 : parseMethodDescriptor "()V" = some ⟨[], none⟩ := by decide +kernel
set_option maxRecDepth 65536 in
set_option maxHeartbeats 40000000 in
theorem con_2 (l : Launch) (Z : State) (a0 : Array Value) (hw : ∀ d ∈ tables_1, d.before a0 Z = true) (h0 : Heap) (n0 : Nat) (a1 : Addr) (E_a1 : Exa Z h0 a1 "com/example/trellis/trellis/model/RegexOccurrences") (g_a1 : n0 ≤ a1) (F_least : Fld Z h0 a1 "com/example/trellis/trellis/model/RegexOccurrences" "least" "I" (.int (0 : Int32))) (F_most : Fld Z h0 a1 "com/example/trellis/trellis/model/RegexOccurrences" "most" "I" (.int (0 : Int32))) (F_runs : Fld Z h0 a1 "com/example/trellis/trellis/model/RegexOccurrences" "runs" "[I" .null) (F_length : Fld Z h0 a1 "com/example/trellis/trellis/model/RegexOccurrences" "length" "I" (.int (0 : Int32))) (F_room : Fld Z h0 a1 "com/example/trellis/trellis/model/RegexOccurrences" "room" "I" (.int (0 : Int32))) (Z0 : n0 ≤ h0.size) : Con l Z y2 prog_65_method_1_code 1 none ({ frames := 1, cells := 1, slots := 3, locals := 12 } : Room) #[(.ref a1)] h0 n0 (fun v h => v = none ∧ Keep h0 h [a1] ∧ ∃ ar : Addr, h0.size ≤ ar ∧ Exa Z h a1 "com/example/trellis/trellis/model/RegexOccurrences" ∧ Fld Z h a1 "com/example/trellis/trellis/model/RegexOccurrences" "least" "I" (.int 0) ∧ Fld Z h a1 "com/example/trellis/trellis/model/RegexOccurrences" "most" "I" (.int 0) ∧ Fld Z h a1 "com/example/trellis/trellis/model/RegexOccurrences" "runs" "[I" (.ref ar) ∧ Fld Z h a1 "com/example/trellis/trellis/model/RegexOccurrences" "length" "I" (.int 0) ∧ Fld Z h a1 "com/example/trellis/trellis/model/RegexOccurrences" "room" "I" (.int (-1)) ∧ Al Z h ar .int [(.int 0), (.int 0), (.int 0)]) := by
  refine Con.of pf_2 (fun m => ef_2 m a1) ?_
  intro p e s m below meth c C
  have K0 : Keep h0 h0 [a1] := Keep.refl _ _
  refine W.aloadN C d2_0 rfl rfl ?_
  refine W.initO C d2_1 (tkw hw 10 rfl) (tkw hw 11 rfl) (tkw hw 12 rfl) 0 rfl (by decide) (by decide) rfl ?_
  refine W.aloadN C d2_4 rfl rfl ?_
  refine W.iconst C (3 : Int32) d2_5 rfl ?_
  refine W.newP C 3 3 d2_6 (tkw hw 13 rfl) rfl (Nat.le_refl _) (by decide) 1 3 rfl rfl (by decide) (by decide) ?_
  intro ob1 hp2 hob1 Eob1 Lob1
  have ne_a1_ob1 : a1 ≠ ob1 := Nat.ne_of_lt (by rw [hob1]; exact E_a1.lt)
  have ge_ob1 : n0 ≤ ob1 := by rw [hob1]; exact Z0
  have sz_ob1 : h0.size ≤ ob1 := by rw [hob1]; exact K0.1
  replace E_a1 := E_a1.ext Eob1
  replace F_least := F_least.ext Eob1
  replace F_most := F_most.ext Eob1
  replace F_runs := F_runs.ext Eob1
  replace F_length := F_length.ext Eob1
  replace F_room := F_room.ext Eob1
  replace Z0 := Nat.le_trans Z0 Eob1.1
  replace K0 := K0.ext Eob1
  replace Lob1 : Al Z hp2 ob1 .int [(.int (0 : Int32)), (.int (0 : Int32)), (.int (0 : Int32))] := Lob1
  refine W.putF C d2_8 (tkw hw 14 rfl) Via.refl F_runs E_a1 (Or.inl (tkw hw 15 rfl)) (tkw hw 5 rfl) (ty := (.array .int)) (by decide) rfl rfl g_a1 ?_
  intro hp3 U4
  replace F_runs := F_runs.same U4
  replace E_a1 := E_a1.wr U4
  replace F_least := F_least.other U4 (Or.inr (slot_ne (Or.inl (tkw hw 28 rfl)) (Or.inl (tkw hw 15 rfl)) (by decide) (t := .int) (t' := (.array .int)) (by decide) (by decide)))
  replace F_most := F_most.other U4 (Or.inr (slot_ne (Or.inl (tkw hw 30 rfl)) (Or.inl (tkw hw 15 rfl)) (by decide) (t := .int) (t' := (.array .int)) (by decide) (by decide)))
  replace F_length := F_length.other U4 (Or.inr (slot_ne (Or.inl (tkw hw 43 rfl)) (Or.inl (tkw hw 15 rfl)) (by decide) (t := .int) (t' := (.array .int)) (by decide) (by decide)))
  replace F_room := F_room.other U4 (Or.inr (slot_ne (Or.inl (tkw hw 17 rfl)) (Or.inl (tkw hw 15 rfl)) (by decide) (t := .int) (t' := (.array .int)) (by decide) (by decide)))
  replace Z0 := Nat.le_trans Z0 (Nat.le_of_eq (U4.size).symm)
  replace K0 := K0.wr U4 (Or.inl (List.mem_of_getElem? (i := 0) rfl))
  replace Lob1 := Lob1.other U4 (Ne.symm ne_a1_ob1)
  refine W.aloadN C d2_11 rfl rfl ?_
  refine W.iconst C (-1 : Int32) d2_12 rfl ?_
  refine W.putF C d2_13 (tkw hw 16 rfl) Via.refl F_room E_a1 (Or.inl (tkw hw 17 rfl)) (tkw hw 5 rfl) (ty := .int) (by decide) rfl rfl g_a1 ?_
  intro hp5 U6
  replace F_room := F_room.same U6
  replace E_a1 := E_a1.wr U6
  replace F_least := F_least.other U6 (Or.inr (slot_ne (Or.inl (tkw hw 28 rfl)) (Or.inl (tkw hw 17 rfl)) (by decide) (t := .int) (t' := .int) (by decide) (by decide)))
  replace F_most := F_most.other U6 (Or.inr (slot_ne (Or.inl (tkw hw 30 rfl)) (Or.inl (tkw hw 17 rfl)) (by decide) (t := .int) (t' := .int) (by decide) (by decide)))
  replace F_runs := F_runs.other U6 (Or.inr (slot_ne (Or.inl (tkw hw 15 rfl)) (Or.inl (tkw hw 17 rfl)) (by decide) (t := (.array .int)) (t' := .int) (by decide) (by decide)))
  replace F_length := F_length.other U6 (Or.inr (slot_ne (Or.inl (tkw hw 43 rfl)) (Or.inl (tkw hw 17 rfl)) (by decide) (t := .int) (t' := .int) (by decide) (by decide)))
  replace Z0 := Nat.le_trans Z0 (Nat.le_of_eq (U6.size).symm)
  replace K0 := K0.wr U6 (Or.inl (List.mem_of_getElem? (i := 0) rfl))
  replace Lob1 := Lob1.other U6 (Ne.symm ne_a1_ob1)
  exact W.retV C d2_16 (by decide) (by decide) ⟨rfl, K0, ob1, sz_ob1, E_a1, F_least, F_most, F_runs, F_length, F_room, Lob1⟩

def own_fl (le : Int32) : Int32 := if (1 : Int32) < le then 3 else 0
def own_fr (le mo : Int32) : Int32 := if (1 : Int32) < le then -1 else if mo = (2147483647 : Int32) then mo else mo - 1
def own_fx (le : Int32) : Int32 := if (1 : Int32) < le then 1 else 0
abbrev y5 : MethodName := ⟨"com/example/trellis/trellis/model/RegexOccurrences", "first", "(II)Lcom/example/trellis/trellis/model/RegexOccurrences;"⟩
theorem d5_0 : decode prog_65_method_2_code 0 = .ok (.new 7, 3) := by decide +kernel
theorem d5_3 : decode prog_65_method_2_code 3 = .ok (.dup, 1) := by decide +kernel
theorem d5_4 : decode prog_65_method_2_code 4 = .ok (.invokespecial 17, 3) := by decide +kernel
theorem d5_7 : decode prog_65_method_2_code 7 = .ok (.astore_n 2, 1) := by decide +kernel
theorem d5_8 : decode prog_65_method_2_code 8 = .ok (.aload_n 2, 1) := by decide +kernel
theorem d5_9 : decode prog_65_method_2_code 9 = .ok (.iload_n 0, 1) := by decide +kernel
theorem d5_10 : decode prog_65_method_2_code 10 = .ok (.putfield 18, 3) := by decide +kernel
theorem d5_13 : decode prog_65_method_2_code 13 = .ok (.aload_n 2, 1) := by decide +kernel
theorem d5_14 : decode prog_65_method_2_code 14 = .ok (.iload_n 1, 1) := by decide +kernel
theorem d5_15 : decode prog_65_method_2_code 15 = .ok (.putfield 21, 3) := by decide +kernel
theorem d5_18 : decode prog_65_method_2_code 18 = .ok (.iload_n 0, 1) := by decide +kernel
theorem d5_19 : decode prog_65_method_2_code 19 = .ok (.iconst 1, 1) := by decide +kernel
theorem d5_20 : decode prog_65_method_2_code 20 = .ok (.if_icmp .gt 23, 3) := by decide +kernel
theorem d5_23 : decode prog_65_method_2_code 23 = .ok (.aload_n 2, 1) := by decide +kernel
theorem d5_24 : decode prog_65_method_2_code 24 = .ok (.iload_n 1, 1) := by decide +kernel
theorem d5_25 : decode prog_65_method_2_code 25 = .ok (.ldc 26, 2) := by decide +kernel
theorem d5_27 : decode prog_65_method_2_code 27 = .ok (.if_icmp .ne 7, 3) := by decide +kernel
theorem d5_30 : decode prog_65_method_2_code 30 = .ok (.iload_n 1, 1) := by decide +kernel
theorem d5_31 : decode prog_65_method_2_code 31 = .ok (.goto 6, 3) := by decide +kernel
theorem d5_34 : decode prog_65_method_2_code 34 = .ok (.iload_n 1, 1) := by decide +kernel
theorem d5_35 : decode prog_65_method_2_code 35 = .ok (.iconst 1, 1) := by decide +kernel
theorem d5_36 : decode prog_65_method_2_code 36 = .ok (.isub, 1) := by decide +kernel
theorem d5_37 : decode prog_65_method_2_code 37 = .ok (.putfield 13, 3) := by decide +kernel
theorem d5_40 : decode prog_65_method_2_code 40 = .ok (.goto 29, 3) := by decide +kernel
theorem d5_43 : decode prog_65_method_2_code 43 = .ok (.aload_n 2, 1) := by decide +kernel
theorem d5_44 : decode prog_65_method_2_code 44 = .ok (.getfield 9, 3) := by decide +kernel
theorem d5_47 : decode prog_65_method_2_code 47 = .ok (.iconst 0, 1) := by decide +kernel
theorem d5_48 : decode prog_65_method_2_code 48 = .ok (.iconst 1, 1) := by decide +kernel
theorem d5_49 : decode prog_65_method_2_code 49 = .ok (.iastore, 1) := by decide +kernel
theorem d5_50 : decode prog_65_method_2_code 50 = .ok (.aload_n 2, 1) := by decide +kernel
theorem d5_51 : decode prog_65_method_2_code 51 = .ok (.getfield 9, 3) := by decide +kernel
theorem d5_54 : decode prog_65_method_2_code 54 = .ok (.iconst 1, 1) := by decide +kernel
theorem d5_55 : decode prog_65_method_2_code 55 = .ok (.iconst 1, 1) := by decide +kernel
theorem d5_56 : decode prog_65_method_2_code 56 = .ok (.iastore, 1) := by decide +kernel
theorem d5_57 : decode prog_65_method_2_code 57 = .ok (.aload_n 2, 1) := by decide +kernel
theorem d5_58 : decode prog_65_method_2_code 58 = .ok (.getfield 9, 3) := by decide +kernel
theorem d5_61 : decode prog_65_method_2_code 61 = .ok (.iconst 2, 1) := by decide +kernel
theorem d5_62 : decode prog_65_method_2_code 62 = .ok (.iconst 1, 1) := by decide +kernel
theorem d5_63 : decode prog_65_method_2_code 63 = .ok (.iastore, 1) := by decide +kernel
theorem d5_64 : decode prog_65_method_2_code 64 = .ok (.aload_n 2, 1) := by decide +kernel
theorem d5_65 : decode prog_65_method_2_code 65 = .ok (.iconst 3, 1) := by decide +kernel
theorem d5_66 : decode prog_65_method_2_code 66 = .ok (.putfield 27, 3) := by decide +kernel
theorem d5_69 : decode prog_65_method_2_code 69 = .ok (.aload_n 2, 1) := by decide +kernel
theorem d5_70 : decode prog_65_method_2_code 70 = .ok (.areturn, 1) := by decide +kernel
theorem pf_5 : plainFor y5 = true := by first | exact plainFor_of_name (by first | (simp [plainName, overriddenIn]; done) | decide +kernel) | decide +kernel
theorem ef_5 (m : MethodId) (le : Int32) (mo : Int32) : entryFrame m #[(.int le), (.int mo)] 3 = mkF m 0 #[.val (.int le), .val (.int mo), .unset] [] := by first | (simp [entryFrame, mkF, argsToLocals, Value.category]; done) | rfl
set_option maxRecDepth 65536 in
set_option maxHeartbeats 40000000 in
theorem con_5 (l : Launch) (Z : State) (a0 : Array Value) (hw : ∀ d ∈ tables_1, d.before a0 Z = true) (h0 : Heap) (n0 : Nat) (le : Int32) (mo : Int32)  (Z0 : n0 ≤ h0.size) : Con l Z y5 prog_65_method_2_code 3 (some (.object "com/example/trellis/trellis/model/RegexOccurrences")) ({ frames := 2, cells := 2, slots := 11, locals := 25 } : Room) #[(.int le), (.int mo)] h0 n0 (fun v h => ∃ a ar : Addr, v = some (.ref a) ∧ Keep h0 h [] ∧ n0 ≤ h.size ∧ h0.size ≤ a ∧ h0.size ≤ ar ∧ a ≠ ar ∧ Exa Z h a "com/example/trellis/trellis/model/RegexOccurrences" ∧ Fld Z h a "com/example/trellis/trellis/model/RegexOccurrences" "least" "I" (.int le) ∧ Fld Z h a "com/example/trellis/trellis/model/RegexOccurrences" "most" "I" (.int mo) ∧ Fld Z h a "com/example/trellis/trellis/model/RegexOccurrences" "runs" "[I" (.ref ar) ∧ Fld Z h a "com/example/trellis/trellis/model/RegexOccurrences" "length" "I" (.int (own_fl le)) ∧ Fld Z h a "com/example/trellis/trellis/model/RegexOccurrences" "room" "I" (.int (own_fr le mo)) ∧ Al Z h ar .int [(.int (own_fx le)), (.int (own_fx le)), (.int (own_fx le))]) := by
  refine Con.of pf_5 (fun m => ef_5 m le mo) ?_
  intro p e s m below meth c C
  have K0 : Keep h0 h0 [] := Keep.refl _ _
  refine W.new C d5_0 (tkw hw 25 rfl) (tkw hw 5 rfl) (tkw hw 6 rfl) 1 8 rfl rfl (by decide) (by decide) ?_
  intro ob1 hp2 hob1 Eob1 Aob1 Dob1
  have ge_ob1 : n0 ≤ ob1 := by rw [hob1]; exact Z0
  have sz_ob1 : h0.size ≤ ob1 := by rw [hob1]; exact K0.1
  replace Z0 := Nat.le_trans Z0 Eob1.1
  replace K0 := K0.ext Eob1
  have Fob1_runs : Fld Z hp2 ob1 "com/example/trellis/trellis/model/RegexOccurrences" "runs" "[I" .null := Dob1 (Or.inl (tkw hw 15 rfl)) (ty := (.array .int)) (by decide)
  have Fob1_room : Fld Z hp2 ob1 "com/example/trellis/trellis/model/RegexOccurrences" "room" "I" (.int (0 : Int32)) := Dob1 (Or.inl (tkw hw 17 rfl)) (ty := .int) (by decide)
  have Fob1_least : Fld Z hp2 ob1 "com/example/trellis/trellis/model/RegexOccurrences" "least" "I" (.int (0 : Int32)) := Dob1 (Or.inl (tkw hw 28 rfl)) (ty := .int) (by decide)
  have Fob1_most : Fld Z hp2 ob1 "com/example/trellis/trellis/model/RegexOccurrences" "most" "I" (.int (0 : Int32)) := Dob1 (Or.inl (tkw hw 30 rfl)) (ty := .int) (by decide)
  have Fob1_length : Fld Z hp2 ob1 "com/example/trellis/trellis/model/RegexOccurrences" "length" "I" (.int (0 : Int32)) := Dob1 (Or.inl (tkw hw 43 rfl)) (ty := .int) (by decide)
  refine W.dup C d5_3 rfl ?_
  have lt_ob1 := Aob1.lt
  have z_ := Z0
  have k_ := K0.1
  refine W.callI C (y' := y2) d5_4 rfl (tkw hw 26 rfl) (tkw hw 8 rfl) (tkw hw 6 rfl) (tkw hw 9 rfl) (by decide) (a := ob1) (argsL := []) (rest := [(.ref ob1)]) rfl (lenOf pd_0 rfl) (con_2 l Z a0 hw hp2 n0 ob1 Aob1 ge_ob1 Fob1_least Fob1_most Fob1_runs Fob1_length Fob1_room Z0) 1 2 11 rfl rfl rfl (by decide) (by decide) (by decide) (by decide) rfl ?_
  rintro _ hp3 ⟨rfl, Kc, rob1, szr, Aob1, Fob1_least, Fob1_most, Fob1_runs, Fob1_length, Fob1_room, Lrob1⟩
  replace Z0 := Nat.le_trans Z0 Kc.1
  replace K0 := K0.trans Kc (allS (Or.inr sz_ob1) all0)
  have ge_rob1 : n0 ≤ rob1 := Nat.le_trans z_ szr
  have sz_rob1 : h0.size ≤ rob1 := Nat.le_trans k_ szr
  have ne_ob1_rob1 : ob1 ≠ rob1 := Nat.ne_of_lt (Nat.lt_of_lt_of_le lt_ob1 szr)
  refine W.astoreN C #[.val (.int le), .val (.int mo), .val (.ref ob1)] d5_7 rfl rfl ?_
  refine W.aloadN C d5_8 rfl rfl ?_
  refine W.iloadN C d5_9 rfl ?_
  refine W.putF C d5_10 (tkw hw 27 rfl) Via.refl Fob1_least Aob1 (Or.inl (tkw hw 28 rfl)) (tkw hw 5 rfl) (ty := .int) (by decide) rfl rfl ge_ob1 ?_
  intro hp4 U5
  replace Fob1_least := Fob1_least.same U5
  replace Z0 := Nat.le_trans Z0 (Nat.le_of_eq (U5.size).symm)
  replace K0 := K0.wr U5 (Or.inr sz_ob1)
  replace Aob1 := Aob1.wr U5
  replace Fob1_runs := Fob1_runs.other U5 (Or.inr (slot_ne (Or.inl (tkw hw 15 rfl)) (Or.inl (tkw hw 28 rfl)) (by decide) (t := (.array .int)) (t' := .int) (by decide) (by decide)))
  replace Fob1_room := Fob1_room.other U5 (Or.inr (slot_ne (Or.inl (tkw hw 17 rfl)) (Or.inl (tkw hw 28 rfl)) (by decide) (t := .int) (t' := .int) (by decide) (by decide)))
  replace Fob1_most := Fob1_most.other U5 (Or.inr (slot_ne (Or.inl (tkw hw 30 rfl)) (Or.inl (tkw hw 28 rfl)) (by decide) (t := .int) (t' := .int) (by decide) (by decide)))
  replace Fob1_length := Fob1_length.other U5 (Or.inr (slot_ne (Or.inl (tkw hw 43 rfl)) (Or.inl (tkw hw 28 rfl)) (by decide) (t := .int) (t' := .int) (by decide) (by decide)))
  replace Lrob1 := Lrob1.other U5 (Ne.symm ne_ob1_rob1)
  refine W.aloadN C d5_13 rfl rfl ?_
  refine W.iloadN C d5_14 rfl ?_
  refine W.putF C d5_15 (tkw hw 29 rfl) Via.refl Fob1_most Aob1 (Or.inl (tkw hw 30 rfl)) (tkw hw 5 rfl) (ty := .int) (by decide) rfl rfl ge_ob1 ?_
  intro hp6 U7
  replace Fob1_most := Fob1_most.same U7
  replace Z0 := Nat.le_trans Z0 (Nat.le_of_eq (U7.size).symm)
  replace K0 := K0.wr U7 (Or.inr sz_ob1)
  replace Aob1 := Aob1.wr U7
  replace Fob1_runs := Fob1_runs.other U7 (Or.inr (slot_ne (Or.inl (tkw hw 15 rfl)) (Or.inl (tkw hw 30 rfl)) (by decide) (t := (.array .int)) (t' := .int) (by decide) (by decide)))
  replace Fob1_room := Fob1_room.other U7 (Or.inr (slot_ne (Or.inl (tkw hw 17 rfl)) (Or.inl (tkw hw 30 rfl)) (by decide) (t := .int) (t' := .int) (by decide) (by decide)))
  replace Fob1_least := Fob1_least.other U7 (Or.inr (slot_ne (Or.inl (tkw hw 28 rfl)) (Or.inl (tkw hw 30 rfl)) (by decide) (t := .int) (t' := .int) (by decide) (by decide)))
  replace Fob1_length := Fob1_length.other U7 (Or.inr (slot_ne (Or.inl (tkw hw 43 rfl)) (Or.inl (tkw hw 30 rfl)) (by decide) (t := .int) (t' := .int) (by decide) (by decide)))
  replace Lrob1 := Lrob1.other U7 (Ne.symm ne_ob1_rob1)
  refine W.iloadN C d5_18 rfl ?_
  refine W.iconst C (1 : Int32) d5_19 rfl ?_
  refine W.icmp_gt C 43 d5_20 rfl (fun b1 => ?_) (fun b1 => ?_)
  · skip
    refine W.aloadN C d5_43 rfl rfl ?_
    refine W.getF C d5_44 (tkw hw 14 rfl) Via.refl Fob1_runs ?_
    refine W.iconst C (0 : Int32) d5_47 rfl ?_
    refine W.iconst C (1 : Int32) d5_48 rfl ?_
    refine W.iastore C 0 d5_49 Lrob1 rfl (show (0 : Nat) < 3 by decide) ge_rob1 ?_
    intro hp8 U9 Lrob1_
    replace Z0 := Nat.le_trans Z0 (Nat.le_of_eq (U9.size).symm)
    replace K0 := K0.wr U9 (Or.inr sz_rob1)
    replace Aob1 := Aob1.wr U9
    replace Fob1_runs := Fob1_runs.other U9 (Or.inl ne_ob1_rob1)
    replace Fob1_room := Fob1_room.other U9 (Or.inl ne_ob1_rob1)
    replace Fob1_least := Fob1_least.other U9 (Or.inl ne_ob1_rob1)
    replace Fob1_most := Fob1_most.other U9 (Or.inl ne_ob1_rob1)
    replace Fob1_length := Fob1_length.other U9 (Or.inl ne_ob1_rob1)
    replace Lrob1 : Al Z hp8 rob1 .int [(.int (1 : Int32)), (.int (0 : Int32)), (.int (0 : Int32))] := Lrob1_
    refine W.aloadN C d5_50 rfl rfl ?_
    refine W.getF C d5_51 (tkw hw 14 rfl) Via.refl Fob1_runs ?_
    refine W.iconst C (1 : Int32) d5_54 rfl ?_
    refine W.iconst C (1 : Int32) d5_55 rfl ?_
    refine W.iastore C 1 d5_56 Lrob1 rfl (show (1 : Nat) < 3 by decide) ge_rob1 ?_
    intro hp10 U11 Lrob1_
    replace Z0 := Nat.le_trans Z0 (Nat.le_of_eq (U11.size).symm)
    replace K0 := K0.wr U11 (Or.inr sz_rob1)
    replace Aob1 := Aob1.wr U11
    replace Fob1_runs := Fob1_runs.other U11 (Or.inl ne_ob1_rob1)
    replace Fob1_room := Fob1_room.other U11 (Or.inl ne_ob1_rob1)
    replace Fob1_least := Fob1_least.other U11 (Or.inl ne_ob1_rob1)
    replace Fob1_most := Fob1_most.other U11 (Or.inl ne_ob1_rob1)
    replace Fob1_length := Fob1_length.other U11 (Or.inl ne_ob1_rob1)
    replace Lrob1 : Al Z hp10 rob1 .int [(.int (1 : Int32)), (.int (1 : Int32)), (.int (0 : Int32))] := Lrob1_
    refine W.aloadN C d5_57 rfl rfl ?_
    refine W.getF C d5_58 (tkw hw 14 rfl) Via.refl Fob1_runs ?_
    refine W.iconst C (2 : Int32) d5_61 rfl ?_
    refine W.iconst C (1 : Int32) d5_62 rfl ?_
    refine W.iastore C 2 d5_63 Lrob1 rfl (show (2 : Nat) < 3 by decide) ge_rob1 ?_
    intro hp12 U13 Lrob1_
    replace Z0 := Nat.le_trans Z0 (Nat.le_of_eq (U13.size).symm)
    replace K0 := K0.wr U13 (Or.inr sz_rob1)
    replace Aob1 := Aob1.wr U13
    replace Fob1_runs := Fob1_runs.other U13 (Or.inl ne_ob1_rob1)
    replace Fob1_room := Fob1_room.other U13 (Or.inl ne_ob1_rob1)
    replace Fob1_least := Fob1_least.other U13 (Or.inl ne_ob1_rob1)
    replace Fob1_most := Fob1_most.other U13 (Or.inl ne_ob1_rob1)
    replace Fob1_length := Fob1_length.other U13 (Or.inl ne_ob1_rob1)
    replace Lrob1 : Al Z hp12 rob1 .int [(.int (1 : Int32)), (.int (1 : Int32)), (.int (1 : Int32))] := Lrob1_
    refine W.aloadN C d5_64 rfl rfl ?_
    refine W.iconst C (3 : Int32) d5_65 rfl ?_
    refine W.putF C d5_66 (tkw hw 42 rfl) Via.refl Fob1_length Aob1 (Or.inl (tkw hw 43 rfl)) (tkw hw 5 rfl) (ty := .int) (by decide) rfl rfl ge_ob1 ?_
    intro hp14 U15
    replace Fob1_length := Fob1_length.same U15
    replace Z0 := Nat.le_trans Z0 (Nat.le_of_eq (U15.size).symm)
    replace K0 := K0.wr U15 (Or.inr sz_ob1)
    replace Aob1 := Aob1.wr U15
    replace Fob1_runs := Fob1_runs.other U15 (Or.inr (slot_ne (Or.inl (tkw hw 15 rfl)) (Or.inl (tkw hw 43 rfl)) (by decide) (t := (.array .int)) (t' := .int) (by decide) (by decide)))
    replace Fob1_room := Fob1_room.other U15 (Or.inr (slot_ne (Or.inl (tkw hw 17 rfl)) (Or.inl (tkw hw 43 rfl)) (by decide) (t := .int) (t' := .int) (by decide) (by decide)))
    replace Fob1_least := Fob1_least.other U15 (Or.inr (slot_ne (Or.inl (tkw hw 28 rfl)) (Or.inl (tkw hw 43 rfl)) (by decide) (t := .int) (t' := .int) (by decide) (by decide)))
    replace Fob1_most := Fob1_most.other U15 (Or.inr (slot_ne (Or.inl (tkw hw 30 rfl)) (Or.inl (tkw hw 43 rfl)) (by decide) (t := .int) (t' := .int) (by decide) (by decide)))
    replace Lrob1 := Lrob1.other U15 (Ne.symm ne_ob1_rob1)
    refine W.aloadN C d5_69 rfl rfl ?_
    exact W.aret C d5_70 rfl rfl rfl (by decide) (by decide) ⟨ob1, rob1, rfl, K0, Z0, sz_ob1, sz_rob1, ne_ob1_rob1, Aob1, Fob1_least, Fob1_most, Fob1_runs, by rw [own_fl, if_pos b1]; exact Fob1_length, by rw [own_fr, if_pos b1]; exact Fob1_room, by rw [own_fx, if_pos b1]; exact Lrob1⟩
  · skip
    refine W.aloadN C d5_23 rfl rfl ?_
    refine W.iloadN C d5_24 rfl ?_
    refine W.ldcI C (v := (2147483647 : Int32)) d5_25 (tkw hw 31 rfl) ?_
    refine W.icmp_ne C 34 d5_27 rfl (fun b2 => ?_) (fun b2 => ?_)
    · skip
      refine W.iloadN C d5_34 rfl ?_
      refine W.iconst C (1 : Int32) d5_35 rfl ?_
      refine W.isub C d5_36 ?_
      refine W.putF C d5_37 (tkw hw 16 rfl) Via.refl Fob1_room Aob1 (Or.inl (tkw hw 17 rfl)) (tkw hw 5 rfl) (ty := .int) (by decide) rfl rfl ge_ob1 ?_
      intro hp16 U17
      replace Fob1_room := Fob1_room.same U17
      replace Z0 := Nat.le_trans Z0 (Nat.le_of_eq (U17.size).symm)
      replace K0 := K0.wr U17 (Or.inr sz_ob1)
      replace Aob1 := Aob1.wr U17
      replace Fob1_runs := Fob1_runs.other U17 (Or.inr (slot_ne (Or.inl (tkw hw 15 rfl)) (Or.inl (tkw hw 17 rfl)) (by decide) (t := (.array .int)) (t' := .int) (by decide) (by decide)))
      replace Fob1_least := Fob1_least.other U17 (Or.inr (slot_ne (Or.inl (tkw hw 28 rfl)) (Or.inl (tkw hw 17 rfl)) (by decide) (t := .int) (t' := .int) (by decide) (by decide)))
      replace Fob1_most := Fob1_most.other U17 (Or.inr (slot_ne (Or.inl (tkw hw 30 rfl)) (Or.inl (tkw hw 17 rfl)) (by decide) (t := .int) (t' := .int) (by decide) (by decide)))
      replace Fob1_length := Fob1_length.other U17 (Or.inr (slot_ne (Or.inl (tkw hw 43 rfl)) (Or.inl (tkw hw 17 rfl)) (by decide) (t := .int) (t' := .int) (by decide) (by decide)))
      replace Lrob1 := Lrob1.other U17 (Ne.symm ne_ob1_rob1)
      refine W.goto C 69 d5_40 rfl ?_
      refine W.aloadN C d5_69 rfl rfl ?_
      exact W.aret C d5_70 rfl rfl rfl (by decide) (by decide) ⟨ob1, rob1, rfl, K0, Z0, sz_ob1, sz_rob1, ne_ob1_rob1, Aob1, Fob1_least, Fob1_most, Fob1_runs, by rw [own_fl, if_neg b1]; exact Fob1_length, by rw [own_fr, if_neg b1, if_neg b2]; exact Fob1_room, by rw [own_fx, if_neg b1]; exact Lrob1⟩
    · skip
      refine W.iloadN C d5_30 rfl ?_
      refine W.goto C 37 d5_31 rfl ?_
      refine W.putF C d5_37 (tkw hw 16 rfl) Via.refl Fob1_room Aob1 (Or.inl (tkw hw 17 rfl)) (tkw hw 5 rfl) (ty := .int) (by decide) rfl rfl ge_ob1 ?_
      intro hp18 U19
      replace Fob1_room := Fob1_room.same U19
      replace Z0 := Nat.le_trans Z0 (Nat.le_of_eq (U19.size).symm)
      replace K0 := K0.wr U19 (Or.inr sz_ob1)
      replace Aob1 := Aob1.wr U19
      replace Fob1_runs := Fob1_runs.other U19 (Or.inr (slot_ne (Or.inl (tkw hw 15 rfl)) (Or.inl (tkw hw 17 rfl)) (by decide) (t := (.array .int)) (t' := .int) (by decide) (by decide)))
      replace Fob1_least := Fob1_least.other U19 (Or.inr (slot_ne (Or.inl (tkw hw 28 rfl)) (Or.inl (tkw hw 17 rfl)) (by decide) (t := .int) (t' := .int) (by decide) (by decide)))
      replace Fob1_most := Fob1_most.other U19 (Or.inr (slot_ne (Or.inl (tkw hw 30 rfl)) (Or.inl (tkw hw 17 rfl)) (by decide) (t := .int) (t' := .int) (by decide) (by decide)))
      replace Fob1_length := Fob1_length.other U19 (Or.inr (slot_ne (Or.inl (tkw hw 43 rfl)) (Or.inl (tkw hw 17 rfl)) (by decide) (t := .int) (t' := .int) (by decide) (by decide)))
      replace Lrob1 := Lrob1.other U19 (Ne.symm ne_ob1_rob1)
      refine W.goto C 69 d5_40 rfl ?_
      refine W.aloadN C d5_69 rfl rfl ?_
      exact W.aret C d5_70 rfl rfl rfl (by decide) (by decide) ⟨ob1, rob1, rfl, K0, Z0, sz_ob1, sz_rob1, ne_ob1_rob1, Aob1, Fob1_least, Fob1_most, Fob1_runs, by rw [own_fl, if_neg b1]; exact Fob1_length, by rw [own_fr, if_neg b1, if_pos b2]; exact Fob1_room, by rw [own_fx, if_neg b1]; exact Lrob1⟩

abbrev y10 : MethodName := ⟨"com/example/trellis/trellis/model/RegexOccurrences", "fitted", "([II)[I"⟩
theorem d10_0 : decode prog_65_method_16_code 0 = .ok (.aload_n 0, 1) := by decide +kernel
theorem d10_1 : decode prog_65_method_16_code 1 = .ok (.arraylength, 1) := by decide +kernel
theorem d10_2 : decode prog_65_method_16_code 2 = .ok (.iload_n 1, 1) := by decide +kernel
theorem d10_3 : decode prog_65_method_16_code 3 = .ok (.if_icmp .lt 7, 3) := by decide +kernel
theorem d10_6 : decode prog_65_method_16_code 6 = .ok (.aload_n 0, 1) := by decide +kernel
theorem d10_7 : decode prog_65_method_16_code 7 = .ok (.goto 15, 3) := by decide +kernel
theorem d10_10 : decode prog_65_method_16_code 10 = .ok (.aload_n 0, 1) := by decide +kernel
theorem d10_11 : decode prog_65_method_16_code 11 = .ok (.iload_n 1, 1) := by decide +kernel
theorem d10_12 : decode prog_65_method_16_code 12 = .ok (.iconst 2, 1) := by decide +kernel
theorem d10_13 : decode prog_65_method_16_code 13 = .ok (.aload_n 0, 1) := by decide +kernel
theorem d10_14 : decode prog_65_method_16_code 14 = .ok (.arraylength, 1) := by decide +kernel
theorem d10_15 : decode prog_65_method_16_code 15 = .ok (.imul, 1) := by decide +kernel
theorem d10_16 : decode prog_65_method_16_code 16 = .ok (.invokestatic 44, 3) := by decide +kernel
theorem d10_19 : decode prog_65_method_16_code 19 = .ok (.invokestatic 129, 3) := by decide +kernel
theorem d10_22 : decode prog_65_method_16_code 22 = .ok (.areturn, 1) := by decide +kernel
theorem pf_10 : plainFor y10 = true := by first | exact plainFor_of_name (by first | (simp [plainName, overriddenIn]; done) | decide +kernel) | decide +kernel
theorem ef_10 (m : MethodId) (a1 : Addr) : entryFrame m #[(.ref a1), (.int (3 : Int32))] 2 = mkF m 0 #[.val (.ref a1), .val (.int (3 : Int32))] [] := by first | (simp [entryFrame, mkF, argsToLocals, Value.category]; done) | rfl
theorem pd_1 : parseMethodDescriptor "(II)I" = some ⟨[.int, .int], some .int⟩ := by decide +kernel
set_option maxRecDepth 65536 in
set_option maxHeartbeats 40000000 in
theorem con_10 (l : Launch) (Z : State) (a0 : Array Value) (hw : ∀ d ∈ tables_1, d.before a0 Z = true) (h0 : Heap) (n0 : Nat) (a1 : Addr) (vs : List Value) (hv : vs.length = 3) (L1 : Al Z h0 a1 .int vs) (Z0 : n0 ≤ h0.size) : Con l Z y10 prog_65_method_16_code 2 (some (.array .int)) ({ frames := 0, cells := 0, slots := 0, locals := 0 } : Room) #[(.ref a1), (.int (3 : Int32))] h0 n0 (Pu (some (.ref a1)) h0) := by
  refine Con.of pf_10 (fun m => ef_10 m a1) ?_
  intro p e s m below meth c C
  refine W.aloadN C d10_0 rfl rfl ?_
  refine W.arrlen C (3 : Int32) d10_1 L1 (by rw [hv]; rfl) ?_
  refine W.iloadN C d10_2 rfl ?_
  refine W.icmp_lt C 10 d10_3 rfl (fun b => absurd b (by decide)) (fun _ => ?_)
  refine W.aloadN C d10_6 rfl rfl ?_
  refine W.goto C 22 d10_7 rfl ?_
  exact W.aret C d10_22 rfl rfl rfl (by decide) (by decide) ⟨rfl, rfl⟩

abbrev y9 : MethodName := ⟨"com/example/trellis/trellis/model/RegexOccurrences", "set", "(Lcom/example/trellis/trellis/model/RegexOccurrences;)V"⟩
theorem d9_0 : decode prog_65_method_4_code 0 = .ok (.aload_n 0, 1) := by decide +kernel
theorem d9_1 : decode prog_65_method_4_code 1 = .ok (.aload_n 1, 1) := by decide +kernel
theorem d9_2 : decode prog_65_method_4_code 2 = .ok (.getfield 18, 3) := by decide +kernel
theorem d9_5 : decode prog_65_method_4_code 5 = .ok (.putfield 18, 3) := by decide +kernel
theorem d9_8 : decode prog_65_method_4_code 8 = .ok (.aload_n 0, 1) := by decide +kernel
theorem d9_9 : decode prog_65_method_4_code 9 = .ok (.aload_n 1, 1) := by decide +kernel
theorem d9_10 : decode prog_65_method_4_code 10 = .ok (.getfield 21, 3) := by decide +kernel
theorem d9_13 : decode prog_65_method_4_code 13 = .ok (.putfield 21, 3) := by decide +kernel
theorem d9_16 : decode prog_65_method_4_code 16 = .ok (.aload_n 0, 1) := by decide +kernel
theorem d9_17 : decode prog_65_method_4_code 17 = .ok (.aload_n 1, 1) := by decide +kernel
theorem d9_18 : decode prog_65_method_4_code 18 = .ok (.getfield 13, 3) := by decide +kernel
theorem d9_21 : decode prog_65_method_4_code 21 = .ok (.putfield 13, 3) := by decide +kernel
theorem d9_24 : decode prog_65_method_4_code 24 = .ok (.aload_n 0, 1) := by decide +kernel
theorem d9_25 : decode prog_65_method_4_code 25 = .ok (.aload_n 0, 1) := by decide +kernel
theorem d9_26 : decode prog_65_method_4_code 26 = .ok (.getfield 9, 3) := by decide +kernel
theorem d9_29 : decode prog_65_method_4_code 29 = .ok (.aload_n 1, 1) := by decide +kernel
theorem d9_30 : decode prog_65_method_4_code 30 = .ok (.getfield 27, 3) := by decide +kernel
theorem d9_33 : decode prog_65_method_4_code 33 = .ok (.invokestatic 34, 3) := by decide +kernel
theorem d9_36 : decode prog_65_method_4_code 36 = .ok (.putfield 9, 3) := by decide +kernel
theorem d9_39 : decode prog_65_method_4_code 39 = .ok (.aload_n 1, 1) := by decide +kernel
theorem d9_40 : decode prog_65_method_4_code 40 = .ok (.getfield 9, 3) := by decide +kernel
theorem d9_43 : decode prog_65_method_4_code 43 = .ok (.iconst 0, 1) := by decide +kernel
theorem d9_44 : decode prog_65_method_4_code 44 = .ok (.aload_n 0, 1) := by decide +kernel
theorem d9_45 : decode prog_65_method_4_code 45 = .ok (.getfield 9, 3) := by decide +kernel
theorem d9_48 : decode prog_65_method_4_code 48 = .ok (.iconst 0, 1) := by decide +kernel
theorem d9_49 : decode prog_65_method_4_code 49 = .ok (.aload_n 1, 1) := by decide +kernel
theorem d9_50 : decode prog_65_method_4_code 50 = .ok (.getfield 27, 3) := by decide +kernel
theorem d9_53 : decode prog_65_method_4_code 53 = .ok (.invokestatic 38, 3) := by decide +kernel
theorem d9_56 : decode prog_65_method_4_code 56 = .ok (.aload_n 0, 1) := by decide +kernel
theorem d9_57 : decode prog_65_method_4_code 57 = .ok (.aload_n 1, 1) := by decide +kernel
theorem d9_58 : decode prog_65_method_4_code 58 = .ok (.getfield 27, 3) := by decide +kernel
theorem d9_61 : decode prog_65_method_4_code 61 = .ok (.putfield 27, 3) := by decide +kernel
theorem d9_64 : decode prog_65_method_4_code 64 = .ok (.return_, 1) := by decide +kernel
theorem pf_9 : plainFor y9 = true := by first | exact plainFor_of_name (by first | (simp [plainName, overriddenIn]; done) | decide +kernel) | decide +kernel
theorem ef_9 (m : MethodId) (a1 : Addr) (a2 : Addr) : entryFrame m #[(.ref a1), (.ref a2)] 2 = mkF m 0 #[.val (.ref a1), .val (.ref a2)] [] := by first | (simp [entryFrame, mkF, argsToLocals, Value.category]; done) | rfl
theorem pd_2 : parseMethodDescriptor "([II)[I" = some ⟨[(.array .int), .int], some (.array .int)⟩ := by decide +kernel
theorem pd_3 : parseMethodDescriptor "(Ljava/lang/Object;ILjava/lang/Object;II)V" = some ⟨[(.object "java/lang/Object"), .int, (.object "java/lang/Object"), .int, .int], none⟩ := by decide +kernel
set_option maxRecDepth 65536 in
set_option maxHeartbeats 40000000 in
theorem con_9 (l : Launch) (Z : State) (a0 : Array Value) (hw : ∀ d ∈ tables_1, d.before a0 Z = true) (h0 : Heap) (n0 : Nat) (a1 : Addr) (a2 : Addr) (ar as2 : Addr) (le0 mo0 l0 ro0 x0 x1 x2 : Int32) (le mo ro y0 y1 y2 : Int32) (t_E : Exa Z h0 a1 "com/example/trellis/trellis/model/RegexOccurrences") (t_least : Fld Z h0 a1 "com/example/trellis/trellis/model/RegexOccurrences" "least" "I" (.int le0)) (t_most : Fld Z h0 a1 "com/example/trellis/trellis/model/RegexOccurrences" "most" "I" (.int mo0)) (t_runs : Fld Z h0 a1 "com/example/trellis/trellis/model/RegexOccurrences" "runs" "[I" (.ref ar)) (t_length : Fld Z h0 a1 "com/example/trellis/trellis/model/RegexOccurrences" "length" "I" (.int l0)) (t_room : Fld Z h0 a1 "com/example/trellis/trellis/model/RegexOccurrences" "room" "I" (.int ro0)) (t_A : Al Z h0 ar .int [(.int x0), (.int x1), (.int x2)]) (u_E : Exa Z h0 a2 "com/example/trellis/trellis/model/RegexOccurrences") (u_least : Fld Z h0 a2 "com/example/trellis/trellis/model/RegexOccurrences" "least" "I" (.int le)) (u_most : Fld Z h0 a2 "com/example/trellis/trellis/model/RegexOccurrences" "most" "I" (.int mo)) (u_runs : Fld Z h0 a2 "com/example/trellis/trellis/model/RegexOccurrences" "runs" "[I" (.ref as2)) (u_length : Fld Z h0 a2 "com/example/trellis/trellis/model/RegexOccurrences" "length" "I" (.int 3)) (u_room : Fld Z h0 a2 "com/example/trellis/trellis/model/RegexOccurrences" "room" "I" (.int ro)) (u_A : Al Z h0 as2 .int [(.int y0), (.int y1), (.int y2)]) (g_a1 : n0 ≤ a1) (g_ar : n0 ≤ ar) (ne_a2_a1 : a2 ≠ a1) (ne_as2_ar : as2 ≠ ar) (ne_a1_ar : a1 ≠ ar) (ne_a2_ar : a2 ≠ ar) (ne_as2_a1 : as2 ≠ a1)  (Z0 : n0 ≤ h0.size) : Con l Z y9 prog_65_method_4_code 2 none ({ frames := 1, cells := 0, slots := 0, locals := 40 } : Room) #[(.ref a1), (.ref a2)] h0 n0 (fun v h => v = none ∧ Keep h0 h [a1, ar] ∧ Exa Z h a1 "com/example/trellis/trellis/model/RegexOccurrences" ∧ Fld Z h a1 "com/example/trellis/trellis/model/RegexOccurrences" "least" "I" (.int le) ∧ Fld Z h a1 "com/example/trellis/trellis/model/RegexOccurrences" "most" "I" (.int mo) ∧ Fld Z h a1 "com/example/trellis/trellis/model/RegexOccurrences" "runs" "[I" (.ref ar) ∧ Fld Z h a1 "com/example/trellis/trellis/model/RegexOccurrences" "length" "I" (.int 3) ∧ Fld Z h a1 "com/example/trellis/trellis/model/RegexOccurrences" "room" "I" (.int ro) ∧ Al Z h ar .int [(.int y0), (.int y1), (.int y2)]) := by
  refine Con.of pf_9 (fun m => ef_9 m a1 a2) ?_
  intro p e s m below meth c C
  have K0 : Keep h0 h0 [a1, ar] := Keep.refl _ _
  refine W.aloadN C d9_0 rfl rfl ?_
  refine W.aloadN C d9_1 rfl rfl ?_
  refine W.getF C d9_2 (tkw hw 27 rfl) Via.refl u_least ?_
  refine W.putF C d9_5 (tkw hw 27 rfl) Via.refl t_least t_E (Or.inl (tkw hw 28 rfl)) (tkw hw 5 rfl) (ty := .int) (by decide) rfl rfl g_a1 ?_
  intro hp1 U2
  replace t_least := t_least.same U2
  replace t_E := t_E.wr U2
  replace t_most := t_most.other U2 (Or.inr (slot_ne (Or.inl (tkw hw 30 rfl)) (Or.inl (tkw hw 28 rfl)) (by decide) (t := .int) (t' := .int) (by decide) (by decide)))
  replace t_runs := t_runs.other U2 (Or.inr (slot_ne (Or.inl (tkw hw 15 rfl)) (Or.inl (tkw hw 28 rfl)) (by decide) (t := (.array .int)) (t' := .int) (by decide) (by decide)))
  replace t_length := t_length.other U2 (Or.inr (slot_ne (Or.inl (tkw hw 43 rfl)) (Or.inl (tkw hw 28 rfl)) (by decide) (t := .int) (t' := .int) (by decide) (by decide)))
  replace t_room := t_room.other U2 (Or.inr (slot_ne (Or.inl (tkw hw 17 rfl)) (Or.inl (tkw hw 28 rfl)) (by decide) (t := .int) (t' := .int) (by decide) (by decide)))
  replace t_A := t_A.other U2 (Ne.symm ne_a1_ar)
  replace u_E := u_E.wr U2
  replace u_least := u_least.other U2 (Or.inl ne_a2_a1)
  replace u_most := u_most.other U2 (Or.inl ne_a2_a1)
  replace u_runs := u_runs.other U2 (Or.inl ne_a2_a1)
  replace u_length := u_length.other U2 (Or.inl ne_a2_a1)
  replace u_room := u_room.other U2 (Or.inl ne_a2_a1)
  replace u_A := u_A.other U2 ne_as2_a1
  replace Z0 := Nat.le_trans Z0 (Nat.le_of_eq (U2.size).symm)
  replace K0 := K0.wr U2 (Or.inl (List.mem_of_getElem? (i := 0) rfl))
  refine W.aloadN C d9_8 rfl rfl ?_
  refine W.aloadN C d9_9 rfl rfl ?_
  refine W.getF C d9_10 (tkw hw 29 rfl) Via.refl u_most ?_
  refine W.putF C d9_13 (tkw hw 29 rfl) Via.refl t_most t_E (Or.inl (tkw hw 30 rfl)) (tkw hw 5 rfl) (ty := .int) (by decide) rfl rfl g_a1 ?_
  intro hp3 U4
  replace t_most := t_most.same U4
  replace t_E := t_E.wr U4
  replace t_least := t_least.other U4 (Or.inr (slot_ne (Or.inl (tkw hw 28 rfl)) (Or.inl (tkw hw 30 rfl)) (by decide) (t := .int) (t' := .int) (by decide) (by decide)))
  replace t_runs := t_runs.other U4 (Or.inr (slot_ne (Or.inl (tkw hw 15 rfl)) (Or.inl (tkw hw 30 rfl)) (by decide) (t := (.array .int)) (t' := .int) (by decide) (by decide)))
  replace t_length := t_length.other U4 (Or.inr (slot_ne (Or.inl (tkw hw 43 rfl)) (Or.inl (tkw hw 30 rfl)) (by decide) (t := .int) (t' := .int) (by decide) (by decide)))
  replace t_room := t_room.other U4 (Or.inr (slot_ne (Or.inl (tkw hw 17 rfl)) (Or.inl (tkw hw 30 rfl)) (by decide) (t := .int) (t' := .int) (by decide) (by decide)))
  replace t_A := t_A.other U4 (Ne.symm ne_a1_ar)
  replace u_E := u_E.wr U4
  replace u_least := u_least.other U4 (Or.inl ne_a2_a1)
  replace u_most := u_most.other U4 (Or.inl ne_a2_a1)
  replace u_runs := u_runs.other U4 (Or.inl ne_a2_a1)
  replace u_length := u_length.other U4 (Or.inl ne_a2_a1)
  replace u_room := u_room.other U4 (Or.inl ne_a2_a1)
  replace u_A := u_A.other U4 ne_as2_a1
  replace Z0 := Nat.le_trans Z0 (Nat.le_of_eq (U4.size).symm)
  replace K0 := K0.wr U4 (Or.inl (List.mem_of_getElem? (i := 0) rfl))
  refine W.aloadN C d9_16 rfl rfl ?_
  refine W.aloadN C d9_17 rfl rfl ?_
  refine W.getF C d9_18 (tkw hw 16 rfl) Via.refl u_room ?_
  refine W.putF C d9_21 (tkw hw 16 rfl) Via.refl t_room t_E (Or.inl (tkw hw 17 rfl)) (tkw hw 5 rfl) (ty := .int) (by decide) rfl rfl g_a1 ?_
  intro hp5 U6
  replace t_room := t_room.same U6
  replace t_E := t_E.wr U6
  replace t_least := t_least.other U6 (Or.inr (slot_ne (Or.inl (tkw hw 28 rfl)) (Or.inl (tkw hw 17 rfl)) (by decide) (t := .int) (t' := .int) (by decide) (by decide)))
  replace t_most := t_most.other U6 (Or.inr (slot_ne (Or.inl (tkw hw 30 rfl)) (Or.inl (tkw hw 17 rfl)) (by decide) (t := .int) (t' := .int) (by decide) (by decide)))
  replace t_runs := t_runs.other U6 (Or.inr (slot_ne (Or.inl (tkw hw 15 rfl)) (Or.inl (tkw hw 17 rfl)) (by decide) (t := (.array .int)) (t' := .int) (by decide) (by decide)))
  replace t_length := t_length.other U6 (Or.inr (slot_ne (Or.inl (tkw hw 43 rfl)) (Or.inl (tkw hw 17 rfl)) (by decide) (t := .int) (t' := .int) (by decide) (by decide)))
  replace t_A := t_A.other U6 (Ne.symm ne_a1_ar)
  replace u_E := u_E.wr U6
  replace u_least := u_least.other U6 (Or.inl ne_a2_a1)
  replace u_most := u_most.other U6 (Or.inl ne_a2_a1)
  replace u_runs := u_runs.other U6 (Or.inl ne_a2_a1)
  replace u_length := u_length.other U6 (Or.inl ne_a2_a1)
  replace u_room := u_room.other U6 (Or.inl ne_a2_a1)
  replace u_A := u_A.other U6 ne_as2_a1
  replace Z0 := Nat.le_trans Z0 (Nat.le_of_eq (U6.size).symm)
  replace K0 := K0.wr U6 (Or.inl (List.mem_of_getElem? (i := 0) rfl))
  refine W.aloadN C d9_24 rfl rfl ?_
  refine W.aloadN C d9_25 rfl rfl ?_
  refine W.getF C d9_26 (tkw hw 14 rfl) Via.refl t_runs ?_
  refine W.aloadN C d9_29 rfl rfl ?_
  refine W.getF C d9_30 (tkw hw 42 rfl) Via.refl u_length ?_
  refine W.callS C (y' := y10) d9_33 (tkw hw 57 rfl) (tkw hw 58 rfl) (tkw hw 6 rfl) (tkw hw 59 rfl) (by decide) (argsL := [(.ref ar), (.int (3 : Int32))]) (rest := [(.ref a1)]) rfl (lenOf pd_2 rfl) (con_10 l Z a0 hw hp5 n0 ar [(.int x0), (.int x1), (.int x2)] rfl t_A Z0) 1 0 0 rfl rfl rfl (by decide) (by decide) (by decide) (by decide) rfl ?_
  rintro _ _ ⟨rfl, rfl⟩
  refine W.putF C d9_36 (tkw hw 14 rfl) Via.refl t_runs t_E (Or.inl (tkw hw 15 rfl)) (tkw hw 5 rfl) (ty := (.array .int)) (by decide) rfl rfl g_a1 ?_
  intro hp7 U8
  replace t_runs := t_runs.same U8
  replace t_E := t_E.wr U8
  replace t_least := t_least.other U8 (Or.inr (slot_ne (Or.inl (tkw hw 28 rfl)) (Or.inl (tkw hw 15 rfl)) (by decide) (t := .int) (t' := (.array .int)) (by decide) (by decide)))
  replace t_most := t_most.other U8 (Or.inr (slot_ne (Or.inl (tkw hw 30 rfl)) (Or.inl (tkw hw 15 rfl)) (by decide) (t := .int) (t' := (.array .int)) (by decide) (by decide)))
  replace t_length := t_length.other U8 (Or.inr (slot_ne (Or.inl (tkw hw 43 rfl)) (Or.inl (tkw hw 15 rfl)) (by decide) (t := .int) (t' := (.array .int)) (by decide) (by decide)))
  replace t_room := t_room.other U8 (Or.inr (slot_ne (Or.inl (tkw hw 17 rfl)) (Or.inl (tkw hw 15 rfl)) (by decide) (t := .int) (t' := (.array .int)) (by decide) (by decide)))
  replace t_A := t_A.other U8 (Ne.symm ne_a1_ar)
  replace u_E := u_E.wr U8
  replace u_least := u_least.other U8 (Or.inl ne_a2_a1)
  replace u_most := u_most.other U8 (Or.inl ne_a2_a1)
  replace u_runs := u_runs.other U8 (Or.inl ne_a2_a1)
  replace u_length := u_length.other U8 (Or.inl ne_a2_a1)
  replace u_room := u_room.other U8 (Or.inl ne_a2_a1)
  replace u_A := u_A.other U8 ne_as2_a1
  replace Z0 := Nat.le_trans Z0 (Nat.le_of_eq (U8.size).symm)
  replace K0 := K0.wr U8 (Or.inl (List.mem_of_getElem? (i := 0) rfl))
  refine W.aloadN C d9_39 rfl rfl ?_
  refine W.getF C d9_40 (tkw hw 14 rfl) Via.refl u_runs ?_
  refine W.iconst C (0 : Int32) d9_43 rfl ?_
  refine W.aloadN C d9_44 rfl rfl ?_
  refine W.getF C d9_45 (tkw hw 14 rfl) Via.refl t_runs ?_
  refine W.iconst C (0 : Int32) d9_48 rfl ?_
  refine W.aloadN C d9_49 rfl rfl ?_
  refine W.getF C d9_50 (tkw hw 42 rfl) Via.refl u_length ?_
  refine W.arrcopy C 0 0 3 d9_53 (tkw hw 60 rfl) (tkw hw 63 rfl) (tkw hw 61 rfl) (tkw hw 62 rfl) u_A t_A rfl (by intro v hv; simp only [List.mem_cons, List.not_mem_nil, or_false] at hv; rcases hv with rfl | rfl | rfl <;> rfl) (by intro v hv; simp only [List.mem_cons, List.not_mem_nil, or_false] at hv; rcases hv with rfl | rfl | rfl <;> rfl) (show (3 : Nat) < 2147483648 by decide) (show (3 : Nat) < 2147483648 by decide) rfl rfl rfl (show (3 : Nat) ≤ 3 by decide) (show (3 : Nat) ≤ 3 by decide) g_ar 0 rfl (by decide) (by decide) rfl ?_
  intro hp9 Kc L_
  replace t_E := t_E.keep Kc
  replace t_least := t_least.keep Kc (ninS ne_a1_ar nin0)
  replace t_most := t_most.keep Kc (ninS ne_a1_ar nin0)
  replace t_runs := t_runs.keep Kc (ninS ne_a1_ar nin0)
  replace t_length := t_length.keep Kc (ninS ne_a1_ar nin0)
  replace t_room := t_room.keep Kc (ninS ne_a1_ar nin0)
  replace u_E := u_E.keep Kc
  replace u_least := u_least.keep Kc (ninS ne_a2_ar nin0)
  replace u_most := u_most.keep Kc (ninS ne_a2_ar nin0)
  replace u_runs := u_runs.keep Kc (ninS ne_a2_ar nin0)
  replace u_length := u_length.keep Kc (ninS ne_a2_ar nin0)
  replace u_room := u_room.keep Kc (ninS ne_a2_ar nin0)
  replace u_A := u_A.keep Kc (ninS ne_as2_ar nin0)
  replace Z0 := Nat.le_trans Z0 Kc.1
  replace K0 := K0.trans Kc (allS (Or.inl (List.mem_of_getElem? (i := 1) rfl)) all0)
  replace t_A : Al Z hp9 ar .int [(.int y0), (.int y1), (.int y2)] := L_
  refine W.aloadN C d9_56 rfl rfl ?_
  refine W.aloadN C d9_57 rfl rfl ?_
  refine W.getF C d9_58 (tkw hw 42 rfl) Via.refl u_length ?_
  refine W.putF C d9_61 (tkw hw 42 rfl) Via.refl t_length t_E (Or.inl (tkw hw 43 rfl)) (tkw hw 5 rfl) (ty := .int) (by decide) rfl rfl g_a1 ?_
  intro hp10 U11
  replace t_length := t_length.same U11
  replace t_E := t_E.wr U11
  replace t_least := t_least.other U11 (Or.inr (slot_ne (Or.inl (tkw hw 28 rfl)) (Or.inl (tkw hw 43 rfl)) (by decide) (t := .int) (t' := .int) (by decide) (by decide)))
  replace t_most := t_most.other U11 (Or.inr (slot_ne (Or.inl (tkw hw 30 rfl)) (Or.inl (tkw hw 43 rfl)) (by decide) (t := .int) (t' := .int) (by decide) (by decide)))
  replace t_runs := t_runs.other U11 (Or.inr (slot_ne (Or.inl (tkw hw 15 rfl)) (Or.inl (tkw hw 43 rfl)) (by decide) (t := (.array .int)) (t' := .int) (by decide) (by decide)))
  replace t_room := t_room.other U11 (Or.inr (slot_ne (Or.inl (tkw hw 17 rfl)) (Or.inl (tkw hw 43 rfl)) (by decide) (t := .int) (t' := .int) (by decide) (by decide)))
  replace t_A := t_A.other U11 (Ne.symm ne_a1_ar)
  replace u_E := u_E.wr U11
  replace u_least := u_least.other U11 (Or.inl ne_a2_a1)
  replace u_most := u_most.other U11 (Or.inl ne_a2_a1)
  replace u_runs := u_runs.other U11 (Or.inl ne_a2_a1)
  replace u_length := u_length.other U11 (Or.inl ne_a2_a1)
  replace u_room := u_room.other U11 (Or.inl ne_a2_a1)
  replace u_A := u_A.other U11 ne_as2_a1
  replace Z0 := Nat.le_trans Z0 (Nat.le_of_eq (U11.size).symm)
  replace K0 := K0.wr U11 (Or.inl (List.mem_of_getElem? (i := 0) rfl))
  exact W.retV C d9_64 (by decide) (by decide) ⟨rfl, K0, t_E, t_least, t_most, t_runs, t_length, t_room, t_A⟩

abbrev y8 : MethodName := ⟨"com/example/trellis/trellis/model/RegexOccurrences", "setOneMore", "(Lcom/example/trellis/trellis/model/RegexOccurrences;)V"⟩
theorem d8_0 : decode prog_65_method_5_code 0 = .ok (.aload_n 0, 1) := by decide +kernel
theorem d8_1 : decode prog_65_method_5_code 1 = .ok (.aload_n 1, 1) := by decide +kernel
theorem d8_2 : decode prog_65_method_5_code 2 = .ok (.invokevirtual 30, 3) := by decide +kernel
theorem d8_5 : decode prog_65_method_5_code 5 = .ok (.aload_n 0, 1) := by decide +kernel
theorem d8_6 : decode prog_65_method_5_code 6 = .ok (.getfield 13, 3) := by decide +kernel
theorem d8_9 : decode prog_65_method_5_code 9 = .ok (.ldc 26, 2) := by decide +kernel
theorem d8_11 : decode prog_65_method_5_code 11 = .ok (.if_icmp .eq 17, 3) := by decide +kernel
theorem d8_14 : decode prog_65_method_5_code 14 = .ok (.aload_n 0, 1) := by decide +kernel
theorem d8_15 : decode prog_65_method_5_code 15 = .ok (.aload_n 0, 1) := by decide +kernel
theorem d8_16 : decode prog_65_method_5_code 16 = .ok (.getfield 13, 3) := by decide +kernel
theorem d8_19 : decode prog_65_method_5_code 19 = .ok (.iconst 1, 1) := by decide +kernel
theorem d8_20 : decode prog_65_method_5_code 20 = .ok (.isub, 1) := by decide +kernel
theorem d8_21 : decode prog_65_method_5_code 21 = .ok (.iconst (-1), 1) := by decide +kernel
theorem d8_22 : decode prog_65_method_5_code 22 = .ok (.invokestatic 44, 3) := by decide +kernel
theorem d8_25 : decode prog_65_method_5_code 25 = .ok (.putfield 13, 3) := by decide +kernel
theorem d8_28 : decode prog_65_method_5_code 28 = .ok (.iconst 0, 1) := by decide +kernel
theorem d8_29 : decode prog_65_method_5_code 29 = .ok (.istore_n 2, 1) := by decide +kernel
theorem d8_30 : decode prog_65_method_5_code 30 = .ok (.iload_n 2, 1) := by decide +kernel
theorem d8_31 : decode prog_65_method_5_code 31 = .ok (.aload_n 0, 1) := by decide +kernel
theorem d8_32 : decode prog_65_method_5_code 32 = .ok (.getfield 27, 3) := by decide +kernel
theorem d8_35 : decode prog_65_method_5_code 35 = .ok (.if_icmp .ge 31, 3) := by decide +kernel
theorem d8_38 : decode prog_65_method_5_code 38 = .ok (.aload_n 0, 1) := by decide +kernel
theorem d8_39 : decode prog_65_method_5_code 39 = .ok (.getfield 9, 3) := by decide +kernel
theorem d8_42 : decode prog_65_method_5_code 42 = .ok (.iload_n 2, 1) := by decide +kernel
theorem d8_43 : decode prog_65_method_5_code 43 = .ok (.dup2, 1) := by decide +kernel
theorem d8_44 : decode prog_65_method_5_code 44 = .ok (.iaload, 1) := by decide +kernel
theorem d8_45 : decode prog_65_method_5_code 45 = .ok (.iconst 1, 1) := by decide +kernel
theorem d8_46 : decode prog_65_method_5_code 46 = .ok (.iadd, 1) := by decide +kernel
theorem d8_47 : decode prog_65_method_5_code 47 = .ok (.iastore, 1) := by decide +kernel
theorem d8_48 : decode prog_65_method_5_code 48 = .ok (.aload_n 0, 1) := by decide +kernel
theorem d8_49 : decode prog_65_method_5_code 49 = .ok (.getfield 9, 3) := by decide +kernel
theorem d8_52 : decode prog_65_method_5_code 52 = .ok (.iload_n 2, 1) := by decide +kernel
theorem d8_53 : decode prog_65_method_5_code 53 = .ok (.iconst 1, 1) := by decide +kernel
theorem d8_54 : decode prog_65_method_5_code 54 = .ok (.iadd, 1) := by decide +kernel
theorem d8_55 : decode prog_65_method_5_code 55 = .ok (.dup2, 1) := by decide +kernel
theorem d8_56 : decode prog_65_method_5_code 56 = .ok (.iaload, 1) := by decide +kernel
theorem d8_57 : decode prog_65_method_5_code 57 = .ok (.iconst 1, 1) := by decide +kernel
theorem d8_58 : decode prog_65_method_5_code 58 = .ok (.iadd, 1) := by decide +kernel
theorem d8_59 : decode prog_65_method_5_code 59 = .ok (.iastore, 1) := by decide +kernel
theorem d8_60 : decode prog_65_method_5_code 60 = .ok (.iinc 2 3, 3) := by decide +kernel
theorem d8_63 : decode prog_65_method_5_code 63 = .ok (.goto (-33), 3) := by decide +kernel
theorem d8_66 : decode prog_65_method_5_code 66 = .ok (.aload_n 0, 1) := by decide +kernel
theorem d8_67 : decode prog_65_method_5_code 67 = .ok (.getfield 27, 3) := by decide +kernel
theorem d8_70 : decode prog_65_method_5_code 70 = .ok (.iconst 3, 1) := by decide +kernel
theorem d8_71 : decode prog_65_method_5_code 71 = .ok (.isub, 1) := by decide +kernel
theorem d8_72 : decode prog_65_method_5_code 72 = .ok (.istore_n 2, 1) := by decide +kernel
theorem d8_73 : decode prog_65_method_5_code 73 = .ok (.aload_n 0, 1) := by decide +kernel
theorem d8_74 : decode prog_65_method_5_code 74 = .ok (.getfield 27, 3) := by decide +kernel
theorem d8_77 : decode prog_65_method_5_code 77 = .ok (.ifCond .le 94, 3) := by decide +kernel
theorem d8_80 : decode prog_65_method_5_code 80 = .ok (.aload_n 0, 1) := by decide +kernel
theorem d8_81 : decode prog_65_method_5_code 81 = .ok (.getfield 9, 3) := by decide +kernel
theorem d8_84 : decode prog_65_method_5_code 84 = .ok (.iload_n 2, 1) := by decide +kernel
theorem d8_85 : decode prog_65_method_5_code 85 = .ok (.iconst 1, 1) := by decide +kernel
theorem d8_86 : decode prog_65_method_5_code 86 = .ok (.iadd, 1) := by decide +kernel
theorem d8_87 : decode prog_65_method_5_code 87 = .ok (.iaload, 1) := by decide +kernel
theorem d8_88 : decode prog_65_method_5_code 88 = .ok (.aload_n 0, 1) := by decide +kernel
theorem d8_89 : decode prog_65_method_5_code 89 = .ok (.getfield 18, 3) := by decide +kernel
theorem d8_92 : decode prog_65_method_5_code 92 = .ok (.if_icmp .ne 79, 3) := by decide +kernel
theorem d8_95 : decode prog_65_method_5_code 95 = .ok (.aload_n 0, 1) := by decide +kernel
theorem d8_96 : decode prog_65_method_5_code 96 = .ok (.getfield 9, 3) := by decide +kernel
theorem d8_99 : decode prog_65_method_5_code 99 = .ok (.iload_n 2, 1) := by decide +kernel
theorem d8_100 : decode prog_65_method_5_code 100 = .ok (.iaload, 1) := by decide +kernel
theorem d8_101 : decode prog_65_method_5_code 101 = .ok (.aload_n 0, 1) := by decide +kernel
theorem d8_102 : decode prog_65_method_5_code 102 = .ok (.getfield 18, 3) := by decide +kernel
theorem d8_105 : decode prog_65_method_5_code 105 = .ok (.if_icmp .ne 11, 3) := by decide +kernel
theorem d8_108 : decode prog_65_method_5_code 108 = .ok (.aload_n 0, 1) := by decide +kernel
theorem d8_109 : decode prog_65_method_5_code 109 = .ok (.iload_n 2, 1) := by decide +kernel
theorem d8_110 : decode prog_65_method_5_code 110 = .ok (.putfield 27, 3) := by decide +kernel
theorem d8_113 : decode prog_65_method_5_code 113 = .ok (.goto 22, 3) := by decide +kernel
theorem d8_116 : decode prog_65_method_5_code 116 = .ok (.aload_n 0, 1) := by decide +kernel
theorem d8_117 : decode prog_65_method_5_code 117 = .ok (.getfield 9, 3) := by decide +kernel
theorem d8_120 : decode prog_65_method_5_code 120 = .ok (.iload_n 2, 1) := by decide +kernel
theorem d8_121 : decode prog_65_method_5_code 121 = .ok (.iconst 1, 1) := by decide +kernel
theorem d8_122 : decode prog_65_method_5_code 122 = .ok (.iadd, 1) := by decide +kernel
theorem d8_123 : decode prog_65_method_5_code 123 = .ok (.dup2, 1) := by decide +kernel
theorem d8_124 : decode prog_65_method_5_code 124 = .ok (.iaload, 1) := by decide +kernel
theorem d8_125 : decode prog_65_method_5_code 125 = .ok (.aload_n 0, 1) := by decide +kernel
theorem d8_126 : decode prog_65_method_5_code 126 = .ok (.getfield 9, 3) := by decide +kernel
theorem d8_129 : decode prog_65_method_5_code 129 = .ok (.iload_n 2, 1) := by decide +kernel
theorem d8_130 : decode prog_65_method_5_code 130 = .ok (.iconst 2, 1) := by decide +kernel
theorem d8_131 : decode prog_65_method_5_code 131 = .ok (.iadd, 1) := by decide +kernel
theorem d8_132 : decode prog_65_method_5_code 132 = .ok (.iaload, 1) := by decide +kernel
theorem d8_133 : decode prog_65_method_5_code 133 = .ok (.isub, 1) := by decide +kernel
theorem d8_134 : decode prog_65_method_5_code 134 = .ok (.iastore, 1) := by decide +kernel
theorem d8_135 : decode prog_65_method_5_code 135 = .ok (.aload_n 0, 1) := by decide +kernel
theorem d8_136 : decode prog_65_method_5_code 136 = .ok (.aload_n 0, 1) := by decide +kernel
theorem d8_137 : decode prog_65_method_5_code 137 = .ok (.getfield 13, 3) := by decide +kernel
theorem d8_140 : decode prog_65_method_5_code 140 = .ok (.aload_n 0, 1) := by decide +kernel
theorem d8_141 : decode prog_65_method_5_code 141 = .ok (.getfield 21, 3) := by decide +kernel
theorem d8_144 : decode prog_65_method_5_code 144 = .ok (.ldc 26, 2) := by decide +kernel
theorem d8_146 : decode prog_65_method_5_code 146 = .ok (.if_icmp .ne 10, 3) := by decide +kernel
theorem d8_149 : decode prog_65_method_5_code 149 = .ok (.aload_n 0, 1) := by decide +kernel
theorem d8_150 : decode prog_65_method_5_code 150 = .ok (.getfield 21, 3) := by decide +kernel
theorem d8_153 : decode prog_65_method_5_code 153 = .ok (.goto 12, 3) := by decide +kernel
theorem d8_156 : decode prog_65_method_5_code 156 = .ok (.aload_n 0, 1) := by decide +kernel
theorem d8_157 : decode prog_65_method_5_code 157 = .ok (.getfield 21, 3) := by decide +kernel
theorem d8_160 : decode prog_65_method_5_code 160 = .ok (.aload_n 0, 1) := by decide +kernel
theorem d8_161 : decode prog_65_method_5_code 161 = .ok (.getfield 18, 3) := by decide +kernel
theorem d8_164 : decode prog_65_method_5_code 164 = .ok (.isub, 1) := by decide +kernel
theorem d8_165 : decode prog_65_method_5_code 165 = .ok (.invokestatic 44, 3) := by decide +kernel
theorem d8_168 : decode prog_65_method_5_code 168 = .ok (.putfield 13, 3) := by decide +kernel
theorem d8_171 : decode prog_65_method_5_code 171 = .ok (.return_, 1) := by decide +kernel
theorem pf_8 : plainFor y8 = true := by first | exact plainFor_of_name (by first | (simp [plainName, overriddenIn]; done) | decide +kernel) | decide +kernel
theorem ef_8 (m : MethodId) (a1 : Addr) (a2 : Addr) : entryFrame m #[(.ref a1), (.ref a2)] 3 = mkF m 0 #[.val (.ref a1), .val (.ref a2), .unset] [] := by first | (simp [entryFrame, mkF, argsToLocals, Value.category]; done) | rfl
theorem pd_4 : parseMethodDescriptor "(Lcom/example/trellis/trellis/model/RegexOccurrences;)V" = some ⟨[(.object "com/example/trellis/trellis/model/RegexOccurrences")], none⟩ := by decide +kernel
set_option maxRecDepth 65536 in
set_option maxHeartbeats 40000000 in
theorem con_8 (l : Launch) (Z : State) (a0 : Array Value) (hw : ∀ d ∈ tables_1, d.before a0 Z = true) (h0 : Heap) (n0 : Nat) (a1 : Addr) (a2 : Addr) (ar as2 : Addr) (le0 mo0 l0 ro0 x0 x1 x2 : Int32) (le mo : Int32) (hle : ¬ (2 : Int32) = le) (t_E : Exa Z h0 a1 "com/example/trellis/trellis/model/RegexOccurrences") (t_least : Fld Z h0 a1 "com/example/trellis/trellis/model/RegexOccurrences" "least" "I" (.int le0)) (t_most : Fld Z h0 a1 "com/example/trellis/trellis/model/RegexOccurrences" "most" "I" (.int mo0)) (t_runs : Fld Z h0 a1 "com/example/trellis/trellis/model/RegexOccurrences" "runs" "[I" (.ref ar)) (t_length : Fld Z h0 a1 "com/example/trellis/trellis/model/RegexOccurrences" "length" "I" (.int l0)) (t_room : Fld Z h0 a1 "com/example/trellis/trellis/model/RegexOccurrences" "room" "I" (.int ro0)) (t_A : Al Z h0 ar .int [(.int x0), (.int x1), (.int x2)]) (u_E : Exa Z h0 a2 "com/example/trellis/trellis/model/RegexOccurrences") (u_least : Fld Z h0 a2 "com/example/trellis/trellis/model/RegexOccurrences" "least" "I" (.int le)) (u_most : Fld Z h0 a2 "com/example/trellis/trellis/model/RegexOccurrences" "most" "I" (.int mo)) (u_runs : Fld Z h0 a2 "com/example/trellis/trellis/model/RegexOccurrences" "runs" "[I" (.ref as2)) (u_length : Fld Z h0 a2 "com/example/trellis/trellis/model/RegexOccurrences" "length" "I" (.int 3)) (u_room : Fld Z h0 a2 "com/example/trellis/trellis/model/RegexOccurrences" "room" "I" (.int (-1))) (u_A : Al Z h0 as2 .int [(.int 1), (.int 1), (.int 1)]) (g_a1 : n0 ≤ a1) (g_ar : n0 ≤ ar) (ne_a2_a1 : a2 ≠ a1) (ne_as2_ar : as2 ≠ ar) (ne_a1_ar : a1 ≠ ar) (ne_a2_ar : a2 ≠ ar) (ne_as2_a1 : as2 ≠ a1)  (Z0 : n0 ≤ h0.size) : Con l Z y8 prog_65_method_5_code 3 none ({ frames := 2, cells := 0, slots := 0, locals := 53 } : Room) #[(.ref a1), (.ref a2)] h0 n0 (fun v h => v = none ∧ Keep h0 h [a1, ar] ∧ Exa Z h a1 "com/example/trellis/trellis/model/RegexOccurrences" ∧ Fld Z h a1 "com/example/trellis/trellis/model/RegexOccurrences" "least" "I" (.int le) ∧ Fld Z h a1 "com/example/trellis/trellis/model/RegexOccurrences" "most" "I" (.int mo) ∧ Fld Z h a1 "com/example/trellis/trellis/model/RegexOccurrences" "runs" "[I" (.ref ar) ∧ Fld Z h a1 "com/example/trellis/trellis/model/RegexOccurrences" "length" "I" (.int 3) ∧ Fld Z h a1 "com/example/trellis/trellis/model/RegexOccurrences" "room" "I" (.int (-1)) ∧ Al Z h ar .int [(.int 2), (.int 2), (.int 1)]) := by
  refine Con.of pf_8 (fun m => ef_8 m a1 a2) ?_
  intro p e s m below meth c C
  have K0 : Keep h0 h0 [a1, ar] := Keep.refl _ _
  refine W.aloadN C d8_0 rfl rfl ?_
  refine W.aloadN C d8_1 rfl rfl ?_
  refine W.callV C (y' := y9) d8_2 (tkw hw 52 rfl) (tkw hw 53 rfl) (tkw hw 55 rfl) (tkw hw 54 rfl) (tkw hw 6 rfl) (tkw hw 56 rfl) (by decide) t_E (argsL := [(.ref a2)]) (rest := []) rfl (lenOf pd_4 rfl) (con_9 l Z a0 hw h0 n0 a1 a2 ar as2 le0 mo0 l0 ro0 x0 x1 x2 le mo (-1) 1 1 1 t_E t_least t_most t_runs t_length t_room t_A u_E u_least u_most u_runs u_length u_room u_A g_a1 g_ar ne_a2_a1 ne_as2_ar ne_a1_ar ne_a2_ar ne_as2_a1 Z0) 0 0 0 rfl rfl rfl (by decide) (by decide) (by decide) (by decide) rfl ?_
  rintro _ hp1 ⟨rfl, Kc, t_E, t_least, t_most, t_runs, t_length, t_room, t_A⟩
  replace Z0 := Nat.le_trans Z0 Kc.1
  replace K0 := K0.trans Kc (allS (Or.inl (List.mem_of_getElem? (i := 0) rfl)) (allS (Or.inl (List.mem_of_getElem? (i := 1) rfl)) all0))
  refine W.aloadN C d8_5 rfl rfl ?_
  refine W.getF C d8_6 (tkw hw 16 rfl) Via.refl t_room ?_
  refine W.ldcI C (v := (2147483647 : Int32)) d8_9 (tkw hw 31 rfl) ?_
  refine W.icmp_eq C 28 d8_11 rfl (fun b => absurd b (by decide)) (fun _ => ?_)
  refine W.aloadN C d8_14 rfl rfl ?_
  refine W.aloadN C d8_15 rfl rfl ?_
  refine W.getF C d8_16 (tkw hw 16 rfl) Via.refl t_room ?_
  refine W.iconst C (1 : Int32) d8_19 rfl ?_
  refine W.isubV C (-2 : Int32) d8_20 (by decide) ?_
  refine W.iconst C (-1 : Int32) d8_21 rfl ?_
  refine W.callS C (y' := y4) d8_22 (tkw hw 64 rfl) (tkw hw 19 rfl) (tkw hw 20 rfl) (tkw hw 21 rfl) (by decide) (argsL := [(.int (-2 : Int32)), (.int (-1 : Int32))]) (rest := [(.ref a1)]) rfl (lenOf pd_1 rfl) (con_4 l Z a0 hw hp1 n0 (-2 : Int32) (-1 : Int32)) 1 0 0 rfl rfl rfl (by decide) (by decide) (by decide) (by decide) rfl ?_
  rintro _ _ ⟨rfl, rfl⟩
  rw [show own_max (-2 : Int32) (-1 : Int32) = -1 by decide]
  refine W.putF C d8_25 (tkw hw 16 rfl) Via.refl t_room t_E (Or.inl (tkw hw 17 rfl)) (tkw hw 5 rfl) (ty := .int) (by decide) rfl rfl g_a1 ?_
  intro hp2 U3
  replace t_room := t_room.same U3
  replace t_E := t_E.wr U3
  replace t_least := t_least.other U3 (Or.inr (slot_ne (Or.inl (tkw hw 28 rfl)) (Or.inl (tkw hw 17 rfl)) (by decide) (t := .int) (t' := .int) (by decide) (by decide)))
  replace t_most := t_most.other U3 (Or.inr (slot_ne (Or.inl (tkw hw 30 rfl)) (Or.inl (tkw hw 17 rfl)) (by decide) (t := .int) (t' := .int) (by decide) (by decide)))
  replace t_runs := t_runs.other U3 (Or.inr (slot_ne (Or.inl (tkw hw 15 rfl)) (Or.inl (tkw hw 17 rfl)) (by decide) (t := (.array .int)) (t' := .int) (by decide) (by decide)))
  replace t_length := t_length.other U3 (Or.inr (slot_ne (Or.inl (tkw hw 43 rfl)) (Or.inl (tkw hw 17 rfl)) (by decide) (t := .int) (t' := .int) (by decide) (by decide)))
  replace t_A := t_A.other U3 (Ne.symm ne_a1_ar)
  replace Z0 := Nat.le_trans Z0 (Nat.le_of_eq (U3.size).symm)
  replace K0 := K0.wr U3 (Or.inl (List.mem_of_getElem? (i := 0) rfl))
  refine W.iconst C (0 : Int32) d8_28 rfl ?_
  refine W.istoreN C #[.val (.ref a1), .val (.ref a2), .val (.int (0 : Int32))] d8_29 rfl ?_
  refine W.iloadN C d8_30 rfl ?_
  refine W.aloadN C d8_31 rfl rfl ?_
  refine W.getF C d8_32 (tkw hw 42 rfl) Via.refl t_length ?_
  refine W.icmp_ge C 66 d8_35 rfl (fun b => absurd b (by decide)) (fun _ => ?_)
  refine W.aloadN C d8_38 rfl rfl ?_
  refine W.getF C d8_39 (tkw hw 14 rfl) Via.refl t_runs ?_
  refine W.iloadN C d8_42 rfl ?_
  refine W.dup2 C d8_43 rfl rfl ?_
  refine W.iaload C 0 d8_44 t_A rfl rfl ?_
  refine W.iconst C (1 : Int32) d8_45 rfl ?_
  refine W.iaddV C (2 : Int32) d8_46 (by decide) ?_
  refine W.iastore C 0 d8_47 t_A rfl (show (0 : Nat) < 3 by decide) g_ar ?_
  intro hp4 U5 t_A_
  replace t_E := t_E.wr U5
  replace t_least := t_least.other U5 (Or.inl ne_a1_ar)
  replace t_most := t_most.other U5 (Or.inl ne_a1_ar)
  replace t_runs := t_runs.other U5 (Or.inl ne_a1_ar)
  replace t_length := t_length.other U5 (Or.inl ne_a1_ar)
  replace t_room := t_room.other U5 (Or.inl ne_a1_ar)
  replace Z0 := Nat.le_trans Z0 (Nat.le_of_eq (U5.size).symm)
  replace K0 := K0.wr U5 (Or.inl (List.mem_of_getElem? (i := 1) rfl))
  replace t_A : Al Z hp4 ar .int [(.int (2 : Int32)), (.int (1 : Int32)), (.int (1 : Int32))] := t_A_
  refine W.aloadN C d8_48 rfl rfl ?_
  refine W.getF C d8_49 (tkw hw 14 rfl) Via.refl t_runs ?_
  refine W.iloadN C d8_52 rfl ?_
  refine W.iconst C (1 : Int32) d8_53 rfl ?_
  refine W.iaddV C (1 : Int32) d8_54 (by decide) ?_
  refine W.dup2 C d8_55 rfl rfl ?_
  refine W.iaload C 1 d8_56 t_A rfl rfl ?_
  refine W.iconst C (1 : Int32) d8_57 rfl ?_
  refine W.iaddV C (2 : Int32) d8_58 (by decide) ?_
  refine W.iastore C 1 d8_59 t_A rfl (show (1 : Nat) < 3 by decide) g_ar ?_
  intro hp6 U7 t_A_
  replace t_E := t_E.wr U7
  replace t_least := t_least.other U7 (Or.inl ne_a1_ar)
  replace t_most := t_most.other U7 (Or.inl ne_a1_ar)
  replace t_runs := t_runs.other U7 (Or.inl ne_a1_ar)
  replace t_length := t_length.other U7 (Or.inl ne_a1_ar)
  replace t_room := t_room.other U7 (Or.inl ne_a1_ar)
  replace Z0 := Nat.le_trans Z0 (Nat.le_of_eq (U7.size).symm)
  replace K0 := K0.wr U7 (Or.inl (List.mem_of_getElem? (i := 1) rfl))
  replace t_A : Al Z hp6 ar .int [(.int (2 : Int32)), (.int (2 : Int32)), (.int (1 : Int32))] := t_A_
  refine W.iinc C (3 : Int32) #[.val (.ref a1), .val (.ref a2), .val (.int (3 : Int32))] d8_60 rfl rfl rfl ?_
  refine W.goto C 30 d8_63 rfl ?_
  refine W.iloadN C d8_30 rfl ?_
  refine W.aloadN C d8_31 rfl rfl ?_
  refine W.getF C d8_32 (tkw hw 42 rfl) Via.refl t_length ?_
  refine W.icmp_ge C 66 d8_35 rfl (fun _ => ?_) (fun b => absurd b (by decide))
  refine W.aloadN C d8_66 rfl rfl ?_
  refine W.getF C d8_67 (tkw hw 42 rfl) Via.refl t_length ?_
  refine W.iconst C (3 : Int32) d8_70 rfl ?_
  refine W.isubV C (0 : Int32) d8_71 (by decide) ?_
  refine W.istoreN C #[.val (.ref a1), .val (.ref a2), .val (.int (0 : Int32))] d8_72 rfl ?_
  refine W.aloadN C d8_73 rfl rfl ?_
  refine W.getF C d8_74 (tkw hw 42 rfl) Via.refl t_length ?_
  refine W.if_le C 171 d8_77 rfl (fun b => absurd b (by decide)) (fun _ => ?_)
  refine W.aloadN C d8_80 rfl rfl ?_
  refine W.getF C d8_81 (tkw hw 14 rfl) Via.refl t_runs ?_
  refine W.iloadN C d8_84 rfl ?_
  refine W.iconst C (1 : Int32) d8_85 rfl ?_
  refine W.iaddV C (1 : Int32) d8_86 (by decide) ?_
  refine W.iaload C 1 d8_87 t_A rfl rfl ?_
  refine W.aloadN C d8_88 rfl rfl ?_
  refine W.getF C d8_89 (tkw hw 27 rfl) Via.refl t_least ?_
  refine W.icmp_ne C 171 d8_92 rfl (fun b1 => ?_) (fun b1 => absurd b1 hle)
  exact W.retV C d8_171 (by decide) (by decide) ⟨rfl, K0, t_E, t_least, t_most, t_runs, t_length, t_room, t_A⟩

abbrev y7 : MethodName := ⟨"com/example/trellis/trellis/model/RegexOccurrences", "hash", "()I"⟩
theorem d7_0 : decode prog_65_method_10_code 0 = .ok (.aload_n 0, 1) := by decide +kernel
theorem d7_1 : decode prog_65_method_10_code 1 = .ok (.getfield 13, 3) := by decide +kernel
theorem d7_4 : decode prog_65_method_10_code 4 = .ok (.istore_n 1, 1) := by decide +kernel
theorem d7_5 : decode prog_65_method_10_code 5 = .ok (.iconst 0, 1) := by decide +kernel
theorem d7_6 : decode prog_65_method_10_code 6 = .ok (.istore_n 2, 1) := by decide +kernel
theorem d7_7 : decode prog_65_method_10_code 7 = .ok (.iload_n 2, 1) := by decide +kernel
theorem d7_8 : decode prog_65_method_10_code 8 = .ok (.aload_n 0, 1) := by decide +kernel
theorem d7_9 : decode prog_65_method_10_code 9 = .ok (.getfield 27, 3) := by decide +kernel
theorem d7_12 : decode prog_65_method_10_code 12 = .ok (.if_icmp .ge 21, 3) := by decide +kernel
theorem d7_15 : decode prog_65_method_10_code 15 = .ok (.iload_n 1, 1) := by decide +kernel
theorem d7_16 : decode prog_65_method_10_code 16 = .ok (.bipush 31, 2) := by decide +kernel
theorem d7_18 : decode prog_65_method_10_code 18 = .ok (.imul, 1) := by decide +kernel
theorem d7_19 : decode prog_65_method_10_code 19 = .ok (.aload_n 0, 1) := by decide +kernel
theorem d7_20 : decode prog_65_method_10_code 20 = .ok (.getfield 9, 3) := by decide +kernel
theorem d7_23 : decode prog_65_method_10_code 23 = .ok (.iload_n 2, 1) := by decide +kernel
theorem d7_24 : decode prog_65_method_10_code 24 = .ok (.iaload, 1) := by decide +kernel
theorem d7_25 : decode prog_65_method_10_code 25 = .ok (.iadd, 1) := by decide +kernel
theorem d7_26 : decode prog_65_method_10_code 26 = .ok (.istore_n 1, 1) := by decide +kernel
theorem d7_27 : decode prog_65_method_10_code 27 = .ok (.iinc 2 1, 3) := by decide +kernel
theorem d7_30 : decode prog_65_method_10_code 30 = .ok (.goto (-23), 3) := by decide +kernel
theorem d7_33 : decode prog_65_method_10_code 33 = .ok (.iload_n 1, 1) := by decide +kernel
theorem d7_34 : decode prog_65_method_10_code 34 = .ok (.iload_n 1, 1) := by decide +kernel
theorem d7_35 : decode prog_65_method_10_code 35 = .ok (.bipush 16, 2) := by decide +kernel
theorem d7_37 : decode prog_65_method_10_code 37 = .ok (.iushr, 1) := by decide +kernel
theorem d7_38 : decode prog_65_method_10_code 38 = .ok (.ixor, 1) := by decide +kernel
theorem d7_39 : decode prog_65_method_10_code 39 = .ok (.istore_n 1, 1) := by decide +kernel
theorem d7_40 : decode prog_65_method_10_code 40 = .ok (.iload_n 1, 1) := by decide +kernel
theorem d7_41 : decode prog_65_method_10_code 41 = .ok (.ldc 61, 2) := by decide +kernel
theorem d7_43 : decode prog_65_method_10_code 43 = .ok (.imul, 1) := by decide +kernel
theorem d7_44 : decode prog_65_method_10_code 44 = .ok (.istore_n 1, 1) := by decide +kernel
theorem d7_45 : decode prog_65_method_10_code 45 = .ok (.iload_n 1, 1) := by decide +kernel
theorem d7_46 : decode prog_65_method_10_code 46 = .ok (.iload_n 1, 1) := by decide +kernel
theorem d7_47 : decode prog_65_method_10_code 47 = .ok (.bipush 13, 2) := by decide +kernel
theorem d7_49 : decode prog_65_method_10_code 49 = .ok (.iushr, 1) := by decide +kernel
theorem d7_50 : decode prog_65_method_10_code 50 = .ok (.ixor, 1) := by decide +kernel
theorem d7_51 : decode prog_65_method_10_code 51 = .ok (.istore_n 1, 1) := by decide +kernel
theorem d7_52 : decode prog_65_method_10_code 52 = .ok (.iload_n 1, 1) := by decide +kernel
theorem d7_53 : decode prog_65_method_10_code 53 = .ok (.ldc 62, 2) := by decide +kernel
theorem d7_55 : decode prog_65_method_10_code 55 = .ok (.imul, 1) := by decide +kernel
theorem d7_56 : decode prog_65_method_10_code 56 = .ok (.istore_n 1, 1) := by decide +kernel
theorem d7_57 : decode prog_65_method_10_code 57 = .ok (.iload_n 1, 1) := by decide +kernel
theorem d7_58 : decode prog_65_method_10_code 58 = .ok (.iload_n 1, 1) := by decide +kernel
theorem d7_59 : decode prog_65_method_10_code 59 = .ok (.bipush 16, 2) := by decide +kernel
theorem d7_61 : decode prog_65_method_10_code 61 = .ok (.iushr, 1) := by decide +kernel
theorem d7_62 : decode prog_65_method_10_code 62 = .ok (.ixor, 1) := by decide +kernel
theorem d7_63 : decode prog_65_method_10_code 63 = .ok (.ireturn, 1) := by decide +kernel
theorem pf_7 : plainFor y7 = true := by first | exact plainFor_of_name (by first | (simp [plainName, overriddenIn]; done) | decide +kernel) | decide +kernel
theorem ef_7_0 (m : MethodId) (a1 : Addr) : entryFrame m #[(.ref a1)] 3 = mkF m 0 #[.val (.ref a1), .unset, .unset] [] := by first | (simp [entryFrame, mkF, argsToLocals, Value.category]; done) | rfl
def own_h0 (ro : Int32) (x0 : Int32) (x1 : Int32) (x2 : Int32) : Int32 := (((((ro ^^^ ((ro).toUInt32 >>> ((16 : Int32) &&& 31).toUInt32).toInt32) * (-2048144789 : Int32)) ^^^ ((((ro ^^^ ((ro).toUInt32 >>> ((16 : Int32) &&& 31).toUInt32).toInt32) * (-2048144789 : Int32))).toUInt32 >>> ((13 : Int32) &&& 31).toUInt32).toInt32) * (-1028477387 : Int32)) ^^^ ((((((ro ^^^ ((ro).toUInt32 >>> ((16 : Int32) &&& 31).toUInt32).toInt32) * (-2048144789 : Int32)) ^^^ ((((ro ^^^ ((ro).toUInt32 >>> ((16 : Int32) &&& 31).toUInt32).toInt32) * (-2048144789 : Int32))).toUInt32 >>> ((13 : Int32) &&& 31).toUInt32).toInt32) * (-1028477387 : Int32))).toUInt32 >>> ((16 : Int32) &&& 31).toUInt32).toInt32)
set_option maxRecDepth 65536 in
set_option maxHeartbeats 40000000 in
theorem con_7_0 (l : Launch) (Z : State) (a0 : Array Value) (hw : ∀ d ∈ tables_1, d.before a0 Z = true) (h0 : Heap) (n0 : Nat) (a1 : Addr) (ar : Addr) (ro : Int32) (x0 : Int32) (x1 : Int32) (x2 : Int32) (F0 : Fld Z h0 a1 "com/example/trellis/trellis/model/RegexOccurrences" "room" "I" (.int ro)) (F1 : Fld Z h0 a1 "com/example/trellis/trellis/model/RegexOccurrences" "length" "I" (.int 0)) (F2 : Fld Z h0 a1 "com/example/trellis/trellis/model/RegexOccurrences" "runs" "[I" (.ref ar)) (L1 : Al Z h0 ar .int [(.int x0), (.int x1), (.int x2)]) : Con l Z y7 prog_65_method_10_code 3 (some .int) ({ frames := 0, cells := 0, slots := 0, locals := 0 } : Room) #[(.ref a1)] h0 n0 (Pu (some (.int (own_h0 ro x0 x1 x2))) h0) := by
  refine Con.of pf_7 (fun m => ef_7_0 m a1) ?_
  intro p e s m below meth c C
  refine W.aloadN C d7_0 rfl rfl ?_
  refine W.getF C d7_1 (tkw hw 16 rfl) Via.refl F0 ?_
  refine W.istoreN C #[.val (.ref a1), .val (.int ro), .unset] d7_4 rfl ?_
  refine W.iconst C (0 : Int32) d7_5 rfl ?_
  refine W.istoreN C #[.val (.ref a1), .val (.int ro), .val (.int (0 : Int32))] d7_6 rfl ?_
  refine W.iloadN C d7_7 rfl ?_
  refine W.aloadN C d7_8 rfl rfl ?_
  refine W.getF C d7_9 (tkw hw 42 rfl) Via.refl F1 ?_
  refine W.icmp_ge C 33 d7_12 rfl (fun _ => ?_) (fun b => absurd b (by decide))
  refine W.iloadN C d7_33 rfl ?_
  refine W.iloadN C d7_34 rfl ?_
  refine W.bipush C (16 : Int32) d7_35 rfl ?_
  refine W.iushr C d7_37 ?_
  refine W.ixor C d7_38 ?_
  refine W.istoreN C #[.val (.ref a1), .val (.int (ro ^^^ ((ro).toUInt32 >>> ((16 : Int32) &&& 31).toUInt32).toInt32)), .val (.int (0 : Int32))] d7_39 rfl ?_
  refine W.iloadN C d7_40 rfl ?_
  refine W.ldcI C (v := (-2048144789 : Int32)) d7_41 (tkw hw 44 rfl) ?_
  refine W.imul C d7_43 ?_
  refine W.istoreN C #[.val (.ref a1), .val (.int ((ro ^^^ ((ro).toUInt32 >>> ((16 : Int32) &&& 31).toUInt32).toInt32) * (-2048144789 : Int32))), .val (.int (0 : Int32))] d7_44 rfl ?_
  refine W.iloadN C d7_45 rfl ?_
  refine W.iloadN C d7_46 rfl ?_
  refine W.bipush C (13 : Int32) d7_47 rfl ?_
  refine W.iushr C d7_49 ?_
  refine W.ixor C d7_50 ?_
  refine W.istoreN C #[.val (.ref a1), .val (.int (((ro ^^^ ((ro).toUInt32 >>> ((16 : Int32) &&& 31).toUInt32).toInt32) * (-2048144789 : Int32)) ^^^ ((((ro ^^^ ((ro).toUInt32 >>> ((16 : Int32) &&& 31).toUInt32).toInt32) * (-2048144789 : Int32))).toUInt32 >>> ((13 : Int32) &&& 31).toUInt32).toInt32)), .val (.int (0 : Int32))] d7_51 rfl ?_
  refine W.iloadN C d7_52 rfl ?_
  refine W.ldcI C (v := (-1028477387 : Int32)) d7_53 (tkw hw 45 rfl) ?_
  refine W.imul C d7_55 ?_
  refine W.istoreN C #[.val (.ref a1), .val (.int ((((ro ^^^ ((ro).toUInt32 >>> ((16 : Int32) &&& 31).toUInt32).toInt32) * (-2048144789 : Int32)) ^^^ ((((ro ^^^ ((ro).toUInt32 >>> ((16 : Int32) &&& 31).toUInt32).toInt32) * (-2048144789 : Int32))).toUInt32 >>> ((13 : Int32) &&& 31).toUInt32).toInt32) * (-1028477387 : Int32))), .val (.int (0 : Int32))] d7_56 rfl ?_
  refine W.iloadN C d7_57 rfl ?_
  refine W.iloadN C d7_58 rfl ?_
  refine W.bipush C (16 : Int32) d7_59 rfl ?_
  refine W.iushr C d7_61 ?_
  refine W.ixor C d7_62 ?_
  exact W.iret C d7_63 (by simp) rfl (by decide) (by decide) ⟨by show some _ = some _; rw [own_h0], rfl⟩

theorem ef_7_3 (m : MethodId) (a1 : Addr) : entryFrame m #[(.ref a1)] 3 = mkF m 0 #[.val (.ref a1), .unset, .unset] [] := by first | (simp [entryFrame, mkF, argsToLocals, Value.category]; done) | rfl
def own_h3 (ro : Int32) (x0 : Int32) (x1 : Int32) (x2 : Int32) : Int32 := (((((((((((ro * (31 : Int32)) + x0) * (31 : Int32)) + x1) * (31 : Int32)) + x2) ^^^ ((((((((ro * (31 : Int32)) + x0) * (31 : Int32)) + x1) * (31 : Int32)) + x2)).toUInt32 >>> ((16 : Int32) &&& 31).toUInt32).toInt32) * (-2048144789 : Int32)) ^^^ ((((((((((ro * (31 : Int32)) + x0) * (31 : Int32)) + x1) * (31 : Int32)) + x2) ^^^ ((((((((ro * (31 : Int32)) + x0) * (31 : Int32)) + x1) * (31 : Int32)) + x2)).toUInt32 >>> ((16 : Int32) &&& 31).toUInt32).toInt32) * (-2048144789 : Int32))).toUInt32 >>> ((13 : Int32) &&& 31).toUInt32).toInt32) * (-1028477387 : Int32)) ^^^ ((((((((((((ro * (31 : Int32)) + x0) * (31 : Int32)) + x1) * (31 : Int32)) + x2) ^^^ ((((((((ro * (31 : Int32)) + x0) * (31 : Int32)) + x1) * (31 : Int32)) + x2)).toUInt32 >>> ((16 : Int32) &&& 31).toUInt32).toInt32) * (-2048144789 : Int32)) ^^^ ((((((((((ro * (31 : Int32)) + x0) * (31 : Int32)) + x1) * (31 : Int32)) + x2) ^^^ ((((((((ro * (31 : Int32)) + x0) * (31 : Int32)) + x1) * (31 : Int32)) + x2)).toUInt32 >>> ((16 : Int32) &&& 31).toUInt32).toInt32) * (-2048144789 : Int32))).toUInt32 >>> ((13 : Int32) &&& 31).toUInt32).toInt32) * (-1028477387 : Int32))).toUInt32 >>> ((16 : Int32) &&& 31).toUInt32).toInt32)
set_option maxRecDepth 65536 in
set_option maxHeartbeats 40000000 in
theorem con_7_3 (l : Launch) (Z : State) (a0 : Array Value) (hw : ∀ d ∈ tables_1, d.before a0 Z = true) (h0 : Heap) (n0 : Nat) (a1 : Addr) (ar : Addr) (ro : Int32) (x0 : Int32) (x1 : Int32) (x2 : Int32) (F0 : Fld Z h0 a1 "com/example/trellis/trellis/model/RegexOccurrences" "room" "I" (.int ro)) (F1 : Fld Z h0 a1 "com/example/trellis/trellis/model/RegexOccurrences" "length" "I" (.int 3)) (F2 : Fld Z h0 a1 "com/example/trellis/trellis/model/RegexOccurrences" "runs" "[I" (.ref ar)) (L1 : Al Z h0 ar .int [(.int x0), (.int x1), (.int x2)]) : Con l Z y7 prog_65_method_10_code 3 (some .int) ({ frames := 0, cells := 0, slots := 0, locals := 0 } : Room) #[(.ref a1)] h0 n0 (Pu (some (.int (own_h3 ro x0 x1 x2))) h0) := by
  refine Con.of pf_7 (fun m => ef_7_3 m a1) ?_
  intro p e s m below meth c C
  refine W.aloadN C d7_0 rfl rfl ?_
  refine W.getF C d7_1 (tkw hw 16 rfl) Via.refl F0 ?_
  refine W.istoreN C #[.val (.ref a1), .val (.int ro), .unset] d7_4 rfl ?_
  refine W.iconst C (0 : Int32) d7_5 rfl ?_
  refine W.istoreN C #[.val (.ref a1), .val (.int ro), .val (.int (0 : Int32))] d7_6 rfl ?_
  refine W.iloadN C d7_7 rfl ?_
  refine W.aloadN C d7_8 rfl rfl ?_
  refine W.getF C d7_9 (tkw hw 42 rfl) Via.refl F1 ?_
  refine W.icmp_ge C 33 d7_12 rfl (fun b => absurd b (by decide)) (fun _ => ?_)
  refine W.iloadN C d7_15 rfl ?_
  refine W.bipush C (31 : Int32) d7_16 rfl ?_
  refine W.imul C d7_18 ?_
  refine W.aloadN C d7_19 rfl rfl ?_
  refine W.getF C d7_20 (tkw hw 14 rfl) Via.refl F2 ?_
  refine W.iloadN C d7_23 rfl ?_
  refine W.iaload C 0 d7_24 L1 rfl rfl ?_
  refine W.iadd C d7_25 ?_
  refine W.istoreN C #[.val (.ref a1), .val (.int ((ro * (31 : Int32)) + x0)), .val (.int (0 : Int32))] d7_26 rfl ?_
  refine W.iinc C (1 : Int32) #[.val (.ref a1), .val (.int ((ro * (31 : Int32)) + x0)), .val (.int (1 : Int32))] d7_27 rfl rfl rfl ?_
  refine W.goto C 7 d7_30 rfl ?_
  refine W.iloadN C d7_7 rfl ?_
  refine W.aloadN C d7_8 rfl rfl ?_
  refine W.getF C d7_9 (tkw hw 42 rfl) Via.refl F1 ?_
  refine W.icmp_ge C 33 d7_12 rfl (fun b => absurd b (by decide)) (fun _ => ?_)
  refine W.iloadN C d7_15 rfl ?_
  refine W.bipush C (31 : Int32) d7_16 rfl ?_
  refine W.imul C d7_18 ?_
  refine W.aloadN C d7_19 rfl rfl ?_
  refine W.getF C d7_20 (tkw hw 14 rfl) Via.refl F2 ?_
  refine W.iloadN C d7_23 rfl ?_
  refine W.iaload C 1 d7_24 L1 rfl rfl ?_
  refine W.iadd C d7_25 ?_
  refine W.istoreN C #[.val (.ref a1), .val (.int ((((ro * (31 : Int32)) + x0) * (31 : Int32)) + x1)), .val (.int (1 : Int32))] d7_26 rfl ?_
  refine W.iinc C (2 : Int32) #[.val (.ref a1), .val (.int ((((ro * (31 : Int32)) + x0) * (31 : Int32)) + x1)), .val (.int (2 : Int32))] d7_27 rfl rfl rfl ?_
  refine W.goto C 7 d7_30 rfl ?_
  refine W.iloadN C d7_7 rfl ?_
  refine W.aloadN C d7_8 rfl rfl ?_
  refine W.getF C d7_9 (tkw hw 42 rfl) Via.refl F1 ?_
  refine W.icmp_ge C 33 d7_12 rfl (fun b => absurd b (by decide)) (fun _ => ?_)
  refine W.iloadN C d7_15 rfl ?_
  refine W.bipush C (31 : Int32) d7_16 rfl ?_
  refine W.imul C d7_18 ?_
  refine W.aloadN C d7_19 rfl rfl ?_
  refine W.getF C d7_20 (tkw hw 14 rfl) Via.refl F2 ?_
  refine W.iloadN C d7_23 rfl ?_
  refine W.iaload C 2 d7_24 L1 rfl rfl ?_
  refine W.iadd C d7_25 ?_
  refine W.istoreN C #[.val (.ref a1), .val (.int ((((((ro * (31 : Int32)) + x0) * (31 : Int32)) + x1) * (31 : Int32)) + x2)), .val (.int (2 : Int32))] d7_26 rfl ?_
  refine W.iinc C (3 : Int32) #[.val (.ref a1), .val (.int ((((((ro * (31 : Int32)) + x0) * (31 : Int32)) + x1) * (31 : Int32)) + x2)), .val (.int (3 : Int32))] d7_27 rfl rfl rfl ?_
  refine W.goto C 7 d7_30 rfl ?_
  refine W.iloadN C d7_7 rfl ?_
  refine W.aloadN C d7_8 rfl rfl ?_
  refine W.getF C d7_9 (tkw hw 42 rfl) Via.refl F1 ?_
  refine W.icmp_ge C 33 d7_12 rfl (fun _ => ?_) (fun b => absurd b (by decide))
  refine W.iloadN C d7_33 rfl ?_
  refine W.iloadN C d7_34 rfl ?_
  refine W.bipush C (16 : Int32) d7_35 rfl ?_
  refine W.iushr C d7_37 ?_
  refine W.ixor C d7_38 ?_
  refine W.istoreN C #[.val (.ref a1), .val (.int (((((((ro * (31 : Int32)) + x0) * (31 : Int32)) + x1) * (31 : Int32)) + x2) ^^^ ((((((((ro * (31 : Int32)) + x0) * (31 : Int32)) + x1) * (31 : Int32)) + x2)).toUInt32 >>> ((16 : Int32) &&& 31).toUInt32).toInt32)), .val (.int (3 : Int32))] d7_39 rfl ?_
  refine W.iloadN C d7_40 rfl ?_
  refine W.ldcI C (v := (-2048144789 : Int32)) d7_41 (tkw hw 44 rfl) ?_
  refine W.imul C d7_43 ?_
  refine W.istoreN C #[.val (.ref a1), .val (.int ((((((((ro * (31 : Int32)) + x0) * (31 : Int32)) + x1) * (31 : Int32)) + x2) ^^^ ((((((((ro * (31 : Int32)) + x0) * (31 : Int32)) + x1) * (31 : Int32)) + x2)).toUInt32 >>> ((16 : Int32) &&& 31).toUInt32).toInt32) * (-2048144789 : Int32))), .val (.int (3 : Int32))] d7_44 rfl ?_
  refine W.iloadN C d7_45 rfl ?_
  refine W.iloadN C d7_46 rfl ?_
  refine W.bipush C (13 : Int32) d7_47 rfl ?_
  refine W.iushr C d7_49 ?_
  refine W.ixor C d7_50 ?_
  refine W.istoreN C #[.val (.ref a1), .val (.int (((((((((ro * (31 : Int32)) + x0) * (31 : Int32)) + x1) * (31 : Int32)) + x2) ^^^ ((((((((ro * (31 : Int32)) + x0) * (31 : Int32)) + x1) * (31 : Int32)) + x2)).toUInt32 >>> ((16 : Int32) &&& 31).toUInt32).toInt32) * (-2048144789 : Int32)) ^^^ ((((((((((ro * (31 : Int32)) + x0) * (31 : Int32)) + x1) * (31 : Int32)) + x2) ^^^ ((((((((ro * (31 : Int32)) + x0) * (31 : Int32)) + x1) * (31 : Int32)) + x2)).toUInt32 >>> ((16 : Int32) &&& 31).toUInt32).toInt32) * (-2048144789 : Int32))).toUInt32 >>> ((13 : Int32) &&& 31).toUInt32).toInt32)), .val (.int (3 : Int32))] d7_51 rfl ?_
  refine W.iloadN C d7_52 rfl ?_
  refine W.ldcI C (v := (-1028477387 : Int32)) d7_53 (tkw hw 45 rfl) ?_
  refine W.imul C d7_55 ?_
  refine W.istoreN C #[.val (.ref a1), .val (.int ((((((((((ro * (31 : Int32)) + x0) * (31 : Int32)) + x1) * (31 : Int32)) + x2) ^^^ ((((((((ro * (31 : Int32)) + x0) * (31 : Int32)) + x1) * (31 : Int32)) + x2)).toUInt32 >>> ((16 : Int32) &&& 31).toUInt32).toInt32) * (-2048144789 : Int32)) ^^^ ((((((((((ro * (31 : Int32)) + x0) * (31 : Int32)) + x1) * (31 : Int32)) + x2) ^^^ ((((((((ro * (31 : Int32)) + x0) * (31 : Int32)) + x1) * (31 : Int32)) + x2)).toUInt32 >>> ((16 : Int32) &&& 31).toUInt32).toInt32) * (-2048144789 : Int32))).toUInt32 >>> ((13 : Int32) &&& 31).toUInt32).toInt32) * (-1028477387 : Int32))), .val (.int (3 : Int32))] d7_56 rfl ?_
  refine W.iloadN C d7_57 rfl ?_
  refine W.iloadN C d7_58 rfl ?_
  refine W.bipush C (16 : Int32) d7_59 rfl ?_
  refine W.iushr C d7_61 ?_
  refine W.ixor C d7_62 ?_
  exact W.iret C d7_63 (by simp) rfl (by decide) (by decide) ⟨by show some _ = some _; rw [own_h3], rfl⟩

abbrev y6 : MethodName := ⟨"com/example/trellis/trellis/model/RegexOccurrencesHashPinLaw", "key", "(III)J"⟩
theorem d6_0 : decode method_4_code 0 = .ok (.iload_n 0, 1) := by decide +kernel
theorem d6_1 : decode method_4_code 1 = .ok (.iconst 3, 1) := by decide +kernel
theorem d6_2 : decode method_4_code 2 = .ok (.iand, 1) := by decide +kernel
theorem d6_3 : decode method_4_code 3 = .ok (.istore_n 3, 1) := by decide +kernel
theorem d6_4 : decode method_4_code 4 = .ok (.iload_n 3, 1) := by decide +kernel
theorem d6_5 : decode method_4_code 5 = .ok (.ifCond .ne 7, 3) := by decide +kernel
theorem d6_8 : decode method_4_code 8 = .ok (.ldc2_w 39, 3) := by decide +kernel
theorem d6_11 : decode method_4_code 11 = .ok (.lreturn, 1) := by decide +kernel
theorem d6_12 : decode method_4_code 12 = .ok (.iload_n 3, 1) := by decide +kernel
theorem d6_13 : decode method_4_code 13 = .ok (.iconst 1, 1) := by decide +kernel
theorem d6_14 : decode method_4_code 14 = .ok (.if_icmp .ne 33, 3) := by decide +kernel
theorem d6_17 : decode method_4_code 17 = .ok (.iload_n 1, 1) := by decide +kernel
theorem d6_18 : decode method_4_code 18 = .ok (.iconst 1, 1) := by decide +kernel
theorem d6_19 : decode method_4_code 19 = .ok (.iand, 1) := by decide +kernel
theorem d6_20 : decode method_4_code 20 = .ok (.istore 4, 2) := by decide +kernel
theorem d6_22 : decode method_4_code 22 = .ok (.iload_n 2, 1) := by decide +kernel
theorem d6_23 : decode method_4_code 23 = .ok (.iload 4, 2) := by decide +kernel
theorem d6_25 : decode method_4_code 25 = .ok (.invokestatic 24, 3) := by decide +kernel
theorem d6_28 : decode method_4_code 28 = .ok (.istore 5, 2) := by decide +kernel
theorem d6_30 : decode method_4_code 30 = .ok (.iload 5, 2) := by decide +kernel
theorem d6_32 : decode method_4_code 32 = .ok (.ldc 43, 2) := by decide +kernel
theorem d6_34 : decode method_4_code 34 = .ok (.if_icmp .ne 7, 3) := by decide +kernel
theorem d6_37 : decode method_4_code 37 = .ok (.ldc2_w 44, 3) := by decide +kernel
theorem d6_40 : decode method_4_code 40 = .ok (.lreturn, 1) := by decide +kernel
theorem d6_41 : decode method_4_code 41 = .ok (.iload 5, 2) := by decide +kernel
theorem d6_43 : decode method_4_code 43 = .ok (.i2l, 1) := by decide +kernel
theorem d6_44 : decode method_4_code 44 = .ok (.lconst 1, 1) := by decide +kernel
theorem d6_45 : decode method_4_code 45 = .ok (.lsub, 1) := by decide +kernel
theorem d6_46 : decode method_4_code 46 = .ok (.lreturn, 1) := by decide +kernel
theorem d6_47 : decode method_4_code 47 = .ok (.iload_n 3, 1) := by decide +kernel
theorem d6_48 : decode method_4_code 48 = .ok (.iconst 2, 1) := by decide +kernel
theorem d6_49 : decode method_4_code 49 = .ok (.if_icmp .ne 7, 3) := by decide +kernel
theorem d6_52 : decode method_4_code 52 = .ok (.ldc2_w 48, 3) := by decide +kernel
theorem d6_55 : decode method_4_code 55 = .ok (.lreturn, 1) := by decide +kernel
theorem d6_56 : decode method_4_code 56 = .ok (.ldc2_w 50, 3) := by decide +kernel
theorem d6_59 : decode method_4_code 59 = .ok (.lreturn, 1) := by decide +kernel
theorem pf_6 : plainFor y6 = true := by first | exact plainFor_of_name (by first | (simp [plainName, overriddenIn]; done) | decide +kernel) | decide +kernel
theorem ef_6 (m : MethodId) (kk : Int32) (kl : Int32) (km : Int32) : entryFrame m #[(.int kk), (.int kl), (.int km)] 6 = mkF m 0 #[.val (.int kk), .val (.int kl), .val (.int km), .unset, .unset, .unset] [] := by first | (simp [entryFrame, mkF, argsToLocals, Value.category]; done) | rfl
def own_key (kk : Int32) (kl : Int32) (km : Int32) : Int64 := if (kk &&& (3 : Int32)) = 0 then (-1 : Int64) else if (kk &&& (3 : Int32)) = (1 : Int32) then if (own_max km (kl &&& (1 : Int32))) = (2147483647 : Int32) then (2147483647 : Int64) else ((((own_max km (kl &&& (1 : Int32)))).toInt64) - (1 : Int64)) else if (kk &&& (3 : Int32)) = (2 : Int32) then (-9223372036854775808 : Int64) else (-9223372036854775807 : Int64)
set_option maxRecDepth 65536 in
set_option maxHeartbeats 40000000 in
theorem con_6 (l : Launch) (Z : State) (a0 : Array Value) (hw : ∀ d ∈ tables_1, d.before a0 Z = true) (h0 : Heap) (n0 : Nat) (kk : Int32) (kl : Int32) (km : Int32)   : Con l Z y6 method_4_code 6 (some .long) ({ frames := 1, cells := 0, slots := 0, locals := 13 } : Room) #[(.int kk), (.int kl), (.int km)] h0 n0 (Pu (some (.long (own_key kk kl km))) h0) := by
  refine Con.of pf_6 (fun m => ef_6 m kk kl km) ?_
  intro p e s m below meth c C
  refine W.iloadN C d6_0 rfl ?_
  refine W.iconst C (3 : Int32) d6_1 rfl ?_
  refine W.iand C d6_2 ?_
  refine W.istoreN C #[.val (.int kk), .val (.int kl), .val (.int km), .val (.int (kk &&& (3 : Int32))), .unset, .unset] d6_3 rfl ?_
  refine W.iloadN C d6_4 rfl ?_
  refine W.if_ne C 12 d6_5 rfl (fun b1 => ?_) (fun b1 => ?_)
  · skip
    refine W.iloadN C d6_12 rfl ?_
    refine W.iconst C (1 : Int32) d6_13 rfl ?_
    refine W.icmp_ne C 47 d6_14 rfl (fun b2 => ?_) (fun b2 => ?_)
    · skip
      refine W.iloadN C d6_47 rfl ?_
      refine W.iconst C (2 : Int32) d6_48 rfl ?_
      refine W.icmp_ne C 56 d6_49 rfl (fun b3 => ?_) (fun b3 => ?_)
      · skip
        refine W.ldc2J C (v := (-9223372036854775807 : Int64)) d6_56 (tkw hw 65 rfl) ?_
        exact W.lret C d6_59 rfl rfl (by decide) (by decide) ⟨by show some _ = some _; rw [own_key, if_neg b1, if_neg b2, if_neg b3], rfl⟩
      · skip
        refine W.ldc2J C (v := (-9223372036854775808 : Int64)) d6_52 (tkw hw 66 rfl) ?_
        exact W.lret C d6_55 rfl rfl (by decide) (by decide) ⟨by show some _ = some _; rw [own_key, if_neg b1, if_neg b2, if_pos b3], rfl⟩
    · skip
      refine W.iloadN C d6_17 rfl ?_
      refine W.iconst C (1 : Int32) d6_18 rfl ?_
      refine W.iand C d6_19 ?_
      refine W.istore C #[.val (.int kk), .val (.int kl), .val (.int km), .val (.int (kk &&& (3 : Int32))), .val (.int (kl &&& (1 : Int32))), .unset] d6_20 rfl ?_
      refine W.iloadN C d6_22 rfl ?_
      refine W.iload C d6_23 rfl ?_
      refine W.callS C (y' := y4) d6_25 (tkw hw 18 rfl) (tkw hw 19 rfl) (tkw hw 20 rfl) (tkw hw 21 rfl) (by decide) (argsL := [(.int km), (.int (kl &&& (1 : Int32)))]) (rest := []) rfl (lenOf pd_1 rfl) (con_4 l Z a0 hw h0 n0 km (kl &&& (1 : Int32))) 0 0 0 rfl rfl rfl (by decide) (by decide) (by decide) (by decide) rfl ?_
      rintro _ _ ⟨rfl, rfl⟩
      refine W.istore C #[.val (.int kk), .val (.int kl), .val (.int km), .val (.int (kk &&& (3 : Int32))), .val (.int (kl &&& (1 : Int32))), .val (.int (own_max km (kl &&& (1 : Int32))))] d6_28 rfl ?_
      refine W.iload C d6_30 rfl ?_
      refine W.ldcI C (v := (2147483647 : Int32)) d6_32 (tkw hw 36 rfl) ?_
      refine W.icmp_ne C 41 d6_34 rfl (fun b4 => ?_) (fun b4 => ?_)
      · skip
        refine W.iload C d6_41 rfl ?_
        refine W.i2l C d6_43 ?_
        refine W.lconst C (1 : Int64) d6_44 rfl ?_
        refine W.lsub C d6_45 ?_
        exact W.lret C d6_46 rfl rfl (by decide) (by decide) ⟨by show some _ = some _; rw [own_key, if_neg b1, if_pos b2, if_neg b4], rfl⟩
      · skip
        refine W.ldc2J C (v := (2147483647 : Int64)) d6_37 (tkw hw 67 rfl) ?_
        exact W.lret C d6_40 rfl rfl (by decide) (by decide) ⟨by show some _ = some _; rw [own_key, if_neg b1, if_pos b2, if_pos b4], rfl⟩
  · skip
    refine W.ldc2J C (v := (-1 : Int64)) d6_8 (tkw hw 35 rfl) ?_
    exact W.lret C d6_11 rfl rfl (by decide) (by decide) ⟨by show some _ = some _; rw [own_key, if_pos b1], rfl⟩

def own_mix (h : Int32) : Int32 := own_h0 h 0 0 0
def own_K (H : Int32) (key : Int64) : Prop := (-1 ≤ H.toInt ∧ key = H.toInt64) ∨ (H = -28798 ∧ key = -9223372036854775808) ∨ (H = -27806 ∧ key = -9223372036854775807)
theorem own_KK {a b : Int32} {x y : Int64} (h1 : own_K a x) (h2 : own_K b y) : a = b ↔ x = y := by
  unfold own_K at h1 h2
  simp only [← Int32.toInt_inj, ← Int64.toInt_inj, c_i2l] at *
  have e1 : (-28798 : Int32).toInt = -28798 := by decide
  have e2 : (-27806 : Int32).toInt = -27806 := by decide
  have e3 : (-9223372036854775808 : Int64).toInt = -9223372036854775808 := by decide
  have e4 : (-9223372036854775807 : Int64).toInt = -9223372036854775807 := by decide
  rw [e1, e2, e3, e4] at h1 h2
  omega
theorem own_xs (s : Nat) (hs : 0 < s) (x y : BitVec 32) (h : x ^^^ (x >>> s) = y ^^^ (y >>> s)) : x = y := by
  have key : ∀ n i, 32 - i ≤ n → x.getLsbD i = y.getLsbD i := by
    intro n
    induction n with
    | zero => intro i hi; rw [BitVec.getLsbD_of_ge _ _ (by omega), BitVec.getLsbD_of_ge _ _ (by omega)]
    | succ n ih =>
      intro i hi
      by_cases h32 : i < 32
      · have a := congrArg (fun v => v.getLsbD i) h
        simp only [BitVec.getLsbD_xor, BitVec.getLsbD_ushiftRight] at a
        rw [ih (s + i) (by omega)] at a
        exact Bool.xor_right_inj.mp (by rw [Bool.xor_comm, a, Bool.xor_comm]) |> fun q => q
      · rw [BitVec.getLsbD_of_ge _ _ (by omega), BitVec.getLsbD_of_ge _ _ (by omega)]
  exact BitVec.eq_of_getLsbD_eq fun i _ => key (32 - i) i (Nat.le_refl _)
theorem own_sr (x q : Int32) (s : Nat) (hq : (q &&& 31).toUInt32.toBitVec % 32 = BitVec.ofNat 32 s) (hs : s < 32) : (((x).toUInt32 >>> (q &&& 31).toUInt32).toInt32).toBitVec = x.toBitVec >>> s := by
  show (((x).toUInt32 >>> (q &&& 31).toUInt32)).toBitVec = _
  rw [UInt32.toBitVec_shiftRight, hq, BitVec.ushiftRight_eq']
  congr 1
  simp
  omega
theorem own_x16 {x y : Int32} (h : x ^^^ ((x).toUInt32 >>> ((16 : Int32) &&& 31).toUInt32).toInt32 = y ^^^ ((y).toUInt32 >>> ((16 : Int32) &&& 31).toUInt32).toInt32) : x = y := by
  have a := congrArg Int32.toBitVec h
  rw [Int32.toBitVec_xor, Int32.toBitVec_xor, own_sr x 16 16 (by decide) (by decide), own_sr y 16 16 (by decide) (by decide)] at a
  exact Int32.toBitVec_inj.mp (own_xs 16 (by decide) _ _ a)
theorem own_x13 {x y : Int32} (h : x ^^^ ((x).toUInt32 >>> ((13 : Int32) &&& 31).toUInt32).toInt32 = y ^^^ ((y).toUInt32 >>> ((13 : Int32) &&& 31).toUInt32).toInt32) : x = y := by
  have a := congrArg Int32.toBitVec h
  rw [Int32.toBitVec_xor, Int32.toBitVec_xor, own_sr x 13 13 (by decide) (by decide), own_sr y 13 13 (by decide) (by decide)] at a
  exact Int32.toBitVec_inj.mp (own_xs 13 (by decide) _ _ a)
theorem own_mul {x y c d : Int32} (hc : c * d = 1) (h : x * c = y * c) : x = y := by
  have a : x * c * d = y * c * d := by rw [h]
  rwa [Int32.mul_assoc, Int32.mul_assoc, hc, Int32.mul_one, Int32.mul_one] at a
theorem own_inj {x y : Int32} (h : own_mix x = own_mix y) : x = y := by
  unfold own_mix own_h0 at h
  exact own_x16 (own_mul (c := -2048144789) (d := -1513385405) (by decide) (own_x13 (own_mul (c := -1028477387) (d := 2127672349) (by decide) (own_x16 h))))
theorem own_k1 (l m : Int32) : own_fl (l &&& 1) = 0 ∧ own_K (own_fr (l &&& 1) (own_max m (l &&& 1))) (if own_max m (l &&& 1) = (2147483647 : Int32) then (2147483647 : Int64) else (own_max m (l &&& 1)).toInt64 - (1 : Int64)) := by
  have e1 : (l &&& 1).toInt = l.toInt % (2 ^ 1 : Nat) := c_mask l 1 1 (by decide) (by decide)
  generalize (l &&& 1) = le at *
  have z1 : (1 : Int32).toInt = 1 := rfl
  have hl : ¬ (1 : Int32) < le := by rw [Int32.lt_iff_toInt_lt]; omega
  have hm : 0 ≤ (own_max m le).toInt := by
    unfold own_max
    simp only [Int32.lt_iff_toInt_lt]
    split <;> omega
  refine ⟨by rw [own_fl, if_neg hl], ?_⟩
  rw [own_fr, if_neg hl]
  generalize own_max m le = mo at *
  by_cases h : mo = 2147483647
  · rw [if_pos h, if_pos h]
    subst h
    exact Or.inl (by decide)
  · rw [if_neg h, if_neg h]
    have a := c_isub mo 1
    have r := rng32 (mo - 1)
    have r2 := rng32 mo
    have b := c_lsub mo.toInt64 1
    rw [c_i2l] at b
    have rb := rng64 (mo.toInt64 - 1)
    have y1 : (1 : Int64).toInt = 1 := by decide
    exact Or.inl ⟨by omega, Int64.toInt_inj.mp (by rw [c_i2l]; omega)⟩
theorem own_big (c l : Int32) (hc : 2 ≤ c.toInt ∧ c.toInt ≤ 3) : (1 : Int32) < c + (l &&& (1073741823 : Int32)) ∧ (c.toInt = 3 → ¬ (2 : Int32) = c + (l &&& (1073741823 : Int32))) := by
  have e1 : (l &&& 1073741823).toInt = l.toInt % (2 ^ 30 : Nat) := c_mask l 1073741823 30 (by decide) (by decide)
  generalize (l &&& 1073741823) = z at *
  have a := c_iadd c z
  have r := rng32 (c + z)
  have z1 : (1 : Int32).toInt = 1 := rfl
  have z2 : (2 : Int32).toInt = 2 := rfl
  refine ⟨by rw [Int32.lt_iff_toInt_lt]; omega, fun h3 => ?_⟩
  rw [← Int32.toInt_inj]
  omega
theorem own_f3 {le mo : Int32} (h : (1 : Int32) < le) : own_fl le = 3 ∧ own_fr le mo = -1 ∧ own_fx le = 1 := ⟨if_pos h, if_pos h, if_pos h⟩
abbrev y1 : MethodName := ⟨"com/example/trellis/trellis/model/RegexOccurrencesHashPinLaw", "make", "(III)Lcom/example/trellis/trellis/model/RegexOccurrences;"⟩
theorem d1_0 : decode method_3_code 0 = .ok (.iload_n 0, 1) := by decide +kernel
theorem d1_1 : decode method_3_code 1 = .ok (.iconst 3, 1) := by decide +kernel
theorem d1_2 : decode method_3_code 2 = .ok (.iand, 1) := by decide +kernel
theorem d1_3 : decode method_3_code 3 = .ok (.istore_n 3, 1) := by decide +kernel
theorem d1_4 : decode method_3_code 4 = .ok (.iload_n 3, 1) := by decide +kernel
theorem d1_5 : decode method_3_code 5 = .ok (.ifCond .ne 11, 3) := by decide +kernel
theorem d1_8 : decode method_3_code 8 = .ok (.new 18, 3) := by decide +kernel
theorem d1_11 : decode method_3_code 11 = .ok (.dup, 1) := by decide +kernel
theorem d1_12 : decode method_3_code 12 = .ok (.invokespecial 23, 3) := by decide +kernel
theorem d1_15 : decode method_3_code 15 = .ok (.areturn, 1) := by decide +kernel
theorem d1_16 : decode method_3_code 16 = .ok (.iload_n 3, 1) := by decide +kernel
theorem d1_17 : decode method_3_code 17 = .ok (.iconst 1, 1) := by decide +kernel
theorem d1_18 : decode method_3_code 18 = .ok (.if_icmp .ne 20, 3) := by decide +kernel
theorem d1_21 : decode method_3_code 21 = .ok (.iload_n 1, 1) := by decide +kernel
theorem d1_22 : decode method_3_code 22 = .ok (.iconst 1, 1) := by decide +kernel
theorem d1_23 : decode method_3_code 23 = .ok (.iand, 1) := by decide +kernel
theorem d1_24 : decode method_3_code 24 = .ok (.istore 4, 2) := by decide +kernel
theorem d1_26 : decode method_3_code 26 = .ok (.iload 4, 2) := by decide +kernel
theorem d1_28 : decode method_3_code 28 = .ok (.iload_n 2, 1) := by decide +kernel
theorem d1_29 : decode method_3_code 29 = .ok (.iload 4, 2) := by decide +kernel
theorem d1_31 : decode method_3_code 31 = .ok (.invokestatic 24, 3) := by decide +kernel
theorem d1_34 : decode method_3_code 34 = .ok (.invokestatic 30, 3) := by decide +kernel
theorem d1_37 : decode method_3_code 37 = .ok (.areturn, 1) := by decide +kernel
theorem d1_38 : decode method_3_code 38 = .ok (.iload_n 3, 1) := by decide +kernel
theorem d1_39 : decode method_3_code 39 = .ok (.iconst 2, 1) := by decide +kernel
theorem d1_40 : decode method_3_code 40 = .ok (.if_icmp .ne 23, 3) := by decide +kernel
theorem d1_43 : decode method_3_code 43 = .ok (.iconst 2, 1) := by decide +kernel
theorem d1_44 : decode method_3_code 44 = .ok (.iload_n 1, 1) := by decide +kernel
theorem d1_45 : decode method_3_code 45 = .ok (.ldc 34, 2) := by decide +kernel
theorem d1_47 : decode method_3_code 47 = .ok (.iand, 1) := by decide +kernel
theorem d1_48 : decode method_3_code 48 = .ok (.iadd, 1) := by decide +kernel
theorem d1_49 : decode method_3_code 49 = .ok (.istore 4, 2) := by decide +kernel
theorem d1_51 : decode method_3_code 51 = .ok (.iload 4, 2) := by decide +kernel
theorem d1_53 : decode method_3_code 53 = .ok (.iload_n 2, 1) := by decide +kernel
theorem d1_54 : decode method_3_code 54 = .ok (.iload 4, 2) := by decide +kernel
theorem d1_56 : decode method_3_code 56 = .ok (.invokestatic 24, 3) := by decide +kernel
theorem d1_59 : decode method_3_code 59 = .ok (.invokestatic 30, 3) := by decide +kernel
theorem d1_62 : decode method_3_code 62 = .ok (.areturn, 1) := by decide +kernel
theorem d1_63 : decode method_3_code 63 = .ok (.iconst 3, 1) := by decide +kernel
theorem d1_64 : decode method_3_code 64 = .ok (.iload_n 1, 1) := by decide +kernel
theorem d1_65 : decode method_3_code 65 = .ok (.ldc 34, 2) := by decide +kernel
theorem d1_67 : decode method_3_code 67 = .ok (.iand, 1) := by decide +kernel
theorem d1_68 : decode method_3_code 68 = .ok (.iadd, 1) := by decide +kernel
theorem d1_69 : decode method_3_code 69 = .ok (.istore 4, 2) := by decide +kernel
theorem d1_71 : decode method_3_code 71 = .ok (.iload 4, 2) := by decide +kernel
theorem d1_73 : decode method_3_code 73 = .ok (.iload_n 2, 1) := by decide +kernel
theorem d1_74 : decode method_3_code 74 = .ok (.iload 4, 2) := by decide +kernel
theorem d1_76 : decode method_3_code 76 = .ok (.invokestatic 24, 3) := by decide +kernel
theorem d1_79 : decode method_3_code 79 = .ok (.invokestatic 30, 3) := by decide +kernel
theorem d1_82 : decode method_3_code 82 = .ok (.astore 5, 2) := by decide +kernel
theorem d1_84 : decode method_3_code 84 = .ok (.new 18, 3) := by decide +kernel
theorem d1_87 : decode method_3_code 87 = .ok (.dup, 1) := by decide +kernel
theorem d1_88 : decode method_3_code 88 = .ok (.invokespecial 23, 3) := by decide +kernel
theorem d1_91 : decode method_3_code 91 = .ok (.astore 6, 2) := by decide +kernel
theorem d1_93 : decode method_3_code 93 = .ok (.aload 6, 2) := by decide +kernel
theorem d1_95 : decode method_3_code 95 = .ok (.aload 5, 2) := by decide +kernel
theorem d1_97 : decode method_3_code 97 = .ok (.invokevirtual 35, 3) := by decide +kernel
theorem d1_100 : decode method_3_code 100 = .ok (.aload 6, 2) := by decide +kernel
theorem d1_102 : decode method_3_code 102 = .ok (.areturn, 1) := by decide +kernel
theorem pf_1 : plainFor y1 = true := by first | exact plainFor_of_name (by first | (simp [plainName, overriddenIn]; done) | decide +kernel) | decide +kernel
theorem ef_1 (m : MethodId) (kk : Int32) (kl : Int32) (km : Int32) : entryFrame m #[(.int kk), (.int kl), (.int km)] 7 = mkF m 0 #[.val (.int kk), .val (.int kl), .val (.int km), .unset, .unset, .unset, .unset] [] := by first | (simp [entryFrame, mkF, argsToLocals, Value.category]; done) | rfl
theorem pd_5 : parseMethodDescriptor "(II)Lcom/example/trellis/trellis/model/RegexOccurrences;" = some ⟨[.int, .int], some (.object "com/example/trellis/trellis/model/RegexOccurrences")⟩ := by decide +kernel
set_option maxRecDepth 65536 in
set_option maxHeartbeats 40000000 in
theorem con_1 (l : Launch) (Z : State) (a0 : Array Value) (hw : ∀ d ∈ tables_1, d.before a0 Z = true) (h0 : Heap) (n0 : Nat) (kk : Int32) (kl : Int32) (km : Int32)  (Z0 : n0 ≤ h0.size) : Con l Z y1 method_3_code 7 (some (.object "com/example/trellis/trellis/model/RegexOccurrences")) ({ frames := 3, cells := 4, slots := 22, locals := 67 } : Room) #[(.int kk), (.int kl), (.int km)] h0 n0 (fun v h => ∃ (a ar : Addr) (Ll Rr x0 x1 x2 Hh : Int32), v = some (.ref a) ∧ Keep h0 h [] ∧ n0 ≤ h.size ∧ Exa Z h a "com/example/trellis/trellis/model/RegexOccurrences" ∧ Fld Z h a "com/example/trellis/trellis/model/RegexOccurrences" "runs" "[I" (.ref ar) ∧ Fld Z h a "com/example/trellis/trellis/model/RegexOccurrences" "length" "I" (.int Ll) ∧ Fld Z h a "com/example/trellis/trellis/model/RegexOccurrences" "room" "I" (.int Rr) ∧ Al Z h ar .int [(.int x0), (.int x1), (.int x2)] ∧ ((Ll = 0 ∧ Hh = Rr) ∨ (Ll = 3 ∧ Hh = ((((((Rr * 31) + x0) * 31) + x1) * 31) + x2))) ∧ own_K Hh (own_key kk kl km)) := by
  refine Con.of pf_1 (fun m => ef_1 m kk kl km) ?_
  intro p e s m below meth c C
  have K0 : Keep h0 h0 [] := Keep.refl _ _
  refine W.iloadN C d1_0 rfl ?_
  refine W.iconst C (3 : Int32) d1_1 rfl ?_
  refine W.iand C d1_2 ?_
  refine W.istoreN C #[.val (.int kk), .val (.int kl), .val (.int km), .val (.int (kk &&& (3 : Int32))), .unset, .unset, .unset] d1_3 rfl ?_
  refine W.iloadN C d1_4 rfl ?_
  refine W.if_ne C 16 d1_5 rfl (fun b1 => ?_) (fun b1 => ?_)
  · skip
    refine W.iloadN C d1_16 rfl ?_
    refine W.iconst C (1 : Int32) d1_17 rfl ?_
    refine W.icmp_ne C 38 d1_18 rfl (fun b2 => ?_) (fun b2 => ?_)
    · skip
      refine W.iloadN C d1_38 rfl ?_
      refine W.iconst C (2 : Int32) d1_39 rfl ?_
      refine W.icmp_ne C 63 d1_40 rfl (fun b3 => ?_) (fun b3 => ?_)
      · skip
        refine W.iconst C (3 : Int32) d1_63 rfl ?_
        refine W.iloadN C d1_64 rfl ?_
        refine W.ldcI C (v := (1073741823 : Int32)) d1_65 (tkw hw 46 rfl) ?_
        refine W.iand C d1_67 ?_
        refine W.iadd C d1_68 ?_
        refine W.istore C #[.val (.int kk), .val (.int kl), .val (.int km), .val (.int (kk &&& (3 : Int32))), .val (.int ((3 : Int32) + (kl &&& (1073741823 : Int32)))), .unset, .unset] d1_69 rfl ?_
        refine W.iload C d1_71 rfl ?_
        refine W.iloadN C d1_73 rfl ?_
        refine W.iload C d1_74 rfl ?_
        refine W.callS C (y' := y4) d1_76 (tkw hw 18 rfl) (tkw hw 19 rfl) (tkw hw 20 rfl) (tkw hw 21 rfl) (by decide) (argsL := [(.int km), (.int ((3 : Int32) + (kl &&& (1073741823 : Int32))))]) (rest := [(.int ((3 : Int32) + (kl &&& (1073741823 : Int32))))]) rfl (lenOf pd_1 rfl) (con_4 l Z a0 hw h0 n0 km ((3 : Int32) + (kl &&& (1073741823 : Int32)))) 1 0 0 rfl rfl rfl (by decide) (by decide) (by decide) (by decide) rfl ?_
        rintro _ _ ⟨rfl, rfl⟩
        refine W.callS C (y' := y5) d1_79 (tkw hw 22 rfl) (tkw hw 23 rfl) (tkw hw 6 rfl) (tkw hw 24 rfl) (by decide) (argsL := [(.int ((3 : Int32) + (kl &&& (1073741823 : Int32)))), (.int (own_max km ((3 : Int32) + (kl &&& (1073741823 : Int32)))))]) (rest := []) rfl (lenOf pd_5 rfl) (con_5 l Z a0 hw h0 n0 ((3 : Int32) + (kl &&& (1073741823 : Int32))) (own_max km ((3 : Int32) + (kl &&& (1073741823 : Int32)))) Z0) 0 2 11 rfl rfl rfl (by decide) (by decide) (by decide) (by decide) rfl ?_
        rintro _ hp1 ⟨fa, fr, rfl, Kc, -, szfa, szfr, ne_fa_fr, f_E, f_least, f_most, f_runs, f_length, f_room, f_A⟩
        replace Z0 := Nat.le_trans Z0 Kc.1
        replace K0 := K0.trans Kc all0
        have g0 := own_big 3 kl (by decide)
        obtain ⟨g1, g2, g3⟩ := own_f3 (mo := (own_max km ((3 : Int32) + (kl &&& (1073741823 : Int32))))) g0.1
        rw [g1] at f_length
        rw [g2] at f_room
        rw [g3] at f_A
        refine W.astore C #[.val (.int kk), .val (.int kl), .val (.int km), .val (.int (kk &&& (3 : Int32))), .val (.int ((3 : Int32) + (kl &&& (1073741823 : Int32)))), .val (.ref fa), .unset] d1_82 rfl rfl ?_
        refine W.new C d1_84 (tkw hw 4 rfl) (tkw hw 5 rfl) (tkw hw 6 rfl) 3 19 rfl rfl (by decide) (by decide) ?_
        intro ob2 hp3 hob2 Eob2 Aob2 Dob2
        have ne_fa_ob2 : fa ≠ ob2 := Nat.ne_of_lt (by rw [hob2]; exact f_E.lt)
        have ne_fr_ob2 : fr ≠ ob2 := Nat.ne_of_lt (by rw [hob2]; exact f_A.lt)
        have ge_ob2 : n0 ≤ ob2 := by rw [hob2]; exact Z0
        have sz_ob2 : h0.size ≤ ob2 := by rw [hob2]; exact K0.1
        replace Z0 := Nat.le_trans Z0 Eob2.1
        replace K0 := K0.ext Eob2
        replace f_E := f_E.ext Eob2
        replace f_least := f_least.ext Eob2
        replace f_most := f_most.ext Eob2
        replace f_runs := f_runs.ext Eob2
        replace f_length := f_length.ext Eob2
        replace f_room := f_room.ext Eob2
        replace f_A := f_A.ext Eob2
        have Fob2_runs : Fld Z hp3 ob2 "com/example/trellis/trellis/model/RegexOccurrences" "runs" "[I" .null := Dob2 (Or.inl (tkw hw 15 rfl)) (ty := (.array .int)) (by decide)
        have Fob2_room : Fld Z hp3 ob2 "com/example/trellis/trellis/model/RegexOccurrences" "room" "I" (.int (0 : Int32)) := Dob2 (Or.inl (tkw hw 17 rfl)) (ty := .int) (by decide)
        have Fob2_least : Fld Z hp3 ob2 "com/example/trellis/trellis/model/RegexOccurrences" "least" "I" (.int (0 : Int32)) := Dob2 (Or.inl (tkw hw 28 rfl)) (ty := .int) (by decide)
        have Fob2_most : Fld Z hp3 ob2 "com/example/trellis/trellis/model/RegexOccurrences" "most" "I" (.int (0 : Int32)) := Dob2 (Or.inl (tkw hw 30 rfl)) (ty := .int) (by decide)
        have Fob2_length : Fld Z hp3 ob2 "com/example/trellis/trellis/model/RegexOccurrences" "length" "I" (.int (0 : Int32)) := Dob2 (Or.inl (tkw hw 43 rfl)) (ty := .int) (by decide)
        refine W.dup C d1_87 rfl ?_
        have lt_fa := f_E.lt
        have lt_fr := f_A.lt
        have lt_ob2 := Aob2.lt
        have z_ := Z0
        have k_ := K0.1
        refine W.callI C (y' := y2) d1_88 rfl (tkw hw 7 rfl) (tkw hw 8 rfl) (tkw hw 6 rfl) (tkw hw 9 rfl) (by decide) (a := ob2) (argsL := []) (rest := [(.ref ob2)]) rfl (lenOf pd_0 rfl) (con_2 l Z a0 hw hp3 n0 ob2 Aob2 ge_ob2 Fob2_least Fob2_most Fob2_runs Fob2_length Fob2_room Z0) 1 4 22 rfl rfl rfl (by decide) (by decide) (by decide) (by decide) rfl ?_
        rintro _ hp4 ⟨rfl, Kc, rob2, szr, Aob2, Fob2_least, Fob2_most, Fob2_runs, Fob2_length, Fob2_room, Lrob2⟩
        replace Z0 := Nat.le_trans Z0 Kc.1
        replace K0 := K0.trans Kc (allS (Or.inr sz_ob2) all0)
        replace f_E := f_E.keep Kc
        replace f_least := f_least.keep Kc (ninS ne_fa_ob2 nin0)
        replace f_most := f_most.keep Kc (ninS ne_fa_ob2 nin0)
        replace f_runs := f_runs.keep Kc (ninS ne_fa_ob2 nin0)
        replace f_length := f_length.keep Kc (ninS ne_fa_ob2 nin0)
        replace f_room := f_room.keep Kc (ninS ne_fa_ob2 nin0)
        replace f_A := f_A.keep Kc (ninS ne_fr_ob2 nin0)
        have ge_rob2 : n0 ≤ rob2 := Nat.le_trans z_ szr
        have sz_rob2 : h0.size ≤ rob2 := Nat.le_trans k_ szr
        have ne_fa_rob2 : fa ≠ rob2 := Nat.ne_of_lt (Nat.lt_of_lt_of_le lt_fa szr)
        have ne_fr_rob2 : fr ≠ rob2 := Nat.ne_of_lt (Nat.lt_of_lt_of_le lt_fr szr)
        have ne_ob2_rob2 : ob2 ≠ rob2 := Nat.ne_of_lt (Nat.lt_of_lt_of_le lt_ob2 szr)
        refine W.astore C #[.val (.int kk), .val (.int kl), .val (.int km), .val (.int (kk &&& (3 : Int32))), .val (.int ((3 : Int32) + (kl &&& (1073741823 : Int32)))), .val (.ref fa), .val (.ref ob2)] d1_91 rfl rfl ?_
        refine W.aload C d1_93 rfl rfl ?_
        refine W.aload C d1_95 rfl rfl ?_
        refine W.callV C (y' := y8) d1_97 (tkw hw 47 rfl) (tkw hw 48 rfl) (tkw hw 50 rfl) (tkw hw 49 rfl) (tkw hw 6 rfl) (tkw hw 51 rfl) (by decide) Aob2 (argsL := [(.ref fa)]) (rest := []) rfl (lenOf pd_4 rfl) (con_8 l Z a0 hw hp4 n0 ob2 fa rob2 fr 0 0 0 (-1) 0 0 0 ((3 : Int32) + (kl &&& (1073741823 : Int32))) (own_max km ((3 : Int32) + (kl &&& (1073741823 : Int32)))) (g0.2 (by decide)) Aob2 Fob2_least Fob2_most Fob2_runs Fob2_length Fob2_room Lrob2 f_E f_least f_most f_runs f_length f_room f_A ge_ob2 ge_rob2 ne_fa_ob2 ne_fr_rob2 ne_ob2_rob2 ne_fa_rob2 ne_fr_ob2 Z0) 0 4 22 rfl rfl rfl (by decide) (by decide) (by decide) (by decide) rfl ?_
        rintro _ hp5 ⟨rfl, Kd, t_E, t_least, t_most, t_runs, t_length, t_room, t_A⟩
        replace Z0 := Nat.le_trans Z0 Kd.1
        replace K0 := K0.trans Kd (allS (Or.inr sz_ob2) (allS (Or.inr sz_rob2) all0))
        refine W.aload C d1_100 rfl rfl ?_
        exact W.aret C d1_102 rfl rfl rfl (by decide) (by decide) ⟨ob2, rob2, 3, -1, 2, 2, 1, -27806, rfl, K0, Z0, t_E, t_runs, t_length, t_room, t_A, Or.inr ⟨rfl, by decide⟩, by unfold own_key; rw [if_neg b1]; rw [if_neg b2]; rw [if_neg b3]; exact Or.inr (Or.inr ⟨rfl, rfl⟩)⟩
      · skip
        refine W.iconst C (2 : Int32) d1_43 rfl ?_
        refine W.iloadN C d1_44 rfl ?_
        refine W.ldcI C (v := (1073741823 : Int32)) d1_45 (tkw hw 46 rfl) ?_
        refine W.iand C d1_47 ?_
        refine W.iadd C d1_48 ?_
        refine W.istore C #[.val (.int kk), .val (.int kl), .val (.int km), .val (.int (kk &&& (3 : Int32))), .val (.int ((2 : Int32) + (kl &&& (1073741823 : Int32)))), .unset, .unset] d1_49 rfl ?_
        refine W.iload C d1_51 rfl ?_
        refine W.iloadN C d1_53 rfl ?_
        refine W.iload C d1_54 rfl ?_
        refine W.callS C (y' := y4) d1_56 (tkw hw 18 rfl) (tkw hw 19 rfl) (tkw hw 20 rfl) (tkw hw 21 rfl) (by decide) (argsL := [(.int km), (.int ((2 : Int32) + (kl &&& (1073741823 : Int32))))]) (rest := [(.int ((2 : Int32) + (kl &&& (1073741823 : Int32))))]) rfl (lenOf pd_1 rfl) (con_4 l Z a0 hw h0 n0 km ((2 : Int32) + (kl &&& (1073741823 : Int32)))) 1 0 0 rfl rfl rfl (by decide) (by decide) (by decide) (by decide) rfl ?_
        rintro _ _ ⟨rfl, rfl⟩
        refine W.callS C (y' := y5) d1_59 (tkw hw 22 rfl) (tkw hw 23 rfl) (tkw hw 6 rfl) (tkw hw 24 rfl) (by decide) (argsL := [(.int ((2 : Int32) + (kl &&& (1073741823 : Int32)))), (.int (own_max km ((2 : Int32) + (kl &&& (1073741823 : Int32)))))]) (rest := []) rfl (lenOf pd_5 rfl) (con_5 l Z a0 hw h0 n0 ((2 : Int32) + (kl &&& (1073741823 : Int32))) (own_max km ((2 : Int32) + (kl &&& (1073741823 : Int32)))) Z0) 0 2 11 rfl rfl rfl (by decide) (by decide) (by decide) (by decide) rfl ?_
        rintro _ hp6 ⟨fa, fr, rfl, Kc, -, szfa, szfr, ne_fa_fr, f_E, f_least, f_most, f_runs, f_length, f_room, f_A⟩
        replace Z0 := Nat.le_trans Z0 Kc.1
        replace K0 := K0.trans Kc all0
        have g0 := own_big 2 kl (by decide)
        obtain ⟨g1, g2, g3⟩ := own_f3 (mo := (own_max km ((2 : Int32) + (kl &&& (1073741823 : Int32))))) g0.1
        rw [g1] at f_length
        rw [g2] at f_room
        rw [g3] at f_A
        exact W.aret C d1_62 rfl rfl rfl (by decide) (by decide) ⟨fa, fr, 3, -1, 1, 1, 1, -28798, rfl, K0, Z0, f_E, f_runs, f_length, f_room, f_A, Or.inr ⟨rfl, by decide⟩, by unfold own_key; rw [if_neg b1]; rw [if_neg b2]; rw [if_pos b3]; exact Or.inr (Or.inl ⟨rfl, rfl⟩)⟩
    · skip
      refine W.iloadN C d1_21 rfl ?_
      refine W.iconst C (1 : Int32) d1_22 rfl ?_
      refine W.iand C d1_23 ?_
      refine W.istore C #[.val (.int kk), .val (.int kl), .val (.int km), .val (.int (kk &&& (3 : Int32))), .val (.int (kl &&& (1 : Int32))), .unset, .unset] d1_24 rfl ?_
      refine W.iload C d1_26 rfl ?_
      refine W.iloadN C d1_28 rfl ?_
      refine W.iload C d1_29 rfl ?_
      refine W.callS C (y' := y4) d1_31 (tkw hw 18 rfl) (tkw hw 19 rfl) (tkw hw 20 rfl) (tkw hw 21 rfl) (by decide) (argsL := [(.int km), (.int (kl &&& (1 : Int32)))]) (rest := [(.int (kl &&& (1 : Int32)))]) rfl (lenOf pd_1 rfl) (con_4 l Z a0 hw h0 n0 km (kl &&& (1 : Int32))) 1 0 0 rfl rfl rfl (by decide) (by decide) (by decide) (by decide) rfl ?_
      rintro _ _ ⟨rfl, rfl⟩
      refine W.callS C (y' := y5) d1_34 (tkw hw 22 rfl) (tkw hw 23 rfl) (tkw hw 6 rfl) (tkw hw 24 rfl) (by decide) (argsL := [(.int (kl &&& (1 : Int32))), (.int (own_max km (kl &&& (1 : Int32))))]) (rest := []) rfl (lenOf pd_5 rfl) (con_5 l Z a0 hw h0 n0 (kl &&& (1 : Int32)) (own_max km (kl &&& (1 : Int32))) Z0) 0 2 11 rfl rfl rfl (by decide) (by decide) (by decide) (by decide) rfl ?_
      rintro _ hp7 ⟨fa, fr, rfl, Kc, -, szfa, szfr, ne_fa_fr, f_E, f_least, f_most, f_runs, f_length, f_room, f_A⟩
      replace Z0 := Nat.le_trans Z0 Kc.1
      replace K0 := K0.trans Kc all0
      obtain ⟨g1, g2⟩ := own_k1 kl km
      rw [g1] at f_length
      exact W.aret C d1_37 rfl rfl rfl (by decide) (by decide) ⟨fa, fr, 0, _, _, _, _, _, rfl, K0, Z0, f_E, f_runs, f_length, f_room, f_A, Or.inl ⟨rfl, rfl⟩, by unfold own_key; rw [if_neg b1]; rw [if_pos b2]; exact g2⟩
  · skip
    refine W.new C d1_8 (tkw hw 4 rfl) (tkw hw 5 rfl) (tkw hw 6 rfl) 1 8 rfl rfl (by decide) (by decide) ?_
    intro ob8 hp9 hob8 Eob8 Aob8 Dob8
    have ge_ob8 : n0 ≤ ob8 := by rw [hob8]; exact Z0
    have sz_ob8 : h0.size ≤ ob8 := by rw [hob8]; exact K0.1
    replace Z0 := Nat.le_trans Z0 Eob8.1
    replace K0 := K0.ext Eob8
    have Fob8_runs : Fld Z hp9 ob8 "com/example/trellis/trellis/model/RegexOccurrences" "runs" "[I" .null := Dob8 (Or.inl (tkw hw 15 rfl)) (ty := (.array .int)) (by decide)
    have Fob8_room : Fld Z hp9 ob8 "com/example/trellis/trellis/model/RegexOccurrences" "room" "I" (.int (0 : Int32)) := Dob8 (Or.inl (tkw hw 17 rfl)) (ty := .int) (by decide)
    have Fob8_least : Fld Z hp9 ob8 "com/example/trellis/trellis/model/RegexOccurrences" "least" "I" (.int (0 : Int32)) := Dob8 (Or.inl (tkw hw 28 rfl)) (ty := .int) (by decide)
    have Fob8_most : Fld Z hp9 ob8 "com/example/trellis/trellis/model/RegexOccurrences" "most" "I" (.int (0 : Int32)) := Dob8 (Or.inl (tkw hw 30 rfl)) (ty := .int) (by decide)
    have Fob8_length : Fld Z hp9 ob8 "com/example/trellis/trellis/model/RegexOccurrences" "length" "I" (.int (0 : Int32)) := Dob8 (Or.inl (tkw hw 43 rfl)) (ty := .int) (by decide)
    refine W.dup C d1_11 rfl ?_
    have lt_ob8 := Aob8.lt
    have z_ := Z0
    have k_ := K0.1
    refine W.callI C (y' := y2) d1_12 rfl (tkw hw 7 rfl) (tkw hw 8 rfl) (tkw hw 6 rfl) (tkw hw 9 rfl) (by decide) (a := ob8) (argsL := []) (rest := [(.ref ob8)]) rfl (lenOf pd_0 rfl) (con_2 l Z a0 hw hp9 n0 ob8 Aob8 ge_ob8 Fob8_least Fob8_most Fob8_runs Fob8_length Fob8_room Z0) 1 2 11 rfl rfl rfl (by decide) (by decide) (by decide) (by decide) rfl ?_
    rintro _ hp10 ⟨rfl, Kc, rob8, szr, Aob8, Fob8_least, Fob8_most, Fob8_runs, Fob8_length, Fob8_room, Lrob8⟩
    replace Z0 := Nat.le_trans Z0 Kc.1
    replace K0 := K0.trans Kc (allS (Or.inr sz_ob8) all0)
    have ge_rob8 : n0 ≤ rob8 := Nat.le_trans z_ szr
    have sz_rob8 : h0.size ≤ rob8 := Nat.le_trans k_ szr
    have ne_ob8_rob8 : ob8 ≠ rob8 := Nat.ne_of_lt (Nat.lt_of_lt_of_le lt_ob8 szr)
    exact W.aret C d1_15 rfl rfl rfl (by decide) (by decide) ⟨ob8, rob8, 0, -1, 0, 0, 0, -1, rfl, K0, Z0, Aob8, Fob8_runs, Fob8_length, Fob8_room, Lrob8, Or.inl ⟨rfl, rfl⟩, by unfold own_key; rw [if_pos b1]; exact Or.inl (by decide)⟩

theorem pf_0 : plainFor x = true := by first | exact plainFor_of_name (by first | (simp [plainName, overriddenIn]; done) | decide +kernel) | decide +kernel
theorem ef_0 (m : MethodId) (p0 : Int32) (p1 : Int32) (p2 : Int32) (p3 : Int32) (p4 : Int32) (p5 : Int32) : entryFrame m #[(.int p0), (.int p1), (.int p2), (.int p3), (.int p4), (.int p5)] maxLocals = mkF m 0 #[.val (.int p0), .val (.int p1), .val (.int p2), .val (.int p3), .val (.int p4), .val (.int p5), .unset, .unset, .unset, .unset, .unset, .unset] [] := by first | (simp [entryFrame, mkF, argsToLocals, Value.category, maxLocals]; done) | rfl
theorem pd_6 : parseMethodDescriptor "(III)Lcom/example/trellis/trellis/model/RegexOccurrences;" = some ⟨[.int, .int, .int], some (.object "com/example/trellis/trellis/model/RegexOccurrences")⟩ := by decide +kernel
theorem pd_7 : parseMethodDescriptor "(III)J" = some ⟨[.int, .int, .int], some .long⟩ := by decide +kernel
theorem pd_8 : parseMethodDescriptor "()I" = some ⟨[], some .int⟩ := by decide +kernel
set_option maxRecDepth 65536 in
set_option maxHeartbeats 40000000 in
theorem con_0 (l : Launch) (Z : State) (a0 : Array Value) (hw : ∀ d ∈ tables_1, d.before a0 Z = true) (h0 : Heap) (n0 : Nat) (p0 : Int32) (p1 : Int32) (p2 : Int32) (p3 : Int32) (p4 : Int32) (p5 : Int32)  (Z0 : n0 ≤ h0.size) : Con l Z x code maxLocals ret room_1 #[(.int p0), (.int p1), (.int p2), (.int p3), (.int p4), (.int p5)] h0 n0 (fun v _ => v = some (.int 1)) := by
  refine Con.of pf_0 (fun m => ef_0 m p0 p1 p2 p3 p4 p5) ?_
  intro p e s m below meth c C
  refine W.iloadN C at_0 rfl ?_
  refine W.iloadN C at_1 rfl ?_
  refine W.iloadN C at_2 rfl ?_
  refine W.callS C (y' := y1) at_3 (tkw hw 0 rfl) (tkw hw 1 rfl) (tkw hw 2 rfl) (tkw hw 3 rfl) (by decide) (argsL := [(.int p0), (.int p1), (.int p2)]) (rest := []) rfl (lenOf pd_6 rfl) (con_1 l Z a0 hw h0 n0 p0 p1 p2 Z0) 0 4 22 rfl rfl rfl (by decide) (by decide) (by decide) (by decide) rfl ?_
  rintro _ hp1 ⟨ap, rp, Lp, Rp, xp0, xp1, xp2, Hp, rfl, Kc, -, pE, pruns, plength, proom, pA, dp, kp⟩
  replace Z0 := Nat.le_trans Z0 Kc.1
  refine W.astore C #[.val (.int p0), .val (.int p1), .val (.int p2), .val (.int p3), .val (.int p4), .val (.int p5), .val (.ref ap), .unset, .unset, .unset, .unset, .unset] at_6 rfl rfl ?_
  refine W.iloadN C at_8 rfl ?_
  refine W.iload C at_9 rfl ?_
  refine W.iload C at_11 rfl ?_
  refine W.callS C (y' := y1) at_13 (tkw hw 0 rfl) (tkw hw 1 rfl) (tkw hw 2 rfl) (tkw hw 3 rfl) (by decide) (argsL := [(.int p3), (.int p4), (.int p5)]) (rest := []) rfl (lenOf pd_6 rfl) (con_1 l Z a0 hw hp1 n0 p3 p4 p5 Z0) 0 8 44 rfl rfl rfl (by decide) (by decide) (by decide) (by decide) rfl ?_
  rintro _ hp2 ⟨aq, rq, Lq, Rq, xq0, xq1, xq2, Hq, rfl, Kc, -, qE, qruns, qlength, qroom, qA, dq, kq⟩
  replace Z0 := Nat.le_trans Z0 Kc.1
  replace pE := pE.keep Kc
  replace pruns := pruns.keep Kc nin0
  replace plength := plength.keep Kc nin0
  replace proom := proom.keep Kc nin0
  replace pA := pA.keep Kc nin0
  refine W.astore C #[.val (.int p0), .val (.int p1), .val (.int p2), .val (.int p3), .val (.int p4), .val (.int p5), .val (.ref ap), .val (.ref aq), .unset, .unset, .unset, .unset] at_16 rfl rfl ?_
  refine W.iloadN C at_18 rfl ?_
  refine W.iloadN C at_19 rfl ?_
  refine W.iloadN C at_20 rfl ?_
  refine W.callS C (y' := y6) at_21 (tkw hw 32 rfl) (tkw hw 33 rfl) (tkw hw 2 rfl) (tkw hw 34 rfl) (by decide) (argsL := [(.int p0), (.int p1), (.int p2)]) (rest := []) rfl (lenOf pd_7 rfl) (con_6 l Z a0 hw hp2 n0 p0 p1 p2) 0 8 44 rfl rfl rfl (by decide) (by decide) (by decide) (by decide) rfl ?_
  rintro _ _ ⟨rfl, rfl⟩
  refine W.lstore C #[.val (.int p0), .val (.int p1), .val (.int p2), .val (.int p3), .val (.int p4), .val (.int p5), .val (.ref ap), .val (.ref aq), .val (.long (own_key p0 p1 p2)), .second, .unset, .unset] at_24 rfl ?_
  refine W.iloadN C at_26 rfl ?_
  refine W.iload C at_27 rfl ?_
  refine W.iload C at_29 rfl ?_
  refine W.callS C (y' := y6) at_31 (tkw hw 32 rfl) (tkw hw 33 rfl) (tkw hw 2 rfl) (tkw hw 34 rfl) (by decide) (argsL := [(.int p3), (.int p4), (.int p5)]) (rest := []) rfl (lenOf pd_7 rfl) (con_6 l Z a0 hw hp2 n0 p3 p4 p5) 0 8 44 rfl rfl rfl (by decide) (by decide) (by decide) (by decide) rfl ?_
  rintro _ _ ⟨rfl, rfl⟩
  refine W.lstore C #[.val (.int p0), .val (.int p1), .val (.int p2), .val (.int p3), .val (.int p4), .val (.int p5), .val (.ref ap), .val (.ref aq), .val (.long (own_key p0 p1 p2)), .second, .val (.long (own_key p3 p4 p5)), .second] at_34 rfl ?_
  refine W.aload C at_36 rfl rfl ?_
  rcases dp with ⟨eL, eHp⟩ | ⟨eL, eHp⟩
  · rw [eL] at plength
    refine W.callV C (y' := y7) at_38 (tkw hw 37 rfl) (tkw hw 38 rfl) (tkw hw 40 rfl) (tkw hw 39 rfl) (tkw hw 6 rfl) (tkw hw 41 rfl) (by decide) pE (argsL := []) (rest := []) rfl (lenOf pd_8 rfl) (con_7_0 l Z a0 hw hp2 n0 ap rp Rp xp0 xp1 xp2 proom plength pruns pA) 0 8 44 rfl rfl rfl (by decide) (by decide) (by decide) (by decide) rfl ?_
    rintro _ _ ⟨rfl, rfl⟩
    rw [show own_h0 Rp xp0 xp1 xp2 = own_mix Hp by rw [eHp]; rfl]
    refine W.aload C at_41 rfl rfl ?_
    rcases dq with ⟨eL, eHq⟩ | ⟨eL, eHq⟩
    · rw [eL] at qlength
      refine W.callV C (y' := y7) at_43 (tkw hw 37 rfl) (tkw hw 38 rfl) (tkw hw 40 rfl) (tkw hw 39 rfl) (tkw hw 6 rfl) (tkw hw 41 rfl) (by decide) qE (argsL := []) (rest := [(.int (own_mix Hp))]) rfl (lenOf pd_8 rfl) (con_7_0 l Z a0 hw hp2 n0 aq rq Rq xq0 xq1 xq2 qroom qlength qruns qA) 1 8 44 rfl rfl rfl (by decide) (by decide) (by decide) (by decide) rfl ?_
      rintro _ _ ⟨rfl, rfl⟩
      rw [show own_h0 Rq xq0 xq1 xq2 = own_mix Hq by rw [eHq]; rfl]
      refine W.icmp_ne C 53 at_46 rfl (fun b1 => ?_) (fun b1 => ?_)
      · skip
        refine W.iconst C (0 : Int32) at_53 rfl ?_
        refine W.lload C at_54 rfl ?_
        refine W.lload C at_56 rfl ?_
        refine W.lcmp C at_58 ?_
        refine W.lif_ne C 66 at_59 rfl (fun b2 => ?_) (fun b2 => absurd (congrArg own_mix ((own_KK kp kq).mpr b2)) b1)
        refine W.iconst C (0 : Int32) at_66 rfl ?_
        refine W.icmp_ne C 74 at_67 rfl (fun b => absurd b (by decide)) (fun _ => ?_)
        refine W.iconst C (1 : Int32) at_70 rfl ?_
        refine W.goto C 75 at_71 rfl ?_
        exact W.iret C at_75 (by simp) rfl (by decide) (by decide) rfl
      · skip
        refine W.iconst C (1 : Int32) at_49 rfl ?_
        refine W.goto C 54 at_50 rfl ?_
        refine W.lload C at_54 rfl ?_
        refine W.lload C at_56 rfl ?_
        refine W.lcmp C at_58 ?_
        refine W.lif_ne C 66 at_59 rfl (fun b3 => absurd ((own_KK kp kq).mp (own_inj b1)) b3) (fun b3 => ?_)
        refine W.iconst C (1 : Int32) at_62 rfl ?_
        refine W.goto C 67 at_63 rfl ?_
        refine W.icmp_ne C 74 at_67 rfl (fun b => absurd b (by decide)) (fun _ => ?_)
        refine W.iconst C (1 : Int32) at_70 rfl ?_
        refine W.goto C 75 at_71 rfl ?_
        exact W.iret C at_75 (by simp) rfl (by decide) (by decide) rfl
    · rw [eL] at qlength
      refine W.callV C (y' := y7) at_43 (tkw hw 37 rfl) (tkw hw 38 rfl) (tkw hw 40 rfl) (tkw hw 39 rfl) (tkw hw 6 rfl) (tkw hw 41 rfl) (by decide) qE (argsL := []) (rest := [(.int (own_mix Hp))]) rfl (lenOf pd_8 rfl) (con_7_3 l Z a0 hw hp2 n0 aq rq Rq xq0 xq1 xq2 qroom qlength qruns qA) 1 8 44 rfl rfl rfl (by decide) (by decide) (by decide) (by decide) rfl ?_
      rintro _ _ ⟨rfl, rfl⟩
      rw [show own_h3 Rq xq0 xq1 xq2 = own_mix Hq by rw [eHq]; rfl]
      refine W.icmp_ne C 53 at_46 rfl (fun b4 => ?_) (fun b4 => ?_)
      · skip
        refine W.iconst C (0 : Int32) at_53 rfl ?_
        refine W.lload C at_54 rfl ?_
        refine W.lload C at_56 rfl ?_
        refine W.lcmp C at_58 ?_
        refine W.lif_ne C 66 at_59 rfl (fun b5 => ?_) (fun b5 => absurd (congrArg own_mix ((own_KK kp kq).mpr b5)) b4)
        refine W.iconst C (0 : Int32) at_66 rfl ?_
        refine W.icmp_ne C 74 at_67 rfl (fun b => absurd b (by decide)) (fun _ => ?_)
        refine W.iconst C (1 : Int32) at_70 rfl ?_
        refine W.goto C 75 at_71 rfl ?_
        exact W.iret C at_75 (by simp) rfl (by decide) (by decide) rfl
      · skip
        refine W.iconst C (1 : Int32) at_49 rfl ?_
        refine W.goto C 54 at_50 rfl ?_
        refine W.lload C at_54 rfl ?_
        refine W.lload C at_56 rfl ?_
        refine W.lcmp C at_58 ?_
        refine W.lif_ne C 66 at_59 rfl (fun b6 => absurd ((own_KK kp kq).mp (own_inj b4)) b6) (fun b6 => ?_)
        refine W.iconst C (1 : Int32) at_62 rfl ?_
        refine W.goto C 67 at_63 rfl ?_
        refine W.icmp_ne C 74 at_67 rfl (fun b => absurd b (by decide)) (fun _ => ?_)
        refine W.iconst C (1 : Int32) at_70 rfl ?_
        refine W.goto C 75 at_71 rfl ?_
        exact W.iret C at_75 (by simp) rfl (by decide) (by decide) rfl
  · rw [eL] at plength
    refine W.callV C (y' := y7) at_38 (tkw hw 37 rfl) (tkw hw 38 rfl) (tkw hw 40 rfl) (tkw hw 39 rfl) (tkw hw 6 rfl) (tkw hw 41 rfl) (by decide) pE (argsL := []) (rest := []) rfl (lenOf pd_8 rfl) (con_7_3 l Z a0 hw hp2 n0 ap rp Rp xp0 xp1 xp2 proom plength pruns pA) 0 8 44 rfl rfl rfl (by decide) (by decide) (by decide) (by decide) rfl ?_
    rintro _ _ ⟨rfl, rfl⟩
    rw [show own_h3 Rp xp0 xp1 xp2 = own_mix Hp by rw [eHp]; rfl]
    refine W.aload C at_41 rfl rfl ?_
    rcases dq with ⟨eL, eHq⟩ | ⟨eL, eHq⟩
    · rw [eL] at qlength
      refine W.callV C (y' := y7) at_43 (tkw hw 37 rfl) (tkw hw 38 rfl) (tkw hw 40 rfl) (tkw hw 39 rfl) (tkw hw 6 rfl) (tkw hw 41 rfl) (by decide) qE (argsL := []) (rest := [(.int (own_mix Hp))]) rfl (lenOf pd_8 rfl) (con_7_0 l Z a0 hw hp2 n0 aq rq Rq xq0 xq1 xq2 qroom qlength qruns qA) 1 8 44 rfl rfl rfl (by decide) (by decide) (by decide) (by decide) rfl ?_
      rintro _ _ ⟨rfl, rfl⟩
      rw [show own_h0 Rq xq0 xq1 xq2 = own_mix Hq by rw [eHq]; rfl]
      refine W.icmp_ne C 53 at_46 rfl (fun b7 => ?_) (fun b7 => ?_)
      · skip
        refine W.iconst C (0 : Int32) at_53 rfl ?_
        refine W.lload C at_54 rfl ?_
        refine W.lload C at_56 rfl ?_
        refine W.lcmp C at_58 ?_
        refine W.lif_ne C 66 at_59 rfl (fun b8 => ?_) (fun b8 => absurd (congrArg own_mix ((own_KK kp kq).mpr b8)) b7)
        refine W.iconst C (0 : Int32) at_66 rfl ?_
        refine W.icmp_ne C 74 at_67 rfl (fun b => absurd b (by decide)) (fun _ => ?_)
        refine W.iconst C (1 : Int32) at_70 rfl ?_
        refine W.goto C 75 at_71 rfl ?_
        exact W.iret C at_75 (by simp) rfl (by decide) (by decide) rfl
      · skip
        refine W.iconst C (1 : Int32) at_49 rfl ?_
        refine W.goto C 54 at_50 rfl ?_
        refine W.lload C at_54 rfl ?_
        refine W.lload C at_56 rfl ?_
        refine W.lcmp C at_58 ?_
        refine W.lif_ne C 66 at_59 rfl (fun b9 => absurd ((own_KK kp kq).mp (own_inj b7)) b9) (fun b9 => ?_)
        refine W.iconst C (1 : Int32) at_62 rfl ?_
        refine W.goto C 67 at_63 rfl ?_
        refine W.icmp_ne C 74 at_67 rfl (fun b => absurd b (by decide)) (fun _ => ?_)
        refine W.iconst C (1 : Int32) at_70 rfl ?_
        refine W.goto C 75 at_71 rfl ?_
        exact W.iret C at_75 (by simp) rfl (by decide) (by decide) rfl
    · rw [eL] at qlength
      refine W.callV C (y' := y7) at_43 (tkw hw 37 rfl) (tkw hw 38 rfl) (tkw hw 40 rfl) (tkw hw 39 rfl) (tkw hw 6 rfl) (tkw hw 41 rfl) (by decide) qE (argsL := []) (rest := [(.int (own_mix Hp))]) rfl (lenOf pd_8 rfl) (con_7_3 l Z a0 hw hp2 n0 aq rq Rq xq0 xq1 xq2 qroom qlength qruns qA) 1 8 44 rfl rfl rfl (by decide) (by decide) (by decide) (by decide) rfl ?_
      rintro _ _ ⟨rfl, rfl⟩
      rw [show own_h3 Rq xq0 xq1 xq2 = own_mix Hq by rw [eHq]; rfl]
      refine W.icmp_ne C 53 at_46 rfl (fun b10 => ?_) (fun b10 => ?_)
      · skip
        refine W.iconst C (0 : Int32) at_53 rfl ?_
        refine W.lload C at_54 rfl ?_
        refine W.lload C at_56 rfl ?_
        refine W.lcmp C at_58 ?_
        refine W.lif_ne C 66 at_59 rfl (fun b11 => ?_) (fun b11 => absurd (congrArg own_mix ((own_KK kp kq).mpr b11)) b10)
        refine W.iconst C (0 : Int32) at_66 rfl ?_
        refine W.icmp_ne C 74 at_67 rfl (fun b => absurd b (by decide)) (fun _ => ?_)
        refine W.iconst C (1 : Int32) at_70 rfl ?_
        refine W.goto C 75 at_71 rfl ?_
        exact W.iret C at_75 (by simp) rfl (by decide) (by decide) rfl
      · skip
        refine W.iconst C (1 : Int32) at_49 rfl ?_
        refine W.goto C 54 at_50 rfl ?_
        refine W.lload C at_54 rfl ?_
        refine W.lload C at_56 rfl ?_
        refine W.lcmp C at_58 ?_
        refine W.lif_ne C 66 at_59 rfl (fun b12 => absurd ((own_KK kp kq).mp (own_inj b10)) b12) (fun b12 => ?_)
        refine W.iconst C (1 : Int32) at_62 rfl ?_
        refine W.goto C 67 at_63 rfl ?_
        refine W.icmp_ne C 74 at_67 rfl (fun b => absurd b (by decide)) (fun _ => ?_)
        refine W.iconst C (1 : Int32) at_70 rfl ?_
        refine W.goto C 75 at_71 rfl ?_
        exact W.iret C at_75 (by simp) rfl (by decide) (by decide) rfl

set_option maxRecDepth 65536 in
set_option maxHeartbeats 40000000 in
theorem comes_1 {Post : Tables → Env → Array Value → State → Outcome → State → Prop} (hpost : ∀ tb e args s v u, (limb_1_1.after args s (.returned v) u = true ∧ limb_1_2.after args s (.returned v) u = true ∧ True) → FrameEnd s (.returned v) u (Jvm.fieldLocs frame_1_writes args s ++ Jvm.arrayLocs frame_1_arrays args s ++ Jvm.staticLocs frame_1_statics s) 24 192 → Post tb e args s (.returned v) u) :
    ArmFor flags0 classFile x code maxLocals ret World_1 tables_1 room_1 Calls_1 rest_1 Pre_1 Post := by
  intro l hfl _ _ p e ha hc hk s m args below hf hA hF happ hP
  obtain ⟨hcalls, hrest, hpre⟩ := hP
  obtain ⟨-, -, -, hnamed, -, -, -, hat⟩ := (Spec.applies_iff hf).mp happ
  obtain ⟨hg, hn⟩ := and_e (Cond.before_iff.mp (show (Jvm.Cond.and given_1 narrow_1).before args s = true from hpre))
  obtain ⟨gc, g0⟩ := and_e hg
  obtain ⟨i0h, g1⟩ := and_e g0
  obtain ⟨i1h, g2⟩ := and_e g1
  obtain ⟨i2h, g3⟩ := and_e g2
  obtain ⟨i3h, g4⟩ := and_e g3
  obtain ⟨i4h, g5⟩ := and_e g4
  obtain ⟨w0, w1, w2, w3, w4, w5, rfl⟩ : ∃ w0 w1 w2 w3 w4 w5 : Value, args = #[w0, w1, w2, w3, w4, w5] := by
    have hs : args.size = 6 := by simpa [Cond.value, given_1] using gc
    obtain ⟨L⟩ := args
    match L, hs with
    | [w0, w1, w2, w3, w4, w5], _ => exact ⟨w0, w1, w2, w3, w4, w5, rfl⟩
  have hw := fun d (hd : d ∈ tables_1) => atoms_spec (ws := Jvm.Cond.code x code maxLocals ret :: tables_1) hat d (List.mem_cons_of_mem _ hd)
  have hfit : Fit s := fun {y c} hc i hi => by
    obtain ⟨ha, rfl⟩ := Array.getElem?_eq_some_iff.mp hc
    have q := List.all_eq_true.mp ((Array.all_eq_true_iff_forall_mem.mp hF) _ (Array.getElem_mem ha)) i (List.mem_range.mpr hi)
    simpa [Array.getElem?_eq_getElem hi] using q
  obtain ⟨i0, ei0⟩ := is_v i0h
  obtain rfl : w0 = (.int i0) := Option.some.inj ei0
  obtain ⟨i1, ei1⟩ := is_v i1h
  obtain rfl : w1 = (.int i1) := Option.some.inj ei1
  obtain ⟨i2, ei2⟩ := is_v i2h
  obtain rfl : w2 = (.int i2) := Option.some.inj ei2
  obtain ⟨i3, ei3⟩ := is_v i3h
  obtain rfl : w3 = (.int i3) := Option.some.inj ei3
  obtain ⟨i4, ei4⟩ := is_v i4h
  obtain rfl : w4 = (.int i4) := Option.some.inj ei4
  obtain ⟨i5, ei5⟩ := is_v g5
  obtain rfl : w5 = (.int i5) := Option.some.inj ei5
  obtain ⟨n, o, h1, h2, h3, _, L, rfl, ⟨rfl, N⟩, hq⟩ := (con_0 l s _ hw s.heap s.heap.size i0 i1 i2 i3 i4 i5 (Nat.le_refl _)) tables_1 p e ha hc hk s m _ below hf ((Spec.applies_iff_loose hf).mp happ).1 ⟨rfl, State.Warmed39.refl s, rfl⟩ trivial
  refine ⟨n, _, h1, h2, h3, hpost _ _ _ _ _ _ ⟨Cond.after_iff.mpr rfl, Cond.after_iff.mpr (eq_i res_at (Term.int_eval (1)) rfl), trivial⟩ ⟨hq.1, hq.2.1, (hq.2.2.sift fun y hy => Or.inr (N y hy)).mono (by decide) (by decide)⟩⟩
theorem main_1_1 : Claimed_1_1 := comes_1 fun _ _ _ _ _ _ h hF => ⟨h.1, hF⟩
theorem main_1_2 : Claimed_1_2 := comes_1 fun _ _ _ _ _ _ h hF => ⟨h.2.1, hF⟩
end Jvm.Pilot.@@N@@
namespace Jvm.Pilot.@@N@@
open Jvm Jvm.ClassFile Sem Op Lib Jvm.Free Jvm.Stand Jvm.Pilot.@@N@@.Jvm.D
/-! MADE BY PROGRAM (witnessworld.py) out of the Statement's table words and the real class files: 11 classes; the members and pool entries that the words name. The judged class is class 1, her method 1. -/
namespace start1
open Jvm.ClassFile
def u (s : String) : CpInfo := .utf8 (stringToUtf16 s)
/-- a pool by its gaps: so many unusable entries, then the entry; so many at the end -/
def gap : Nat → List CpInfo → List CpInfo
  | 0, r => r
  | n + 1, r => .unusable :: gap n r
def poolList (es : List (Nat × CpInfo)) (last : Nat) : List CpInfo := es.foldr (fun e r => gap e.1 (e.2 :: r)) (gap last [])
def pool (es : List (Nat × CpInfo)) (last : Nat) : Array CpInfo := ⟨poolList es last⟩
def fileOf (pool : Array CpInfo) (this : Nat) (attrs : Array Attribute := #[]) (ms : Array MethodInfo := #[]) (fl : Nat := 33) (sup : Nat := 0) (ifs : Array Nat := #[]) (fds : Array FieldInfo := #[]) : ClassFile where
  minorVersion := 0
  majorVersion := 65
  constantPool := pool
  accessFlags := fl
  thisClass := this
  superClass := sup
  interfaces := ifs
  fields := fds
  methods := ms
  attributes := attrs
def plain (name : String) (sup : Option ClassId) : Class where
  name := name
  kind := .ordinary
  loader := none
  accessFlags := 33
  super := sup
  interfaces := #[]
  cf := none
  fields := #[]
  methods := #[]
  instanceTypes := #[]
  staticTypes := #[]
  resolved := #[]
  callSites := []
  init := .initialized
  statics := none
  mirror := none

def pool0 : Array CpInfo := pool [(5, u "<init>"), (0, u "()V"), (1, .class_ 10), (1, u "java/lang/Object")] 113

def k0c0 : Code := { maxStack := 0, maxLocals := 1, code := object_method_1_code, exceptionTable := #[], attributes := #[] }
def k0m0 : Method := { name := "<init>", desc := "()V", sig := { parameters := [], returnType := none }, accessFlags := 1, code := some k0c0 }
/-- java/lang/Object -/
def k0 : Class := { plain "java/lang/Object" none with
  accessFlags := 33
  interfaces := #[]
  cf := some (fileOf pool0 8 #[] #[{ accessFlags := 1, nameIndex := 5, descriptorIndex := 6, attributes := #[] }] 33 0 #[] #[])
  fields := #[]
  methods := #[k0m0]
  instanceTypes := #[]
  staticTypes := #[]
  resolved := Array.replicate 124 none
  statics := none }

def pool1 : Array CpInfo := pool [(2, .class_ 4), (0, .nameAndType 5 6), (0, u "java/lang/Object"), (0, u "<init>"), (0, u "()V"), (0, .methodref 8 9), (0, .class_ 10), (0, .nameAndType 11 12), (0, u "com/example/trellis/trellis/model/RegexOccurrencesHashPinLaw"), (0, u "make"), (0, u "(III)Lcom/example/trellis/trellis/model/RegexOccurrences;"), (0, .methodref 8 14), (0, .nameAndType 15 16), (0, u "key"), (0, u "(III)J"), (0, .methodref 18 19), (0, .class_ 20), (0, .nameAndType 21 22), (0, u "com/example/trellis/trellis/model/RegexOccurrences"), (0, u "hash"), (0, u "()I"), (0, .methodref 18 3), (0, .methodref 25 26), (0, .class_ 27), (0, .nameAndType 28 29), (0, u "java/lang/Math"), (0, u "max"), (0, u "(II)I"), (0, .methodref 18 31), (0, .nameAndType 32 33), (0, u "first"), (0, u "(II)Lcom/example/trellis/trellis/model/RegexOccurrences;"), (0, .integer 1073741823), (0, .methodref 18 36), (0, .nameAndType 37 38), (0, u "setOneMore"), (0, u "(Lcom/example/trellis/trellis/model/RegexOccurrences;)V"), (0, .long 18446744073709551615), (3, .integer 2147483647), (0, .long 2147483647), (3, .long 9223372036854775808), (1, .long 9223372036854775809), (3, u "law"), (0, u "(IIIIII)Z")] 3

def k1m0 : Method := { name := "<init>", desc := "()V", sig := { parameters := [], returnType := none }, accessFlags := 1, code := none }
def k1c1 : Code := { maxStack := 5, maxLocals := 12, code := code, exceptionTable := #[], attributes := #[] }
def k1m1 : Method := { name := "law", desc := "(IIIIII)Z", sig := { parameters := [.int, .int, .int, .int, .int, .int], returnType := some .boolean }, accessFlags := 9, code := some k1c1 }
def k1c2 : Code := { maxStack := 3, maxLocals := 7, code := method_3_code, exceptionTable := #[], attributes := #[] }
def k1m2 : Method := { name := "make", desc := "(III)Lcom/example/trellis/trellis/model/RegexOccurrences;", sig := { parameters := [.int, .int, .int], returnType := some (.object "com/example/trellis/trellis/model/RegexOccurrences") }, accessFlags := 10, code := some k1c2 }
def k1c3 : Code := { maxStack := 4, maxLocals := 6, code := method_4_code, exceptionTable := #[], attributes := #[] }
def k1m3 : Method := { name := "key", desc := "(III)J", sig := { parameters := [.int, .int, .int], returnType := some .long }, accessFlags := 10, code := some k1c3 }
/-- com/example/trellis/trellis/model/RegexOccurrencesHashPinLaw -/
def k1 : Class := { plain "com/example/trellis/trellis/model/RegexOccurrencesHashPinLaw" (some 0) with
  accessFlags := 49
  interfaces := #[]
  cf := some (fileOf pool1 8 #[] #[{ accessFlags := 1, nameIndex := 5, descriptorIndex := 6, attributes := #[] }, { accessFlags := 9, nameIndex := 54, descriptorIndex := 55, attributes := #[] }, { accessFlags := 10, nameIndex := 11, descriptorIndex := 12, attributes := #[] }, { accessFlags := 10, nameIndex := 15, descriptorIndex := 16, attributes := #[] }] 49 2 #[] #[])
  fields := #[]
  methods := #[k1m0, k1m1, k1m2, k1m3]
  instanceTypes := #[]
  staticTypes := #[]
  resolved := Array.replicate 59 none
  statics := none }

def pool2 : Array CpInfo := pool [(1, .methodref 2 3), (0, .class_ 4), (0, .nameAndType 5 6), (0, u "java/lang/Object"), (0, u "<init>"), (0, u "()V"), (0, .class_ 8), (0, u "com/example/trellis/trellis/model/RegexOccurrences"), (0, .fieldref 7 10), (0, .nameAndType 11 12), (0, u "runs"), (0, u "[I"), (0, .fieldref 7 14), (0, .nameAndType 15 16), (0, u "room"), (0, u "I"), (0, .methodref 7 3), (0, .fieldref 7 19), (0, .nameAndType 20 16), (0, u "least"), (0, .fieldref 7 22), (0, .nameAndType 23 16), (0, u "most"), (2, .integer 2147483647), (0, .fieldref 7 28), (0, .nameAndType 29 16), (0, u "length"), (0, .methodref 7 31), (0, .nameAndType 32 33), (0, u "set"), (0, u "(Lcom/example/trellis/trellis/model/RegexOccurrences;)V"), (0, .methodref 7 35), (0, .nameAndType 36 37), (0, u "fitted"), (0, u "([II)[I"), (0, .methodref 39 40), (0, .class_ 41), (0, .nameAndType 42 43), (0, u "java/lang/System"), (0, u "arraycopy"), (0, u "(Ljava/lang/Object;ILjava/lang/Object;II)V"), (0, .methodref 45 46), (0, .class_ 47), (0, .nameAndType 48 49), (0, u "java/lang/Math"), (0, u "max"), (0, u "(II)I"), (11, .integer 2246822507), (0, .integer 3266489909), (9, u "spare"), (0, .class_ 74), (0, u "com/example/trellis/trellis/model/RegexOccurrences$Piece"), (3, u "mine"), (0, u "Lcom/example/trellis/trellis/model/RegexOccurrences$Piece;"), (2, u "theirs"), (13, u "first"), (37, u "RUN"), (4, u "(II)Lcom/example/trellis/trellis/model/RegexOccurrences;"), (3, u "setOneMore"), (2, u "hash"), (0, u "()I")] 6

def k2c0 : Code := { maxStack := 2, maxLocals := 1, code := prog_65_method_1_code, exceptionTable := #[], attributes := #[] }
def k2m0 : Method := { name := "<init>", desc := "()V", sig := { parameters := [], returnType := none }, accessFlags := 0, code := some k2c0 }
def k2c1 : Code := { maxStack := 3, maxLocals := 3, code := prog_65_method_2_code, exceptionTable := #[], attributes := #[] }
def k2m1 : Method := { name := "first", desc := "(II)Lcom/example/trellis/trellis/model/RegexOccurrences;", sig := { parameters := [.int, .int], returnType := some (.object "com/example/trellis/trellis/model/RegexOccurrences") }, accessFlags := 8, code := some k2c1 }
def k2c2 : Code := { maxStack := 5, maxLocals := 2, code := prog_65_method_4_code, exceptionTable := #[], attributes := #[] }
def k2m2 : Method := { name := "set", desc := "(Lcom/example/trellis/trellis/model/RegexOccurrences;)V", sig := { parameters := [(.object "com/example/trellis/trellis/model/RegexOccurrences")], returnType := none }, accessFlags := 0, code := some k2c2 }
def k2c3 : Code := { maxStack := 6, maxLocals := 3, code := prog_65_method_5_code, exceptionTable := #[], attributes := #[] }
def k2m3 : Method := { name := "setOneMore", desc := "(Lcom/example/trellis/trellis/model/RegexOccurrences;)V", sig := { parameters := [(.object "com/example/trellis/trellis/model/RegexOccurrences")], returnType := none }, accessFlags := 0, code := some k2c3 }
def k2c4 : Code := { maxStack := 3, maxLocals := 3, code := prog_65_method_10_code, exceptionTable := #[], attributes := #[] }
def k2m4 : Method := { name := "hash", desc := "()I", sig := { parameters := [], returnType := some .int }, accessFlags := 0, code := some k2c4 }
def k2c5 : Code := { maxStack := 4, maxLocals := 2, code := prog_65_method_16_code, exceptionTable := #[], attributes := #[] }
def k2m5 : Method := { name := "fitted", desc := "([II)[I", sig := { parameters := [(.array .int), .int], returnType := some (.array .int) }, accessFlags := 8, code := some k2c5 }
/-- com/example/trellis/trellis/model/RegexOccurrences -/
def k2 : Class := { plain "com/example/trellis/trellis/model/RegexOccurrences" (some 0) with
  accessFlags := 48
  interfaces := #[]
  cf := some (fileOf pool2 7 #[.nestMembers #[73]] #[{ accessFlags := 0, nameIndex := 5, descriptorIndex := 6, attributes := #[] }, { accessFlags := 8, nameIndex := 96, descriptorIndex := 139, attributes := #[] }, { accessFlags := 0, nameIndex := 32, descriptorIndex := 33, attributes := #[] }, { accessFlags := 0, nameIndex := 143, descriptorIndex := 33, attributes := #[] }, { accessFlags := 0, nameIndex := 146, descriptorIndex := 147, attributes := #[] }, { accessFlags := 8, nameIndex := 36, descriptorIndex := 37, attributes := #[] }] 48 2 #[] #[{ accessFlags := 26, nameIndex := 134, descriptorIndex := 16, attributes := #[] }, { accessFlags := 2, nameIndex := 20, descriptorIndex := 16, attributes := #[] }, { accessFlags := 2, nameIndex := 23, descriptorIndex := 16, attributes := #[] }, { accessFlags := 2, nameIndex := 11, descriptorIndex := 12, attributes := #[] }, { accessFlags := 2, nameIndex := 29, descriptorIndex := 16, attributes := #[] }, { accessFlags := 2, nameIndex := 15, descriptorIndex := 16, attributes := #[] }, { accessFlags := 2, nameIndex := 72, descriptorIndex := 12, attributes := #[] }, { accessFlags := 2, nameIndex := 78, descriptorIndex := 79, attributes := #[] }, { accessFlags := 2, nameIndex := 82, descriptorIndex := 79, attributes := #[] }])
  fields := #[{ name := "RUN", type := .int, accessFlags := 26, slot := 0, constantValue := 0 }, { name := "least", type := .int, accessFlags := 2, slot := 0, constantValue := 0 }, { name := "most", type := .int, accessFlags := 2, slot := 1, constantValue := 0 }, { name := "runs", type := (.array .int), accessFlags := 2, slot := 2, constantValue := 0 }, { name := "length", type := .int, accessFlags := 2, slot := 3, constantValue := 0 }, { name := "room", type := .int, accessFlags := 2, slot := 4, constantValue := 0 }, { name := "spare", type := (.array .int), accessFlags := 2, slot := 5, constantValue := 0 }, { name := "mine", type := (.object "com/example/trellis/trellis/model/RegexOccurrences$Piece"), accessFlags := 2, slot := 6, constantValue := 0 }, { name := "theirs", type := (.object "com/example/trellis/trellis/model/RegexOccurrences$Piece"), accessFlags := 2, slot := 7, constantValue := 0 }]
  methods := #[k2m0, k2m1, k2m2, k2m3, k2m4, k2m5]
  instanceTypes := #[.int, .int, (.array .int), .int, .int, (.array .int), (.object "com/example/trellis/trellis/model/RegexOccurrences$Piece"), (.object "com/example/trellis/trellis/model/RegexOccurrences$Piece")]
  staticTypes := #[.int]
  resolved := Array.replicate 154 none
  statics := none }

def pool3 : Array CpInfo := pool [(1, .class_ 2), (0, u "java/lang/Math"), (1, .class_ 6), (1, u "java/lang/Object"), (0, u "<init>"), (0, u "()V"), (89, .class_ 100), (1, u "java/lang/Math$RandomNumberGeneratorHolder"), (71, u "negativeZeroFloatBits"), (0, u "J"), (2, u "negativeZeroDoubleBits"), (21, u "max"), (46, u "$assertionsDisabled"), (0, u "Z"), (88, u "(II)I"), (2, u "twoToTheDoubleScaleDown"), (0, u "D"), (4, u "twoToTheDoubleScaleUp"), (9, u "E"), (3, u "PI"), (2, u "TAU"), (2, u "DEGREES_TO_RADIANS"), (0, u "RADIANS_TO_DEGREES")] 94

def k3m0 : Method := { name := "<init>", desc := "()V", sig := { parameters := [], returnType := none }, accessFlags := 2, code := none }
def k3c1 : Code := { maxStack := 2, maxLocals := 2, code := jdk_29_method_65_code, exceptionTable := #[], attributes := #[] }
def k3m1 : Method := { name := "max", desc := "(II)I", sig := { parameters := [.int, .int], returnType := some .int }, accessFlags := 9, code := some k3c1 }
/-- java/lang/Math -/
def k3 : Class := { plain "java/lang/Math" (some 0) with
  accessFlags := 49
  interfaces := #[]
  cf := some (fileOf pool3 1 #[.nestMembers #[98]] #[{ accessFlags := 2, nameIndex := 7, descriptorIndex := 8, attributes := #[] }, { accessFlags := 9, nameIndex := 198, descriptorIndex := 335, attributes := #[] }] 49 4 #[] #[{ accessFlags := 25, nameIndex := 354, descriptorIndex := 339, attributes := #[] }, { accessFlags := 25, nameIndex := 358, descriptorIndex := 339, attributes := #[] }, { accessFlags := 25, nameIndex := 361, descriptorIndex := 339, attributes := #[] }, { accessFlags := 26, nameIndex := 364, descriptorIndex := 339, attributes := #[] }, { accessFlags := 26, nameIndex := 365, descriptorIndex := 339, attributes := #[] }, { accessFlags := 26, nameIndex := 172, descriptorIndex := 173, attributes := #[] }, { accessFlags := 26, nameIndex := 176, descriptorIndex := 173, attributes := #[] }, { accessFlags := 8, nameIndex := 344, descriptorIndex := 339, attributes := #[] }, { accessFlags := 8, nameIndex := 338, descriptorIndex := 339, attributes := #[] }, { accessFlags := 4120, nameIndex := 245, descriptorIndex := 246, attributes := #[] }])
  fields := #[{ name := "E", type := .double, accessFlags := 25, slot := 0, constantValue := 0 }, { name := "PI", type := .double, accessFlags := 25, slot := 1, constantValue := 0 }, { name := "TAU", type := .double, accessFlags := 25, slot := 2, constantValue := 0 }, { name := "DEGREES_TO_RADIANS", type := .double, accessFlags := 26, slot := 3, constantValue := 0 }, { name := "RADIANS_TO_DEGREES", type := .double, accessFlags := 26, slot := 4, constantValue := 0 }, { name := "negativeZeroFloatBits", type := .long, accessFlags := 26, slot := 5, constantValue := 0 }, { name := "negativeZeroDoubleBits", type := .long, accessFlags := 26, slot := 6, constantValue := 0 }, { name := "twoToTheDoubleScaleUp", type := .double, accessFlags := 8, slot := 7, constantValue := 0 }, { name := "twoToTheDoubleScaleDown", type := .double, accessFlags := 8, slot := 8, constantValue := 0 }, { name := "$assertionsDisabled", type := .boolean, accessFlags := 4120, slot := 9, constantValue := 0 }]
  methods := #[k3m0, k3m1]
  instanceTypes := #[]
  staticTypes := #[.double, .double, .double, .double, .double, .long, .long, .double, .double, .boolean]
  resolved := Array.replicate 460 none
  statics := none }

def pool4 : Array CpInfo := pool [(2, .class_ 4), (1, u "java/lang/Object"), (0, u "<init>"), (0, u "()V"), (1, .class_ 10), (1, u "java/lang/System"), (0, u "allowSecurityManager"), (0, u "I"), (16, u "cons"), (0, u "Ljava/io/Console;"), (77, .class_ 110), (1, u "java/lang/System$CallersHolder"), (43, u "initialErrStream"), (0, u "Ljava/io/PrintStream;"), (19, u "security"), (0, u "Ljava/lang/SecurityManager;"), (31, .class_ 209), (0, u "java/lang/System$1"), (7, u "props"), (0, u "Ljava/util/Properties;"), (2, u "lineSeparator"), (0, u "Ljava/lang/String;"), (96, .class_ 321), (1, u "java/lang/System$LoggerFinder"), (5, .class_ 328), (0, u "java/lang/System$Logger"), (67, u "err"), (2, u "out"), (91, u "notSupportedJnuEncoding"), (15, u "in"), (17, u "initialIn"), (0, u "Ljava/io/InputStream;"), (35, u "bootLayer"), (0, u "Ljava/lang/ModuleLayer;"), (99, .class_ 664), (0, u "java/lang/System$2"), (9, u "NEVER"), (2, u "MAYBE"), (49, u "arraycopy"), (0, u "(Ljava/lang/Object;ILjava/lang/Object;II)V"), (72, .class_ 802), (0, u "java/lang/System$Logger$Level")] 31

def k4m0 : Method := { name := "<init>", desc := "()V", sig := { parameters := [], returnType := none }, accessFlags := 2, code := none }
def k4m1 : Method := { name := "arraycopy", desc := "(Ljava/lang/Object;ILjava/lang/Object;II)V", sig := { parameters := [(.object "java/lang/Object"), .int, (.object "java/lang/Object"), .int, .int], returnType := none }, accessFlags := 265, code := none }
/-- java/lang/System -/
def k4 : Class := { plain "java/lang/System" (some 0) with
  accessFlags := 49
  interfaces := #[]
  cf := some (fileOf pool4 8 #[.nestMembers #[319, 327, 801, 108, 663, 208]] #[{ accessFlags := 2, nameIndex := 5, descriptorIndex := 6, attributes := #[] }, { accessFlags := 265, nameIndex := 727, descriptorIndex := 728, attributes := #[] }] 49 2 #[] #[{ accessFlags := 25, nameIndex := 507, descriptorIndex := 526, attributes := #[] }, { accessFlags := 25, nameIndex := 399, descriptorIndex := 155, attributes := #[] }, { accessFlags := 25, nameIndex := 396, descriptorIndex := 155, attributes := #[] }, { accessFlags := 10, nameIndex := 525, descriptorIndex := 526, attributes := #[] }, { accessFlags := 26, nameIndex := 674, descriptorIndex := 12, attributes := #[] }, { accessFlags := 26, nameIndex := 677, descriptorIndex := 12, attributes := #[] }, { accessFlags := 10, nameIndex := 11, descriptorIndex := 12, attributes := #[] }, { accessFlags := 74, nameIndex := 175, descriptorIndex := 176, attributes := #[] }, { accessFlags := 10, nameIndex := 491, descriptorIndex := 222, attributes := #[] }, { accessFlags := 74, nameIndex := 29, descriptorIndex := 30, attributes := #[] }, { accessFlags := 74, nameIndex := 154, descriptorIndex := 155, attributes := #[] }, { accessFlags := 10, nameIndex := 217, descriptorIndex := 218, attributes := #[] }, { accessFlags := 10, nameIndex := 221, descriptorIndex := 222, attributes := #[] }, { accessFlags := 8, nameIndex := 562, descriptorIndex := 563, attributes := #[] }])
  fields := #[{ name := "in", type := (.object "java/io/InputStream"), accessFlags := 25, slot := 0, constantValue := 0 }, { name := "out", type := (.object "java/io/PrintStream"), accessFlags := 25, slot := 1, constantValue := 0 }, { name := "err", type := (.object "java/io/PrintStream"), accessFlags := 25, slot := 2, constantValue := 0 }, { name := "initialIn", type := (.object "java/io/InputStream"), accessFlags := 10, slot := 3, constantValue := 0 }, { name := "NEVER", type := .int, accessFlags := 26, slot := 4, constantValue := 0 }, { name := "MAYBE", type := .int, accessFlags := 26, slot := 5, constantValue := 0 }, { name := "allowSecurityManager", type := .int, accessFlags := 10, slot := 6, constantValue := 0 }, { name := "security", type := (.object "java/lang/SecurityManager"), accessFlags := 74, slot := 7, constantValue := 0 }, { name := "notSupportedJnuEncoding", type := (.object "java/lang/String"), accessFlags := 10, slot := 8, constantValue := 0 }, { name := "cons", type := (.object "java/io/Console"), accessFlags := 74, slot := 9, constantValue := 0 }, { name := "initialErrStream", type := (.object "java/io/PrintStream"), accessFlags := 74, slot := 10, constantValue := 0 }, { name := "props", type := (.object "java/util/Properties"), accessFlags := 10, slot := 11, constantValue := 0 }, { name := "lineSeparator", type := (.object "java/lang/String"), accessFlags := 10, slot := 12, constantValue := 0 }, { name := "bootLayer", type := (.object "java/lang/ModuleLayer"), accessFlags := 8, slot := 13, constantValue := 0 }]
  methods := #[k4m0, k4m1]
  instanceTypes := #[]
  staticTypes := #[(.object "java/io/InputStream"), (.object "java/io/PrintStream"), (.object "java/io/PrintStream"), (.object "java/io/InputStream"), .int, .int, .int, (.object "java/lang/SecurityManager"), (.object "java/lang/String"), (.object "java/io/Console"), (.object "java/io/PrintStream"), (.object "java/util/Properties"), (.object "java/lang/String"), (.object "java/lang/ModuleLayer")]
  resolved := Array.replicate 834 none
  statics := none }

def pool5 : Array CpInfo := pool [(1, u "java/lang/Cloneable"), (0, .class_ 1), (0, u "java/lang/Object"), (0, .class_ 3)] 3

/-- java/lang/Cloneable -/
def k5 : Class := { plain "java/lang/Cloneable" (some 0) with
  accessFlags := 1537
  interfaces := #[]
  cf := some (fileOf pool5 2 #[] #[] 1537 4 #[] #[])
  fields := #[]
  methods := #[]
  instanceTypes := #[]
  staticTypes := #[]
  resolved := Array.replicate 8 none
  statics := none }

def pool6 : Array CpInfo := pool [(1, u "java/io/Serializable"), (0, .class_ 1), (0, u "java/lang/Object"), (0, .class_ 3)] 3

/-- java/io/Serializable -/
def k6 : Class := { plain "java/io/Serializable" (some 0) with
  accessFlags := 1537
  interfaces := #[]
  cf := some (fileOf pool6 2 #[] #[] 1537 4 #[] #[])
  fields := #[]
  methods := #[]
  instanceTypes := #[]
  staticTypes := #[]
  resolved := Array.replicate 8 none
  statics := none }

/-- the primitive byte -/
def k7 : Class := { plain "byte" none with kind := .primitive 'B', accessFlags := 0x411 }
/-- [B -/
def k8 : Class := { plain "[B" (some 0) with kind := .array 7 .byte, interfaces := #[5, 6], accessFlags := 1041 }

/-- the primitive int -/
def k9 : Class := { plain "int" none with kind := .primitive 'I', accessFlags := 0x411 }
/-- [I -/
def k10 : Class := { plain "[I" (some 0) with kind := .array 9 .int, interfaces := #[5, 6], accessFlags := 1041 }

def heap : Heap := #[]
def classes : Array Class := #[k0, k1, k2, k3, k4, k5, k6, k7, k8, k9, k10]
def interned : List (Array UInt16 × Addr) := []
def slotsUsed : Nat := 0
def theMethod : MethodId := ⟨1, 1⟩
def args0 : Array Value := #[.int 1, .int 2, .int 3, .int 4, .int 5, .int 6]
def aboutOver (below : List Frame) : State where
  vm := { classes := classes, interned := interned.toArray }
  heap := heap
  slotsUsed := slotsUsed
  threads := #[{ frames := .invoking theMethod args0 :: below }]
def below0 : List Frame := [.native { method := ⟨0, 0⟩, args := #[] }]
def about1 : State := aboutOver below0
def p0 : Program := .bare "" "" ""
def e0 : Env := launch0.env 0 0 0
theorem w_frames : about1.frames = Frame.invoking theMethod args0 :: below0 := rfl
set_option maxRecDepth 65536 in
theorem w_args : argsFit about1.vm theMethod args0 = true := by decide +kernel
set_option maxRecDepth 65536 in
theorem w_heap : heapFits about1 = true := by decide +kernel
set_option maxRecDepth 65536 in
theorem w_runnable : about1.curStatus? = some .runnable := by decide +kernel
set_option maxRecDepth 65536 in
theorem w_alone : about1.alone = true := by decide +kernel
set_option maxRecDepth 65536 in
theorem w_named : about1.methodNamed? x = some theMethod := by decide +kernel
set_option maxRecDepth 65536 in
theorem w_hears : about1.hears theMethod below0 = true := by decide +kernel
set_option maxRecDepth 65536 in
theorem w_ripe : about1.ripe theMethod args0 below0 = true := by decide +kernel
theorem w_running : about1.status = .running := rfl
set_option maxRecDepth 65536 in
theorem w_room : about1.hasRoom e0.platform room_1 = true :=
  launch0.hasRoom_least _ room_1 (by decide +kernel) (by decide +kernel) (by decide +kernel) (by decide +kernel) (by decide +kernel) (by decide +kernel)
theorem allAtoms_all (ts : List Jvm.Cond) (a : Array Jvm.Value) (st : Jvm.State) : (allAtoms ts).before a st = ts.all (fun c => c.before a st) := by
  induction ts with
  | nil => rfl
  | cons c t ih =>
    show (Jvm.Cond.and c (allAtoms t)).before a st = _
    rw [Jvm.Cond.before_and, ih, List.all_cons]
def words1 : List Jvm.Cond := Jvm.Cond.code x code maxLocals ret :: tables_1
/-- a 'code' word, met by the world's own term for the bytes: nothing is compared byte by byte -/
theorem code_word {y : MethodName} {bytes : ByteArray} {mx : Nat} {rt : Option FieldType} {a : Array Value} {s : State} {m : MethodId} {meth : Method} {c : Code} (h1 : s.methodNamed? y = some m) (h2 : s.vm.method? m = some meth) (h3 : meth.code = some c) (h4 : c.code = bytes)
    (h5 : (c.maxLocals == mx && c.exceptionTable.isEmpty && decide (c.maxStack ≤ mostOperands) && decide (meth.sig.returnType = rt) && !meth.locks && decide (parseMethodDescriptor y.desc = some meth.sig)) = true) : (Jvm.Cond.code y bytes mx rt).before a s = true := by
  simp only [Bool.and_eq_true, beq_iff_eq, Bool.not_eq_true', decide_eq_true_eq] at h5
  obtain ⟨⟨⟨⟨⟨g1, g2⟩, g3⟩, g4⟩, g5⟩, g6⟩ := h5
  simp [Cond.before, Cond.holds, Cond.value, h1, h2, h3, h4, g1, g2, g3, g4, g5, g6]
def isCode : Jvm.Cond → Bool
  | .code _ _ _ _ => true
  | _ => false
theorem all_split {L : List Jvm.Cond} {P : Jvm.Cond → Bool} (h1 : L.all (fun c => isCode c || P c) = true) (h2 : ∀ c ∈ L.filter isCode, P c = true) : L.all P = true := by
  refine List.all_eq_true.mpr fun c hc => ?_
  have h := List.all_eq_true.mp h1 c hc
  rcases Bool.eq_false_or_eq_true (isCode c) with hi | hi
  · exact h2 c (List.mem_filter.mpr ⟨hc, hi⟩)
  · simpa [hi] using h
set_option maxRecDepth 65536 in
theorem w_c0 : (Jvm.Cond.code x code maxLocals ret).before args0 about1 = true := code_word (m := ⟨1, 1⟩) (meth := k1m1) (c := k1c1) (by decide +kernel) rfl rfl rfl (by decide +kernel)
set_option maxRecDepth 65536 in
theorem w_c1 : (Jvm.Cond.code ({ cls := "com/example/trellis/trellis/model/RegexOccurrencesHashPinLaw", name := "make", desc := "(III)Lcom/example/trellis/trellis/model/RegexOccurrences;" } : Jvm.MethodName) method_3_code (7 : Nat) (Option.some (Jvm.ClassFile.FieldType.object "com/example/trellis/trellis/model/RegexOccurrences"))).before args0 about1 = true := code_word (m := ⟨1, 2⟩) (meth := k1m2) (c := k1c2) (by decide +kernel) rfl rfl rfl (by decide +kernel)
set_option maxRecDepth 65536 in
theorem w_c2 : (Jvm.Cond.code ({ cls := "com/example/trellis/trellis/model/RegexOccurrences", name := "<init>", desc := "()V" } : Jvm.MethodName) prog_65_method_1_code (1 : Nat) (Option.none : Option Jvm.ClassFile.FieldType)).before args0 about1 = true := code_word (m := ⟨2, 0⟩) (meth := k2m0) (c := k2c0) (by decide +kernel) rfl rfl rfl (by decide +kernel)
set_option maxRecDepth 65536 in
theorem w_c3 : (Jvm.Cond.code ({ cls := "java/lang/Object", name := "<init>", desc := "()V" } : Jvm.MethodName) object_method_1_code (1 : Nat) (Option.none : Option Jvm.ClassFile.FieldType)).before args0 about1 = true := code_word (m := ⟨0, 0⟩) (meth := k0m0) (c := k0c0) (by decide +kernel) rfl rfl rfl (by decide +kernel)
set_option maxRecDepth 65536 in
theorem w_c4 : (Jvm.Cond.code ({ cls := "java/lang/Math", name := "max", desc := "(II)I" } : Jvm.MethodName) jdk_29_method_65_code (2 : Nat) (Option.some Jvm.ClassFile.FieldType.int)).before args0 about1 = true := code_word (m := ⟨3, 1⟩) (meth := k3m1) (c := k3c1) (by decide +kernel) rfl rfl rfl (by decide +kernel)
set_option maxRecDepth 65536 in
theorem w_c5 : (Jvm.Cond.code ({ cls := "com/example/trellis/trellis/model/RegexOccurrences", name := "first", desc := "(II)Lcom/example/trellis/trellis/model/RegexOccurrences;" } : Jvm.MethodName) prog_65_method_2_code (3 : Nat) (Option.some (Jvm.ClassFile.FieldType.object "com/example/trellis/trellis/model/RegexOccurrences"))).before args0 about1 = true := code_word (m := ⟨2, 1⟩) (meth := k2m1) (c := k2c1) (by decide +kernel) rfl rfl rfl (by decide +kernel)
set_option maxRecDepth 65536 in
theorem w_c6 : (Jvm.Cond.code ({ cls := "com/example/trellis/trellis/model/RegexOccurrencesHashPinLaw", name := "key", desc := "(III)J" } : Jvm.MethodName) method_4_code (6 : Nat) (Option.some Jvm.ClassFile.FieldType.long)).before args0 about1 = true := code_word (m := ⟨1, 3⟩) (meth := k1m3) (c := k1c3) (by decide +kernel) rfl rfl rfl (by decide +kernel)
set_option maxRecDepth 65536 in
theorem w_c7 : (Jvm.Cond.code ({ cls := "com/example/trellis/trellis/model/RegexOccurrences", name := "hash", desc := "()I" } : Jvm.MethodName) prog_65_method_10_code (3 : Nat) (Option.some Jvm.ClassFile.FieldType.int)).before args0 about1 = true := code_word (m := ⟨2, 4⟩) (meth := k2m4) (c := k2c4) (by decide +kernel) rfl rfl rfl (by decide +kernel)
set_option maxRecDepth 65536 in
theorem w_c8 : (Jvm.Cond.code ({ cls := "com/example/trellis/trellis/model/RegexOccurrences", name := "setOneMore", desc := "(Lcom/example/trellis/trellis/model/RegexOccurrences;)V" } : Jvm.MethodName) prog_65_method_5_code (3 : Nat) (Option.none : Option Jvm.ClassFile.FieldType)).before args0 about1 = true := code_word (m := ⟨2, 3⟩) (meth := k2m3) (c := k2c3) (by decide +kernel) rfl rfl rfl (by decide +kernel)
set_option maxRecDepth 65536 in
theorem w_c9 : (Jvm.Cond.code ({ cls := "com/example/trellis/trellis/model/RegexOccurrences", name := "set", desc := "(Lcom/example/trellis/trellis/model/RegexOccurrences;)V" } : Jvm.MethodName) prog_65_method_4_code (2 : Nat) (Option.none : Option Jvm.ClassFile.FieldType)).before args0 about1 = true := code_word (m := ⟨2, 2⟩) (meth := k2m2) (c := k2c2) (by decide +kernel) rfl rfl rfl (by decide +kernel)
set_option maxRecDepth 65536 in
theorem w_c10 : (Jvm.Cond.code ({ cls := "com/example/trellis/trellis/model/RegexOccurrences", name := "fitted", desc := "([II)[I" } : Jvm.MethodName) prog_65_method_16_code (2 : Nat) (Option.some (Jvm.ClassFile.FieldType.array Jvm.ClassFile.FieldType.int))).before args0 about1 = true := code_word (m := ⟨2, 5⟩) (meth := k2m5) (c := k2c5) (by decide +kernel) rfl rfl rfl (by decide +kernel)
def codes1 : List Jvm.Cond := [Jvm.Cond.code x code maxLocals ret, Jvm.Cond.code ({ cls := "com/example/trellis/trellis/model/RegexOccurrencesHashPinLaw", name := "make", desc := "(III)Lcom/example/trellis/trellis/model/RegexOccurrences;" } : Jvm.MethodName) method_3_code (7 : Nat) (Option.some (Jvm.ClassFile.FieldType.object "com/example/trellis/trellis/model/RegexOccurrences")), Jvm.Cond.code ({ cls := "com/example/trellis/trellis/model/RegexOccurrences", name := "<init>", desc := "()V" } : Jvm.MethodName) prog_65_method_1_code (1 : Nat) (Option.none : Option Jvm.ClassFile.FieldType), Jvm.Cond.code ({ cls := "java/lang/Object", name := "<init>", desc := "()V" } : Jvm.MethodName) object_method_1_code (1 : Nat) (Option.none : Option Jvm.ClassFile.FieldType), Jvm.Cond.code ({ cls := "java/lang/Math", name := "max", desc := "(II)I" } : Jvm.MethodName) jdk_29_method_65_code (2 : Nat) (Option.some Jvm.ClassFile.FieldType.int), Jvm.Cond.code ({ cls := "com/example/trellis/trellis/model/RegexOccurrences", name := "first", desc := "(II)Lcom/example/trellis/trellis/model/RegexOccurrences;" } : Jvm.MethodName) prog_65_method_2_code (3 : Nat) (Option.some (Jvm.ClassFile.FieldType.object "com/example/trellis/trellis/model/RegexOccurrences")), Jvm.Cond.code ({ cls := "com/example/trellis/trellis/model/RegexOccurrencesHashPinLaw", name := "key", desc := "(III)J" } : Jvm.MethodName) method_4_code (6 : Nat) (Option.some Jvm.ClassFile.FieldType.long), Jvm.Cond.code ({ cls := "com/example/trellis/trellis/model/RegexOccurrences", name := "hash", desc := "()I" } : Jvm.MethodName) prog_65_method_10_code (3 : Nat) (Option.some Jvm.ClassFile.FieldType.int), Jvm.Cond.code ({ cls := "com/example/trellis/trellis/model/RegexOccurrences", name := "setOneMore", desc := "(Lcom/example/trellis/trellis/model/RegexOccurrences;)V" } : Jvm.MethodName) prog_65_method_5_code (3 : Nat) (Option.none : Option Jvm.ClassFile.FieldType), Jvm.Cond.code ({ cls := "com/example/trellis/trellis/model/RegexOccurrences", name := "set", desc := "(Lcom/example/trellis/trellis/model/RegexOccurrences;)V" } : Jvm.MethodName) prog_65_method_4_code (2 : Nat) (Option.none : Option Jvm.ClassFile.FieldType), Jvm.Cond.code ({ cls := "com/example/trellis/trellis/model/RegexOccurrences", name := "fitted", desc := "([II)[I" } : Jvm.MethodName) prog_65_method_16_code (2 : Nat) (Option.some (Jvm.ClassFile.FieldType.array Jvm.ClassFile.FieldType.int))]
set_option maxRecDepth 65536 in
theorem codes_eq : words1.filter isCode = codes1 := rfl
theorem w_codes : ∀ c ∈ words1.filter isCode, c.before args0 about1 = true := by
  rw [codes_eq]
  intro c hc
  simp only [codes1, List.mem_cons, List.not_mem_nil, or_false] at hc
  rcases hc with rfl | rfl | rfl | rfl | rfl | rfl | rfl | rfl | rfl | rfl | rfl
  · exact w_c0
  · exact w_c1
  · exact w_c2
  · exact w_c3
  · exact w_c4
  · exact w_c5
  · exact w_c6
  · exact w_c7
  · exact w_c8
  · exact w_c9
  · exact w_c10
set_option maxRecDepth 65536 in
theorem w_t1 : (words1.take 24).all (fun c => isCode c || c.before args0 about1) = true := by decide +kernel
set_option maxRecDepth 65536 in
theorem w_t2 : ((words1.drop 24).take 24).all (fun c => isCode c || c.before args0 about1) = true := by decide +kernel
set_option maxRecDepth 65536 in
theorem w_t3 : ((words1.drop 24).drop 24).all (fun c => isCode c || c.before args0 about1) = true := by decide +kernel
theorem w_tables : (allAtoms (Jvm.Cond.code x code maxLocals ret :: tables_1)).before args0 about1 = true := by
  rw [allAtoms_all]
  show words1.all (fun c => c.before args0 about1) = true
  refine all_split ?_ w_codes
  rw [← List.take_append_drop 24 words1, List.all_append, w_t1, ← List.take_append_drop 24 (words1.drop 24), List.all_append, w_t2, w_t3]
  rfl
set_option maxRecDepth 65536 in
theorem w_case : (Jvm.Cond.and given_1 narrow_1).before args0 about1 = true := by decide +kernel
theorem w_applies : (headSpec (Jvm.Cond.code x code maxLocals ret :: tables_1) room_1).applies x e0.platform about1 = true :=
  (Spec.applies_iff w_frames).mpr ⟨w_running, w_runnable, w_alone, w_named, w_hears, w_ripe, w_room, w_tables⟩
theorem atStart : AtStart classFile x code maxLocals ret World_1 tables_1 room_1 Calls_1 rest_1 Pre_1 launch0 p0 e0 about1 theMethod args0 below0 :=
  ⟨lists_1, trivial, launch0.admits_env _ _ _, launch0.least_env, fairChoices_fair.cas, fairChoices_fair.clock, w_frames, w_args, w_heap, w_applies, trivial, trivial, w_case⟩
end start1
theorem witness_1 : WitnessClaimed_1 := ⟨start1.p0, start1.e0, start1.about1, start1.theMethod, start1.args0, start1.below0, start1.atStart⟩
end Jvm.Pilot.@@N@@
