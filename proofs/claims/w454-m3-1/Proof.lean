import JvmDerived
import JvmDerived.Pilot.@@N@@Statement
import JvmDerived.Pilot.@@N@@Code
set_option linter.unusedVariables false
set_option linter.unusedSimpArgs false
namespace Jvm.OwnKit
open Jvm Sem ClassFile Op Lib Jvm.Stand Jvm.Free Jvm.LawKit Jvm.RoadKit
/-- what a body's walk knows of its frame throughout -/
def Cx (p : Program) (s : State) (m : MethodId) (meth : Method) (c : Code) (Z : State) (y : MethodName) (bytes : ByteArray) (ml : Nat) (ret : Option FieldType) : Prop :=
  p.tables.exec = Jvm.exec ∧ Z.Warmed39 s.vm ∧ s.vm.findClass y.cls = some m.cls ∧ c.code = bytes ∧ c.maxLocals = ml ∧ meth.sig.returnType = ret ∧ meth.locks = false ∧ meth.name = y.name
/-- from the heap h, k cells and n slots made so far, the frame at pc with these locals and this stack comes to its end, and Q holds of the result and the last heap -/
def W (p : Program) (l : Launch) (e : Env) (R : Room) (s : State) (m : MethodId) (args : Array Value) (below : List Frame) (meth : Method) (c : Code) (n0 : Nat) (Q : Option Value → Heap → Prop) (kc ks : Nat)
    (k n : Nat) (h : Heap) (pc : Nat) (ls : Array Slot) (st : List Value) : Prop :=
  ∀ (T : State) (locs : List Loc), Stand p l e R s m args below meth c T locs k n → T.heap = h → Fr n0 locs →
    ∃ s₂ o, Steps p.tables e below (T.setTop (mkF m pc ls st)) s₂ ∧ s₂.status = .running ∧ Ended s₂ below o ∧ ∃ v L, o = .returned v ∧ (Q v s₂.heap ∧ Fr n0 L) ∧ FrameEnd s o s₂ L kc ks
/-- a body's contract -/
def Con (l : Launch) (Z : State) (y : MethodName) (bytes : ByteArray) (ml : Nat) (ret : Option FieldType) (rm : Room) (as' : Array Value) (h0 : Heap) (n0 : Nat) (Q : Option Value → Heap → Prop) : Prop :=
  ∀ ws : List Jvm.Cond, MetFree l y (head1 (Jvm.Cond.code y bytes ml ret :: ws) rm) (fun a U => a = as' ∧ Z.Warmed39 U.vm ∧ U.heap = h0) (fun _ _ _ _ _ => True) (fun _ U o U' => ∃ v L, o = .returned v ∧ (Q v U'.heap ∧ Fr n0 L) ∧ FrameEnd U o U' L rm.cells rm.slots)
/-- it returns v and leaves the heap -/
def Pu (v : Option Value) (h : Heap) : Option Value → Heap → Prop := fun v' h' => v' = v ∧ h = h'
section
variable {p : Program} {l : Launch} {e : Env} {R : Room} {s : State} {m : MethodId} {args : Array Value} {below : List Frame} {meth : Method} {c : Code} {Z : State} {y : MethodName} {bytes : ByteArray} {ml : Nat} {ret : Option FieldType} {n0 : Nat} {Q : Option Value → Heap → Prop} {kc ks k n : Nat} {h : Heap} {pc : Nat} {ls : Array Slot} {st : List Value} {a0 : Array Value}
theorem Cx.a (C : Cx p s m meth c Z y bytes ml ret) {pc : Nat} {r : Except ClassFile.DecodeError (ClassFile.Instr × Nat)} (h2 : ClassFile.decode bytes pc = r) : ClassFile.decode c.code pc = r := C.2.2.2.1 ▸ h2
theorem Con.of {rm : Room} {as' : Array Value} {h0 : Heap} (hpn : plainFor y = true) {ls : Array Slot} (hent : ∀ m, entryFrame m as' ml = mkF m 0 ls [])
    (hW : ∀ p e s m below meth c, Cx p s m meth c Z y bytes ml ret → W p l e rm s m as' below meth c n0 Q rm.cells rm.slots 0 0 h0 0 ls []) : Con l Z y bytes ml ret rm as' h0 n0 Q := by
  intro ws
  refine MetFree.of_bodySF hpn hisR ?_
  intro p e s m args below meth c s₁ Bd hml0 hP hK
  obtain ⟨rfl, hZ, hh⟩ := hP
  have X0 : Stand p l e rm s m _ below meth c s₁ [] 0 0 := Stand.of_body Bd
  have e0 : s₁.heap = h0 := by rw [← hh, Bd.state]; rfl
  obtain ⟨s₂, o, h1, h2⟩ := hW p e s m below meth c ⟨Bd.exec, hZ, findClass_of_methodNamed Bd.named, Bd.bytes, hml0, Bd.returns, Bd.notSynchronized, (name_of_methodNamed Bd.named Bd.method).1⟩ s₁ [] X0 e0 (Fr.nil n0)
  exact ⟨s₂, o, castTop (hent m) h1, h2⟩
theorem W.lift {pc' : Nat} {ls' : Array Slot} {st' : List Value} (f : ∀ T target, At T m c below → Steps p.tables e below (T.setTop (mkF m pc' ls' st')) target → Steps p.tables e below (T.setTop (mkF m pc ls st)) target) (K : W p l e R s m args below meth c n0 Q kc ks k n h pc' ls' st') : W p l e R s m args below meth c n0 Q kc ks k n h pc ls st := fun T locs X eT N => by
  obtain ⟨s₂, o, h1, h2⟩ := K T locs X eT N
  exact ⟨s₂, o, f T _ X.here h1, h2⟩
theorem W.heap {h' : Heap} (q : h = h') (K : W p l e R s m args below meth c n0 Q kc ks k n h' pc ls st) : W p l e R s m args below meth c n0 Q kc ks k n h pc ls st := q ▸ K
theorem W.room {k' n' : Nat} (hk : k ≤ k') (hn : n ≤ n') (K : W p l e R s m args below meth c n0 Q kc ks k' n' h pc ls st) : W p l e R s m args below meth c n0 Q kc ks k n h pc ls st := fun T locs X eT N => K T locs ⟨X.admits, X.cas, X.clock, X.frames, X.room, X.hears, X.method, X.code, X.here, X.tail, X.warmed, X.limits, X.bytes, X.same.mono hk hn⟩ eT N
theorem W.iaddV (C : Cx p s m meth c Z y bytes ml ret) {u v : Int32} (z : Int32) (d : decode bytes pc = .ok (.iadd, 1)) (hz : (u + v) = z) (K : W p l e R s m args below meth c n0 Q kc ks k n h (pc + 1) ls (.int z :: st)) : W p l e R s m args below meth c n0 Q kc ks k n h pc ls (.int v :: .int u :: st) :=
  W.lift (fun T t H S => XS.iadd H C.1 rfl (C.a d) rfl (by subst hz; exact S)) K
theorem W.iadd (C : Cx p s m meth c Z y bytes ml ret) {u v : Int32} (d : decode bytes pc = .ok (.iadd, 1)) (K : W p l e R s m args below meth c n0 Q kc ks k n h (pc + 1) ls (.int (u + v) :: st)) : W p l e R s m args below meth c n0 Q kc ks k n h pc ls (.int v :: .int u :: st) :=
  W.lift (fun T t H S => XS.iadd H C.1 rfl (C.a d) rfl S) K
theorem W.isubV (C : Cx p s m meth c Z y bytes ml ret) {u v : Int32} (z : Int32) (d : decode bytes pc = .ok (.isub, 1)) (hz : (u - v) = z) (K : W p l e R s m args below meth c n0 Q kc ks k n h (pc + 1) ls (.int z :: st)) : W p l e R s m args below meth c n0 Q kc ks k n h pc ls (.int v :: .int u :: st) :=
  W.lift (fun T t H S => XS.isub H C.1 rfl (C.a d) rfl (by subst hz; exact S)) K
theorem W.isub (C : Cx p s m meth c Z y bytes ml ret) {u v : Int32} (d : decode bytes pc = .ok (.isub, 1)) (K : W p l e R s m args below meth c n0 Q kc ks k n h (pc + 1) ls (.int (u - v) :: st)) : W p l e R s m args below meth c n0 Q kc ks k n h pc ls (.int v :: .int u :: st) :=
  W.lift (fun T t H S => XS.isub H C.1 rfl (C.a d) rfl S) K
theorem W.imulV (C : Cx p s m meth c Z y bytes ml ret) {u v : Int32} (z : Int32) (d : decode bytes pc = .ok (.imul, 1)) (hz : (u * v) = z) (K : W p l e R s m args below meth c n0 Q kc ks k n h (pc + 1) ls (.int z :: st)) : W p l e R s m args below meth c n0 Q kc ks k n h pc ls (.int v :: .int u :: st) :=
  W.lift (fun T t H S => XS.imul H C.1 rfl (C.a d) rfl (by subst hz; exact S)) K
theorem W.imul (C : Cx p s m meth c Z y bytes ml ret) {u v : Int32} (d : decode bytes pc = .ok (.imul, 1)) (K : W p l e R s m args below meth c n0 Q kc ks k n h (pc + 1) ls (.int (u * v) :: st)) : W p l e R s m args below meth c n0 Q kc ks k n h pc ls (.int v :: .int u :: st) :=
  W.lift (fun T t H S => XS.imul H C.1 rfl (C.a d) rfl S) K
theorem W.iandV (C : Cx p s m meth c Z y bytes ml ret) {u v : Int32} (z : Int32) (d : decode bytes pc = .ok (.iand, 1)) (hz : (u &&& v) = z) (K : W p l e R s m args below meth c n0 Q kc ks k n h (pc + 1) ls (.int z :: st)) : W p l e R s m args below meth c n0 Q kc ks k n h pc ls (.int v :: .int u :: st) :=
  W.lift (fun T t H S => XS.iand H C.1 rfl (C.a d) rfl (by subst hz; exact S)) K
theorem W.iand (C : Cx p s m meth c Z y bytes ml ret) {u v : Int32} (d : decode bytes pc = .ok (.iand, 1)) (K : W p l e R s m args below meth c n0 Q kc ks k n h (pc + 1) ls (.int (u &&& v) :: st)) : W p l e R s m args below meth c n0 Q kc ks k n h pc ls (.int v :: .int u :: st) :=
  W.lift (fun T t H S => XS.iand H C.1 rfl (C.a d) rfl S) K
theorem W.iorV (C : Cx p s m meth c Z y bytes ml ret) {u v : Int32} (z : Int32) (d : decode bytes pc = .ok (.ior, 1)) (hz : (u ||| v) = z) (K : W p l e R s m args below meth c n0 Q kc ks k n h (pc + 1) ls (.int z :: st)) : W p l e R s m args below meth c n0 Q kc ks k n h pc ls (.int v :: .int u :: st) :=
  W.lift (fun T t H S => XS.ior H C.1 rfl (C.a d) rfl (by subst hz; exact S)) K
theorem W.ior (C : Cx p s m meth c Z y bytes ml ret) {u v : Int32} (d : decode bytes pc = .ok (.ior, 1)) (K : W p l e R s m args below meth c n0 Q kc ks k n h (pc + 1) ls (.int (u ||| v) :: st)) : W p l e R s m args below meth c n0 Q kc ks k n h pc ls (.int v :: .int u :: st) :=
  W.lift (fun T t H S => XS.ior H C.1 rfl (C.a d) rfl S) K
theorem W.ixorV (C : Cx p s m meth c Z y bytes ml ret) {u v : Int32} (z : Int32) (d : decode bytes pc = .ok (.ixor, 1)) (hz : (u ^^^ v) = z) (K : W p l e R s m args below meth c n0 Q kc ks k n h (pc + 1) ls (.int z :: st)) : W p l e R s m args below meth c n0 Q kc ks k n h pc ls (.int v :: .int u :: st) :=
  W.lift (fun T t H S => XS.ixor H C.1 rfl (C.a d) rfl (by subst hz; exact S)) K
theorem W.ixor (C : Cx p s m meth c Z y bytes ml ret) {u v : Int32} (d : decode bytes pc = .ok (.ixor, 1)) (K : W p l e R s m args below meth c n0 Q kc ks k n h (pc + 1) ls (.int (u ^^^ v) :: st)) : W p l e R s m args below meth c n0 Q kc ks k n h pc ls (.int v :: .int u :: st) :=
  W.lift (fun T t H S => XS.ixor H C.1 rfl (C.a d) rfl S) K
theorem W.ishlV (C : Cx p s m meth c Z y bytes ml ret) {u v : Int32} (z : Int32) (d : decode bytes pc = .ok (.ishl, 1)) (hz : (u <<< (v &&& 31)) = z) (K : W p l e R s m args below meth c n0 Q kc ks k n h (pc + 1) ls (.int z :: st)) : W p l e R s m args below meth c n0 Q kc ks k n h pc ls (.int v :: .int u :: st) :=
  W.lift (fun T t H S => XS.ishl H C.1 rfl (C.a d) rfl (by subst hz; exact S)) K
theorem W.ishl (C : Cx p s m meth c Z y bytes ml ret) {u v : Int32} (d : decode bytes pc = .ok (.ishl, 1)) (K : W p l e R s m args below meth c n0 Q kc ks k n h (pc + 1) ls (.int (u <<< (v &&& 31)) :: st)) : W p l e R s m args below meth c n0 Q kc ks k n h pc ls (.int v :: .int u :: st) :=
  W.lift (fun T t H S => XS.ishl H C.1 rfl (C.a d) rfl S) K
theorem W.ishrV (C : Cx p s m meth c Z y bytes ml ret) {u v : Int32} (z : Int32) (d : decode bytes pc = .ok (.ishr, 1)) (hz : (u >>> (v &&& 31)) = z) (K : W p l e R s m args below meth c n0 Q kc ks k n h (pc + 1) ls (.int z :: st)) : W p l e R s m args below meth c n0 Q kc ks k n h pc ls (.int v :: .int u :: st) :=
  W.lift (fun T t H S => XS.ishr H C.1 rfl (C.a d) rfl (by subst hz; exact S)) K
theorem W.ishr (C : Cx p s m meth c Z y bytes ml ret) {u v : Int32} (d : decode bytes pc = .ok (.ishr, 1)) (K : W p l e R s m args below meth c n0 Q kc ks k n h (pc + 1) ls (.int (u >>> (v &&& 31)) :: st)) : W p l e R s m args below meth c n0 Q kc ks k n h pc ls (.int v :: .int u :: st) :=
  W.lift (fun T t H S => XS.ishr H C.1 rfl (C.a d) rfl S) K
theorem W.iushrV (C : Cx p s m meth c Z y bytes ml ret) {u v : Int32} (z : Int32) (d : decode bytes pc = .ok (.iushr, 1)) (hz : ((u.toUInt32 >>> (v &&& 31).toUInt32).toInt32) = z) (K : W p l e R s m args below meth c n0 Q kc ks k n h (pc + 1) ls (.int z :: st)) : W p l e R s m args below meth c n0 Q kc ks k n h pc ls (.int v :: .int u :: st) :=
  W.lift (fun T t H S => XS.iushr H C.1 rfl (C.a d) rfl (by subst hz; exact S)) K
theorem W.iushr (C : Cx p s m meth c Z y bytes ml ret) {u v : Int32} (d : decode bytes pc = .ok (.iushr, 1)) (K : W p l e R s m args below meth c n0 Q kc ks k n h (pc + 1) ls (.int ((u.toUInt32 >>> (v &&& 31).toUInt32).toInt32) :: st)) : W p l e R s m args below meth c n0 Q kc ks k n h pc ls (.int v :: .int u :: st) :=
  W.lift (fun T t H S => XS.iushr H C.1 rfl (C.a d) rfl S) K
theorem W.laddV (C : Cx p s m meth c Z y bytes ml ret) {u v : Int64} (z : Int64) (d : decode bytes pc = .ok (.ladd, 1)) (hz : (u + v) = z) (K : W p l e R s m args below meth c n0 Q kc ks k n h (pc + 1) ls (.long z :: st)) : W p l e R s m args below meth c n0 Q kc ks k n h pc ls (.long v :: .long u :: st) :=
  W.lift (fun T t H S => XS.ladd H C.1 rfl (C.a d) rfl (by subst hz; exact S)) K
theorem W.ladd (C : Cx p s m meth c Z y bytes ml ret) {u v : Int64} (d : decode bytes pc = .ok (.ladd, 1)) (K : W p l e R s m args below meth c n0 Q kc ks k n h (pc + 1) ls (.long (u + v) :: st)) : W p l e R s m args below meth c n0 Q kc ks k n h pc ls (.long v :: .long u :: st) :=
  W.lift (fun T t H S => XS.ladd H C.1 rfl (C.a d) rfl S) K
theorem W.lsubV (C : Cx p s m meth c Z y bytes ml ret) {u v : Int64} (z : Int64) (d : decode bytes pc = .ok (.lsub, 1)) (hz : (u - v) = z) (K : W p l e R s m args below meth c n0 Q kc ks k n h (pc + 1) ls (.long z :: st)) : W p l e R s m args below meth c n0 Q kc ks k n h pc ls (.long v :: .long u :: st) :=
  W.lift (fun T t H S => XS.lsub H C.1 rfl (C.a d) rfl (by subst hz; exact S)) K
theorem W.lsub (C : Cx p s m meth c Z y bytes ml ret) {u v : Int64} (d : decode bytes pc = .ok (.lsub, 1)) (K : W p l e R s m args below meth c n0 Q kc ks k n h (pc + 1) ls (.long (u - v) :: st)) : W p l e R s m args below meth c n0 Q kc ks k n h pc ls (.long v :: .long u :: st) :=
  W.lift (fun T t H S => XS.lsub H C.1 rfl (C.a d) rfl S) K
theorem W.lmulV (C : Cx p s m meth c Z y bytes ml ret) {u v : Int64} (z : Int64) (d : decode bytes pc = .ok (.lmul, 1)) (hz : (u * v) = z) (K : W p l e R s m args below meth c n0 Q kc ks k n h (pc + 1) ls (.long z :: st)) : W p l e R s m args below meth c n0 Q kc ks k n h pc ls (.long v :: .long u :: st) :=
  W.lift (fun T t H S => XS.lmul H C.1 rfl (C.a d) rfl (by subst hz; exact S)) K
theorem W.lmul (C : Cx p s m meth c Z y bytes ml ret) {u v : Int64} (d : decode bytes pc = .ok (.lmul, 1)) (K : W p l e R s m args below meth c n0 Q kc ks k n h (pc + 1) ls (.long (u * v) :: st)) : W p l e R s m args below meth c n0 Q kc ks k n h pc ls (.long v :: .long u :: st) :=
  W.lift (fun T t H S => XS.lmul H C.1 rfl (C.a d) rfl S) K
theorem W.landV (C : Cx p s m meth c Z y bytes ml ret) {u v : Int64} (z : Int64) (d : decode bytes pc = .ok (.land, 1)) (hz : (u &&& v) = z) (K : W p l e R s m args below meth c n0 Q kc ks k n h (pc + 1) ls (.long z :: st)) : W p l e R s m args below meth c n0 Q kc ks k n h pc ls (.long v :: .long u :: st) :=
  W.lift (fun T t H S => XS.land H C.1 rfl (C.a d) rfl (by subst hz; exact S)) K
theorem W.land (C : Cx p s m meth c Z y bytes ml ret) {u v : Int64} (d : decode bytes pc = .ok (.land, 1)) (K : W p l e R s m args below meth c n0 Q kc ks k n h (pc + 1) ls (.long (u &&& v) :: st)) : W p l e R s m args below meth c n0 Q kc ks k n h pc ls (.long v :: .long u :: st) :=
  W.lift (fun T t H S => XS.land H C.1 rfl (C.a d) rfl S) K
theorem W.lorV (C : Cx p s m meth c Z y bytes ml ret) {u v : Int64} (z : Int64) (d : decode bytes pc = .ok (.lor, 1)) (hz : (u ||| v) = z) (K : W p l e R s m args below meth c n0 Q kc ks k n h (pc + 1) ls (.long z :: st)) : W p l e R s m args below meth c n0 Q kc ks k n h pc ls (.long v :: .long u :: st) :=
  W.lift (fun T t H S => XS.lor H C.1 rfl (C.a d) rfl (by subst hz; exact S)) K
theorem W.lor (C : Cx p s m meth c Z y bytes ml ret) {u v : Int64} (d : decode bytes pc = .ok (.lor, 1)) (K : W p l e R s m args below meth c n0 Q kc ks k n h (pc + 1) ls (.long (u ||| v) :: st)) : W p l e R s m args below meth c n0 Q kc ks k n h pc ls (.long v :: .long u :: st) :=
  W.lift (fun T t H S => XS.lor H C.1 rfl (C.a d) rfl S) K
theorem W.lxorV (C : Cx p s m meth c Z y bytes ml ret) {u v : Int64} (z : Int64) (d : decode bytes pc = .ok (.lxor, 1)) (hz : (u ^^^ v) = z) (K : W p l e R s m args below meth c n0 Q kc ks k n h (pc + 1) ls (.long z :: st)) : W p l e R s m args below meth c n0 Q kc ks k n h pc ls (.long v :: .long u :: st) :=
  W.lift (fun T t H S => XS.lxor H C.1 rfl (C.a d) rfl (by subst hz; exact S)) K
theorem W.lxor (C : Cx p s m meth c Z y bytes ml ret) {u v : Int64} (d : decode bytes pc = .ok (.lxor, 1)) (K : W p l e R s m args below meth c n0 Q kc ks k n h (pc + 1) ls (.long (u ^^^ v) :: st)) : W p l e R s m args below meth c n0 Q kc ks k n h pc ls (.long v :: .long u :: st) :=
  W.lift (fun T t H S => XS.lxor H C.1 rfl (C.a d) rfl S) K
theorem W.lshlV (C : Cx p s m meth c Z y bytes ml ret) {u : Int64} {v : Int32} (z : Int64) (d : decode bytes pc = .ok (.lshl, 1)) (hz : (u <<< (v &&& 0x3f).toInt64) = z) (K : W p l e R s m args below meth c n0 Q kc ks k n h (pc + 1) ls (.long z :: st)) : W p l e R s m args below meth c n0 Q kc ks k n h pc ls (.int v :: .long u :: st) :=
  W.lift (fun T t H S => XS.lshl H C.1 rfl (C.a d) rfl (by subst hz; exact S)) K
theorem W.lshl (C : Cx p s m meth c Z y bytes ml ret) {u : Int64} {v : Int32} (d : decode bytes pc = .ok (.lshl, 1)) (K : W p l e R s m args below meth c n0 Q kc ks k n h (pc + 1) ls (.long (u <<< (v &&& 0x3f).toInt64) :: st)) : W p l e R s m args below meth c n0 Q kc ks k n h pc ls (.int v :: .long u :: st) :=
  W.lift (fun T t H S => XS.lshl H C.1 rfl (C.a d) rfl S) K
theorem W.lshrV (C : Cx p s m meth c Z y bytes ml ret) {u : Int64} {v : Int32} (z : Int64) (d : decode bytes pc = .ok (.lshr, 1)) (hz : (u >>> (v &&& 0x3f).toInt64) = z) (K : W p l e R s m args below meth c n0 Q kc ks k n h (pc + 1) ls (.long z :: st)) : W p l e R s m args below meth c n0 Q kc ks k n h pc ls (.int v :: .long u :: st) :=
  W.lift (fun T t H S => XS.lshr H C.1 rfl (C.a d) rfl (by subst hz; exact S)) K
theorem W.lshr (C : Cx p s m meth c Z y bytes ml ret) {u : Int64} {v : Int32} (d : decode bytes pc = .ok (.lshr, 1)) (K : W p l e R s m args below meth c n0 Q kc ks k n h (pc + 1) ls (.long (u >>> (v &&& 0x3f).toInt64) :: st)) : W p l e R s m args below meth c n0 Q kc ks k n h pc ls (.int v :: .long u :: st) :=
  W.lift (fun T t H S => XS.lshr H C.1 rfl (C.a d) rfl S) K
theorem W.lushrV (C : Cx p s m meth c Z y bytes ml ret) {u : Int64} {v : Int32} (z : Int64) (d : decode bytes pc = .ok (.lushr, 1)) (hz : ((u.toUInt64 >>> (v &&& 0x3f).toInt64.toUInt64).toInt64) = z) (K : W p l e R s m args below meth c n0 Q kc ks k n h (pc + 1) ls (.long z :: st)) : W p l e R s m args below meth c n0 Q kc ks k n h pc ls (.int v :: .long u :: st) :=
  W.lift (fun T t H S => XS.lushr H C.1 rfl (C.a d) rfl (by subst hz; exact S)) K
theorem W.lushr (C : Cx p s m meth c Z y bytes ml ret) {u : Int64} {v : Int32} (d : decode bytes pc = .ok (.lushr, 1)) (K : W p l e R s m args below meth c n0 Q kc ks k n h (pc + 1) ls (.long ((u.toUInt64 >>> (v &&& 0x3f).toInt64.toUInt64).toInt64) :: st)) : W p l e R s m args below meth c n0 Q kc ks k n h pc ls (.int v :: .long u :: st) :=
  W.lift (fun T t H S => XS.lushr H C.1 rfl (C.a d) rfl S) K
theorem W.idivV (C : Cx p s m meth c Z y bytes ml ret) {u v : Int32} (z : Int32) (d : decode bytes pc = .ok (.idiv, 1)) (hy : v ≠ 0) (hz : (u / v) = z) (K : W p l e R s m args below meth c n0 Q kc ks k n h (pc + 1) ls (.int z :: st)) : W p l e R s m args below meth c n0 Q kc ks k n h pc ls (.int v :: .int u :: st) :=
  W.lift (fun T t H S => XS.idiv H C.1 rfl (C.a d) rfl hy (by subst hz; exact S)) K
theorem W.idiv (C : Cx p s m meth c Z y bytes ml ret) {u v : Int32} (d : decode bytes pc = .ok (.idiv, 1)) (hy : v ≠ 0) (K : W p l e R s m args below meth c n0 Q kc ks k n h (pc + 1) ls (.int (u / v) :: st)) : W p l e R s m args below meth c n0 Q kc ks k n h pc ls (.int v :: .int u :: st) :=
  W.lift (fun T t H S => XS.idiv H C.1 rfl (C.a d) rfl hy S) K
theorem W.irem (C : Cx p s m meth c Z y bytes ml ret) {u v : Int32} (d : decode bytes pc = .ok (.irem, 1)) (hy : v ≠ 0) (K : W p l e R s m args below meth c n0 Q kc ks k n h (pc + 1) ls (.int (u % v) :: st)) : W p l e R s m args below meth c n0 Q kc ks k n h pc ls (.int v :: .int u :: st) :=
  W.lift (fun T t H S => XS.irem H C.1 rfl (C.a d) rfl hy (by rw [irem_eq_mod u v]; exact S)) K
theorem W.ldivV (C : Cx p s m meth c Z y bytes ml ret) {u v : Int64} (z : Int64) (d : decode bytes pc = .ok (.ldiv, 1)) (hy : v ≠ 0) (hz : (u / v) = z) (K : W p l e R s m args below meth c n0 Q kc ks k n h (pc + 1) ls (.long z :: st)) : W p l e R s m args below meth c n0 Q kc ks k n h pc ls (.long v :: .long u :: st) :=
  W.lift (fun T t H S => XS.ldiv H C.1 rfl (C.a d) rfl hy (by subst hz; exact S)) K
theorem W.ldiv (C : Cx p s m meth c Z y bytes ml ret) {u v : Int64} (d : decode bytes pc = .ok (.ldiv, 1)) (hy : v ≠ 0) (K : W p l e R s m args below meth c n0 Q kc ks k n h (pc + 1) ls (.long (u / v) :: st)) : W p l e R s m args below meth c n0 Q kc ks k n h pc ls (.long v :: .long u :: st) :=
  W.lift (fun T t H S => XS.ldiv H C.1 rfl (C.a d) rfl hy S) K
theorem W.lrem (C : Cx p s m meth c Z y bytes ml ret) {u v : Int64} (d : decode bytes pc = .ok (.lrem, 1)) (hy : v ≠ 0) (K : W p l e R s m args below meth c n0 Q kc ks k n h (pc + 1) ls (.long (u % v) :: st)) : W p l e R s m args below meth c n0 Q kc ks k n h pc ls (.long v :: .long u :: st) :=
  W.lift (fun T t H S => XS.lrem H C.1 rfl (C.a d) rfl hy (by rw [lrem_mod u v]; exact S)) K
theorem W.inegV (C : Cx p s m meth c Z y bytes ml ret) {u : Int32} (z : Int32) (d : decode bytes pc = .ok (.ineg, 1)) (hz : (-u) = z) (K : W p l e R s m args below meth c n0 Q kc ks k n h (pc + 1) ls (.int z :: st)) : W p l e R s m args below meth c n0 Q kc ks k n h pc ls (.int u :: st) :=
  W.lift (fun T t H S => XS.ineg H C.1 rfl (C.a d) rfl (by subst hz; exact S)) K
theorem W.ineg (C : Cx p s m meth c Z y bytes ml ret) {u : Int32} (d : decode bytes pc = .ok (.ineg, 1)) (K : W p l e R s m args below meth c n0 Q kc ks k n h (pc + 1) ls (.int (-u) :: st)) : W p l e R s m args below meth c n0 Q kc ks k n h pc ls (.int u :: st) :=
  W.lift (fun T t H S => XS.ineg H C.1 rfl (C.a d) rfl S) K
theorem W.i2bV (C : Cx p s m meth c Z y bytes ml ret) {u : Int32} (z : Int32) (d : decode bytes pc = .ok (.i2b, 1)) (hz : (u.toInt8.toInt32) = z) (K : W p l e R s m args below meth c n0 Q kc ks k n h (pc + 1) ls (.int z :: st)) : W p l e R s m args below meth c n0 Q kc ks k n h pc ls (.int u :: st) :=
  W.lift (fun T t H S => XS.i2b H C.1 rfl (C.a d) rfl (by subst hz; exact S)) K
theorem W.i2b (C : Cx p s m meth c Z y bytes ml ret) {u : Int32} (d : decode bytes pc = .ok (.i2b, 1)) (K : W p l e R s m args below meth c n0 Q kc ks k n h (pc + 1) ls (.int (u.toInt8.toInt32) :: st)) : W p l e R s m args below meth c n0 Q kc ks k n h pc ls (.int u :: st) :=
  W.lift (fun T t H S => XS.i2b H C.1 rfl (C.a d) rfl S) K
theorem W.i2cV (C : Cx p s m meth c Z y bytes ml ret) {u : Int32} (z : Int32) (d : decode bytes pc = .ok (.i2c, 1)) (hz : (u.toUInt32.toUInt16.toUInt32.toInt32) = z) (K : W p l e R s m args below meth c n0 Q kc ks k n h (pc + 1) ls (.int z :: st)) : W p l e R s m args below meth c n0 Q kc ks k n h pc ls (.int u :: st) :=
  W.lift (fun T t H S => XS.i2c H C.1 rfl (C.a d) rfl (by subst hz; exact S)) K
theorem W.i2c (C : Cx p s m meth c Z y bytes ml ret) {u : Int32} (d : decode bytes pc = .ok (.i2c, 1)) (K : W p l e R s m args below meth c n0 Q kc ks k n h (pc + 1) ls (.int (u.toUInt32.toUInt16.toUInt32.toInt32) :: st)) : W p l e R s m args below meth c n0 Q kc ks k n h pc ls (.int u :: st) :=
  W.lift (fun T t H S => XS.i2c H C.1 rfl (C.a d) rfl S) K
theorem W.i2sV (C : Cx p s m meth c Z y bytes ml ret) {u : Int32} (z : Int32) (d : decode bytes pc = .ok (.i2s, 1)) (hz : (u.toInt16.toInt32) = z) (K : W p l e R s m args below meth c n0 Q kc ks k n h (pc + 1) ls (.int z :: st)) : W p l e R s m args below meth c n0 Q kc ks k n h pc ls (.int u :: st) :=
  W.lift (fun T t H S => XS.i2s H C.1 rfl (C.a d) rfl (by subst hz; exact S)) K
theorem W.i2s (C : Cx p s m meth c Z y bytes ml ret) {u : Int32} (d : decode bytes pc = .ok (.i2s, 1)) (K : W p l e R s m args below meth c n0 Q kc ks k n h (pc + 1) ls (.int (u.toInt16.toInt32) :: st)) : W p l e R s m args below meth c n0 Q kc ks k n h pc ls (.int u :: st) :=
  W.lift (fun T t H S => XS.i2s H C.1 rfl (C.a d) rfl S) K
theorem W.i2lV (C : Cx p s m meth c Z y bytes ml ret) {u : Int32} (z : Int64) (d : decode bytes pc = .ok (.i2l, 1)) (hz : u.toInt64 = z) (K : W p l e R s m args below meth c n0 Q kc ks k n h (pc + 1) ls (.long z :: st)) : W p l e R s m args below meth c n0 Q kc ks k n h pc ls (.int u :: st) :=
  W.lift (fun T t H S => XS.i2l H C.1 rfl (C.a d) rfl (by subst hz; exact S)) K
theorem W.i2l (C : Cx p s m meth c Z y bytes ml ret) {u : Int32} (d : decode bytes pc = .ok (.i2l, 1)) (K : W p l e R s m args below meth c n0 Q kc ks k n h (pc + 1) ls (.long u.toInt64 :: st)) : W p l e R s m args below meth c n0 Q kc ks k n h pc ls (.int u :: st) :=
  W.lift (fun T t H S => XS.i2l H C.1 rfl (C.a d) rfl S) K
theorem W.l2iV (C : Cx p s m meth c Z y bytes ml ret) {u : Int64} (z : Int32) (d : decode bytes pc = .ok (.l2i, 1)) (hz : u.toInt32 = z) (K : W p l e R s m args below meth c n0 Q kc ks k n h (pc + 1) ls (.int z :: st)) : W p l e R s m args below meth c n0 Q kc ks k n h pc ls (.long u :: st) :=
  W.lift (fun T t H S => XS.l2i H C.1 rfl (C.a d) rfl (by subst hz; exact S)) K
theorem W.l2i (C : Cx p s m meth c Z y bytes ml ret) {u : Int64} (d : decode bytes pc = .ok (.l2i, 1)) (K : W p l e R s m args below meth c n0 Q kc ks k n h (pc + 1) ls (.int u.toInt32 :: st)) : W p l e R s m args below meth c n0 Q kc ks k n h pc ls (.long u :: st) :=
  W.lift (fun T t H S => XS.l2i H C.1 rfl (C.a d) rfl S) K
theorem W.lnegV (C : Cx p s m meth c Z y bytes ml ret) {u : Int64} (z : Int64) (d : decode bytes pc = .ok (.lneg, 1)) (hz : (-u) = z) (K : W p l e R s m args below meth c n0 Q kc ks k n h (pc + 1) ls (.long z :: st)) : W p l e R s m args below meth c n0 Q kc ks k n h pc ls (.long u :: st) :=
  W.lift (fun T t H S => XS.lneg H C.1 rfl (C.a d) rfl (by subst hz; exact S)) K
theorem W.lneg (C : Cx p s m meth c Z y bytes ml ret) {u : Int64} (d : decode bytes pc = .ok (.lneg, 1)) (K : W p l e R s m args below meth c n0 Q kc ks k n h (pc + 1) ls (.long (-u) :: st)) : W p l e R s m args below meth c n0 Q kc ks k n h pc ls (.long u :: st) :=
  W.lift (fun T t H S => XS.lneg H C.1 rfl (C.a d) rfl S) K
theorem W.lcmpV (C : Cx p s m meth c Z y bytes ml ret) {u v : Int64} (z : Int32) (d : decode bytes pc = .ok (.lcmp, 1)) (hz : (lcmpW u v) = z) (K : W p l e R s m args below meth c n0 Q kc ks k n h (pc + 1) ls (.int z :: st)) : W p l e R s m args below meth c n0 Q kc ks k n h pc ls (.long v :: .long u :: st) :=
  W.lift (fun T t H S => XS.lcmp H C.1 rfl (C.a d) rfl (by subst hz; exact S)) K
theorem W.lcmp (C : Cx p s m meth c Z y bytes ml ret) {u v : Int64} (d : decode bytes pc = .ok (.lcmp, 1)) (K : W p l e R s m args below meth c n0 Q kc ks k n h (pc + 1) ls (.int (lcmpW u v) :: st)) : W p l e R s m args below meth c n0 Q kc ks k n h pc ls (.long v :: .long u :: st) :=
  W.lift (fun T t H S => XS.lcmp H C.1 rfl (C.a d) rfl S) K
theorem W.pop (C : Cx p s m meth c Z y bytes ml ret) {u : Value} (d : decode bytes pc = .ok (.pop, 1)) (hc : u.category = 1) (K : W p l e R s m args below meth c n0 Q kc ks k n h (pc + 1) ls (st)) : W p l e R s m args below meth c n0 Q kc ks k n h pc ls (u :: st) :=
  W.lift (fun T t H S => XS.pop H C.1 rfl (C.a d) rfl hc S) K
theorem W.dup (C : Cx p s m meth c Z y bytes ml ret) {u : Value} (d : decode bytes pc = .ok (.dup, 1)) (hc : u.category = 1) (K : W p l e R s m args below meth c n0 Q kc ks k n h (pc + 1) ls (u :: u :: st)) : W p l e R s m args below meth c n0 Q kc ks k n h pc ls (u :: st) :=
  W.lift (fun T t H S => XS.dup H C.1 rfl (C.a d) rfl hc S) K
theorem W.dupX1 (C : Cx p s m meth c Z y bytes ml ret) {u v : Value} (d : decode bytes pc = .ok (.dup_x1, 1)) (hc : u.category = 1) (hc' : v.category = 1) (K : W p l e R s m args below meth c n0 Q kc ks k n h (pc + 1) ls (u :: v :: u :: st)) : W p l e R s m args below meth c n0 Q kc ks k n h pc ls (u :: v :: st) :=
  W.lift (fun T t H S => XT.dupX1 H C.1 rfl (C.a d) rfl hc hc' S) K
theorem W.dup2 (C : Cx p s m meth c Z y bytes ml ret) {u v : Value} (d : decode bytes pc = .ok (.dup2, 1)) (hc : u.category = 1) (hc' : v.category = 1) (K : W p l e R s m args below meth c n0 Q kc ks k n h (pc + 1) ls (u :: v :: u :: v :: st)) : W p l e R s m args below meth c n0 Q kc ks k n h pc ls (u :: v :: st) :=
  W.lift (fun T t H S => XT.dup2 H C.1 rfl (C.a d) rfl hc hc' S) K
theorem W.dup2L (C : Cx p s m meth c Z y bytes ml ret) {u : Int64} (d : decode bytes pc = .ok (.dup2, 1)) (K : W p l e R s m args below meth c n0 Q kc ks k n h (pc + 1) ls (.long u :: .long u :: st)) : W p l e R s m args below meth c n0 Q kc ks k n h pc ls (.long u :: st) :=
  W.lift (fun T t H S => XT.dup2L H C.1 rfl (C.a d) rfl S) K
theorem W.aconstNull (C : Cx p s m meth c Z y bytes ml ret)  (d : decode bytes pc = .ok (.aconst_null, 1)) (K : W p l e R s m args below meth c n0 Q kc ks k n h (pc + 1) ls (.null :: st)) : W p l e R s m args below meth c n0 Q kc ks k n h pc ls (st) :=
  W.lift (fun T t H S => XS.aconstNull H C.1 rfl (C.a d)  S) K
theorem W.iconst (C : Cx p s m meth c Z y bytes ml ret) {i : Int} (v : Int32) (d : decode bytes pc = .ok (.iconst i, 1)) (hv : Int32.ofInt i = v) (K : W p l e R s m args below meth c n0 Q kc ks k n h (pc + 1) ls (.int v :: st)) : W p l e R s m args below meth c n0 Q kc ks k n h pc ls st :=
  W.lift (fun T t H S => XS.iconst H C.1 rfl (C.a d) (by rw [hv]; exact S)) K
theorem W.bipush (C : Cx p s m meth c Z y bytes ml ret) {i : Int} (v : Int32) (d : decode bytes pc = .ok (.bipush i, 2)) (hv : (Int8.ofInt i).toInt32 = v) (K : W p l e R s m args below meth c n0 Q kc ks k n h (pc + 2) ls (.int v :: st)) : W p l e R s m args below meth c n0 Q kc ks k n h pc ls st :=
  W.lift (fun T t H S => XS.bipush H C.1 rfl (C.a d) (by rw [hv]; exact S)) K
theorem W.sipush (C : Cx p s m meth c Z y bytes ml ret) {i : Int} (v : Int32) (d : decode bytes pc = .ok (.sipush i, 3)) (hv : (Int16.ofInt i).toInt32 = v) (K : W p l e R s m args below meth c n0 Q kc ks k n h (pc + 3) ls (.int v :: st)) : W p l e R s m args below meth c n0 Q kc ks k n h pc ls st :=
  W.lift (fun T t H S => XS.sipush H C.1 rfl (C.a d) (by rw [hv]; exact S)) K
theorem W.lconst (C : Cx p s m meth c Z y bytes ml ret) {i : Fin 2} (v : Int64) (d : decode bytes pc = .ok (.lconst i, 1)) (hv : Int64.ofNat i = v) (K : W p l e R s m args below meth c n0 Q kc ks k n h (pc + 1) ls (.long v :: st)) : W p l e R s m args below meth c n0 Q kc ks k n h pc ls st :=
  W.lift (fun T t H S => XS.lconst H C.1 rfl (C.a d) (by rw [hv]; exact S)) K
theorem W.iloadN (C : Cx p s m meth c Z y bytes ml ret) {i : Fin 4} {v : Int32} (d : decode bytes pc = .ok (.iload_n i, 1)) (hl : ls[i.val]? = some (.val (.int v))) (K : W p l e R s m args below meth c n0 Q kc ks k n h (pc + 1) ls (.int v :: st)) : W p l e R s m args below meth c n0 Q kc ks k n h pc ls st :=
  W.lift (fun T t H S => XS.iloadN H C.1 rfl (C.a d) hl S) K
theorem W.iload (C : Cx p s m meth c Z y bytes ml ret) {i : Nat} {v : Int32} (d : decode bytes pc = .ok (.iload i, 2)) (hl : ls[i]? = some (.val (.int v))) (K : W p l e R s m args below meth c n0 Q kc ks k n h (pc + 2) ls (.int v :: st)) : W p l e R s m args below meth c n0 Q kc ks k n h pc ls st :=
  W.lift (fun T t H S => XS.iload H C.1 rfl (C.a d) hl S) K
theorem W.istoreN (C : Cx p s m meth c Z y bytes ml ret) {i : Fin 4} {v : Int32} (l' : Array Slot) (d : decode bytes pc = .ok (.istore_n i, 1)) (hl : storeLocals ls i.val (.int v) = some l') (K : W p l e R s m args below meth c n0 Q kc ks k n h (pc + 1) l' st) : W p l e R s m args below meth c n0 Q kc ks k n h pc ls (.int v :: st) :=
  W.lift (fun T t H S => XS.istoreN H C.1 rfl (C.a d) rfl hl S) K
theorem W.istore (C : Cx p s m meth c Z y bytes ml ret) {i : Nat} {v : Int32} (l' : Array Slot) (d : decode bytes pc = .ok (.istore i, 2)) (hl : storeLocals ls i (.int v) = some l') (K : W p l e R s m args below meth c n0 Q kc ks k n h (pc + 2) l' st) : W p l e R s m args below meth c n0 Q kc ks k n h pc ls (.int v :: st) :=
  W.lift (fun T t H S => XS.istore H C.1 rfl (C.a d) rfl hl S) K
theorem W.lloadN (C : Cx p s m meth c Z y bytes ml ret) {i : Fin 4} {v : Int64} (d : decode bytes pc = .ok (.lload_n i, 1)) (hl : ls[i.val]? = some (.val (.long v))) (K : W p l e R s m args below meth c n0 Q kc ks k n h (pc + 1) ls (.long v :: st)) : W p l e R s m args below meth c n0 Q kc ks k n h pc ls st :=
  W.lift (fun T t H S => XS.lloadN H C.1 rfl (C.a d) hl S) K
theorem W.lload (C : Cx p s m meth c Z y bytes ml ret) {i : Nat} {v : Int64} (d : decode bytes pc = .ok (.lload i, 2)) (hl : ls[i]? = some (.val (.long v))) (K : W p l e R s m args below meth c n0 Q kc ks k n h (pc + 2) ls (.long v :: st)) : W p l e R s m args below meth c n0 Q kc ks k n h pc ls st :=
  W.lift (fun T t H S => XS.lload H C.1 rfl (C.a d) hl S) K
theorem W.lstoreN (C : Cx p s m meth c Z y bytes ml ret) {i : Fin 4} {v : Int64} (l' : Array Slot) (d : decode bytes pc = .ok (.lstore_n i, 1)) (hl : storeLocals ls i.val (.long v) = some l') (K : W p l e R s m args below meth c n0 Q kc ks k n h (pc + 1) l' st) : W p l e R s m args below meth c n0 Q kc ks k n h pc ls (.long v :: st) :=
  W.lift (fun T t H S => XS.lstoreN H C.1 rfl (C.a d) rfl hl S) K
theorem W.lstore (C : Cx p s m meth c Z y bytes ml ret) {i : Nat} {v : Int64} (l' : Array Slot) (d : decode bytes pc = .ok (.lstore i, 2)) (hl : storeLocals ls i (.long v) = some l') (K : W p l e R s m args below meth c n0 Q kc ks k n h (pc + 2) l' st) : W p l e R s m args below meth c n0 Q kc ks k n h pc ls (.long v :: st) :=
  W.lift (fun T t H S => XS.lstore H C.1 rfl (C.a d) rfl hl S) K
theorem W.aloadN (C : Cx p s m meth c Z y bytes ml ret) {i : Fin 4} {v : Value} (d : decode bytes pc = .ok (.aload_n i, 1)) (hl : ls[i.val]? = some (.val v)) (hv : v.isRef = true) (K : W p l e R s m args below meth c n0 Q kc ks k n h (pc + 1) ls (v :: st)) : W p l e R s m args below meth c n0 Q kc ks k n h pc ls st :=
  W.lift (fun T t H S => XS.aloadN H C.1 rfl (C.a d) hl hv S) K
theorem W.aload (C : Cx p s m meth c Z y bytes ml ret) {i : Nat} {v : Value} (d : decode bytes pc = .ok (.aload i, 2)) (hl : ls[i]? = some (.val v)) (hv : v.isRef = true) (K : W p l e R s m args below meth c n0 Q kc ks k n h (pc + 2) ls (v :: st)) : W p l e R s m args below meth c n0 Q kc ks k n h pc ls st :=
  W.lift (fun T t H S => XS.aload H C.1 rfl (C.a d) hl hv S) K
theorem W.astoreN (C : Cx p s m meth c Z y bytes ml ret) {i : Fin 4} {v : Value} (l' : Array Slot) (d : decode bytes pc = .ok (.astore_n i, 1)) (hv : v.isRef = true) (hl : storeLocals ls i.val v = some l') (K : W p l e R s m args below meth c n0 Q kc ks k n h (pc + 1) l' st) : W p l e R s m args below meth c n0 Q kc ks k n h pc ls (v :: st) :=
  W.lift (fun T t H S => XS.astoreN H C.1 rfl (C.a d) rfl hv hl S) K
theorem W.astore (C : Cx p s m meth c Z y bytes ml ret) {i : Nat} {v : Value} (l' : Array Slot) (d : decode bytes pc = .ok (.astore i, 2)) (hv : v.isRef = true) (hl : storeLocals ls i v = some l') (K : W p l e R s m args below meth c n0 Q kc ks k n h (pc + 2) l' st) : W p l e R s m args below meth c n0 Q kc ks k n h pc ls (v :: st) :=
  W.lift (fun T t H S => XS.astore H C.1 rfl (C.a d) rfl hv hl S) K
theorem W.istoreO (C : Cx p s m meth c Z y bytes ml ret) {i : Nat} {v : Int32} {o : Slot} (l' : Array Slot) (d : decode bytes pc = .ok (.istore i, 2)) (hold : ls[i]? = some o) (ho : One o) (hl : ls.setIfInBounds i (.val (.int v)) = l') (K : W p l e R s m args below meth c n0 Q kc ks k n h (pc + 2) l' st) : W p l e R s m args below meth c n0 Q kc ks k n h pc ls (.int v :: st) :=
  W.lift (fun T t H S => XS.istoreS H C.1 rfl (C.a d) rfl hold ho (by rw [hl]; exact S)) K
theorem W.istoreNO (C : Cx p s m meth c Z y bytes ml ret) {i : Fin 4} {v : Int32} {o : Slot} (l' : Array Slot) (d : decode bytes pc = .ok (.istore_n i, 1)) (hold : ls[i.val]? = some o) (ho : One o) (hl : ls.setIfInBounds i.val (.val (.int v)) = l') (K : W p l e R s m args below meth c n0 Q kc ks k n h (pc + 1) l' st) : W p l e R s m args below meth c n0 Q kc ks k n h pc ls (.int v :: st) :=
  W.lift (fun T t H S => XS.istoreNS H C.1 rfl (C.a d) rfl hold ho (by rw [hl]; exact S)) K
theorem W.iinc (C : Cx p s m meth c Z y bytes ml ret) {i : Nat} {cst : Int} {u : Int32} (v : Int32) (l' : Array Slot) (d : decode bytes pc = .ok (.iinc i cst, 3)) (hl : ls[i]? = some (.val (.int u))) (hv : u + Int32.ofInt cst = v) (hl' : storeLocals ls i (.int v) = some l') (K : W p l e R s m args below meth c n0 Q kc ks k n h (pc + 3) l' st) : W p l e R s m args below meth c n0 Q kc ks k n h pc ls st :=
  W.lift (fun T t H S => XS.iinc H C.1 rfl (C.a d) hl (by rw [hv]; exact hl') S) K
theorem jmp {pc pc' : Nat} {o : Int} (hp : (pc : Int) + o = pc') : 0 ≤ (pc : Int) + o ∧ ((pc : Int) + o).toNat = pc' := by omega
theorem W.goto (C : Cx p s m meth c Z y bytes ml ret) {o : Int} (pc' : Nat) (d : decode bytes pc = .ok (.goto o, 3)) (hp : (pc : Int) + o = pc') (K : W p l e R s m args below meth c n0 Q kc ks k n h pc' ls st) : W p l e R s m args below meth c n0 Q kc ks k n h pc ls st :=
  W.lift (fun T t H S => XS.goto H C.1 rfl (pc0 := pc) (pc' := pc') rfl (C.a d) (jmp hp).1 (jmp hp).2 S) K
theorem W.icmp_eq (C : Cx p s m meth c Z y bytes ml ret) {u v : Int32} {o : Int} (pc' : Nat) (d : decode bytes pc = .ok (.if_icmp .eq o, 3)) (hp : (pc : Int) + o = pc') (yes : u = v → W p l e R s m args below meth c n0 Q kc ks k n h pc' ls st) (no : ¬ u = v → W p l e R s m args below meth c n0 Q kc ks k n h (pc + 3) ls st) : W p l e R s m args below meth c n0 Q kc ks k n h pc ls (.int v :: .int u :: st) := by
  by_cases b : u = v
  · exact W.lift (fun T t H S => XS.icmpYes H C.1 rfl (pc0 := pc) (pc' := pc') rfl (C.a d) rfl (XT.ii_eq_t b) (jmp hp).1 (jmp hp).2 S) (yes b)
  · exact W.lift (fun T t H S => XS.icmpNo H C.1 rfl (C.a d) rfl (XT.ii_eq_f b) S) (no b)
theorem W.if_eq (C : Cx p s m meth c Z y bytes ml ret) {u : Int32} {o : Int} (pc' : Nat) (d : decode bytes pc = .ok (.ifCond .eq o, 3)) (hp : (pc : Int) + o = pc') (yes : u = 0 → W p l e R s m args below meth c n0 Q kc ks k n h pc' ls st) (no : ¬ u = 0 → W p l e R s m args below meth c n0 Q kc ks k n h (pc + 3) ls st) : W p l e R s m args below meth c n0 Q kc ks k n h pc ls (.int u :: st) := by
  by_cases b : u = 0
  · exact W.lift (fun T t H S => XS.ifYes H C.1 rfl (pc0 := pc) (pc' := pc') rfl (C.a d) rfl (XT.i0_eq_t b) (jmp hp).1 (jmp hp).2 S) (yes b)
  · exact W.lift (fun T t H S => XS.ifNo H C.1 rfl (C.a d) rfl (XT.i0_eq_f b) S) (no b)
theorem ll_eq_t {u v : Int64} (b : u = v) : ifCond.holds .eq (lcmpW u v) = true := XT.ll_eq_t b
theorem ll_eq_f {u v : Int64} (b : ¬ u = v) : ifCond.holds .eq (lcmpW u v) = false := XT.ll_eq_f b
theorem W.lif_eq (C : Cx p s m meth c Z y bytes ml ret) {u v : Int64} {o : Int} (pc' : Nat) (d : decode bytes pc = .ok (.ifCond .eq o, 3)) (hp : (pc : Int) + o = pc') (yes : u = v → W p l e R s m args below meth c n0 Q kc ks k n h pc' ls st) (no : ¬ u = v → W p l e R s m args below meth c n0 Q kc ks k n h (pc + 3) ls st) : W p l e R s m args below meth c n0 Q kc ks k n h pc ls (.int (lcmpW u v) :: st) := by
  by_cases b : u = v
  · exact W.lift (fun T t H S => XS.ifYes H C.1 rfl (pc0 := pc) (pc' := pc') rfl (C.a d) rfl (ll_eq_t b) (jmp hp).1 (jmp hp).2 S) (yes b)
  · exact W.lift (fun T t H S => XS.ifNo H C.1 rfl (C.a d) rfl (ll_eq_f b) S) (no b)
theorem W.icmp_ne (C : Cx p s m meth c Z y bytes ml ret) {u v : Int32} {o : Int} (pc' : Nat) (d : decode bytes pc = .ok (.if_icmp .ne o, 3)) (hp : (pc : Int) + o = pc') (yes : ¬ u = v → W p l e R s m args below meth c n0 Q kc ks k n h pc' ls st) (no : u = v → W p l e R s m args below meth c n0 Q kc ks k n h (pc + 3) ls st) : W p l e R s m args below meth c n0 Q kc ks k n h pc ls (.int v :: .int u :: st) := by
  by_cases b : u = v
  · exact W.lift (fun T t H S => XS.icmpNo H C.1 rfl (C.a d) rfl (XT.ii_ne_f b) S) (no b)
  · exact W.lift (fun T t H S => XS.icmpYes H C.1 rfl (pc0 := pc) (pc' := pc') rfl (C.a d) rfl (XT.ii_ne_t b) (jmp hp).1 (jmp hp).2 S) (yes b)
theorem W.if_ne (C : Cx p s m meth c Z y bytes ml ret) {u : Int32} {o : Int} (pc' : Nat) (d : decode bytes pc = .ok (.ifCond .ne o, 3)) (hp : (pc : Int) + o = pc') (yes : ¬ u = 0 → W p l e R s m args below meth c n0 Q kc ks k n h pc' ls st) (no : u = 0 → W p l e R s m args below meth c n0 Q kc ks k n h (pc + 3) ls st) : W p l e R s m args below meth c n0 Q kc ks k n h pc ls (.int u :: st) := by
  by_cases b : u = 0
  · exact W.lift (fun T t H S => XS.ifNo H C.1 rfl (C.a d) rfl (XT.i0_ne_f b) S) (no b)
  · exact W.lift (fun T t H S => XS.ifYes H C.1 rfl (pc0 := pc) (pc' := pc') rfl (C.a d) rfl (XT.i0_ne_t b) (jmp hp).1 (jmp hp).2 S) (yes b)
theorem ll_ne_t {u v : Int64} (b : ¬ u = v) : ifCond.holds .ne (lcmpW u v) = true := XT.ll_ne_t b
theorem ll_ne_f {u v : Int64} (b : u = v) : ifCond.holds .ne (lcmpW u v) = false := XT.ll_ne_f b
theorem W.lif_ne (C : Cx p s m meth c Z y bytes ml ret) {u v : Int64} {o : Int} (pc' : Nat) (d : decode bytes pc = .ok (.ifCond .ne o, 3)) (hp : (pc : Int) + o = pc') (yes : ¬ u = v → W p l e R s m args below meth c n0 Q kc ks k n h pc' ls st) (no : u = v → W p l e R s m args below meth c n0 Q kc ks k n h (pc + 3) ls st) : W p l e R s m args below meth c n0 Q kc ks k n h pc ls (.int (lcmpW u v) :: st) := by
  by_cases b : u = v
  · exact W.lift (fun T t H S => XS.ifNo H C.1 rfl (C.a d) rfl (ll_ne_f b) S) (no b)
  · exact W.lift (fun T t H S => XS.ifYes H C.1 rfl (pc0 := pc) (pc' := pc') rfl (C.a d) rfl (ll_ne_t b) (jmp hp).1 (jmp hp).2 S) (yes b)
theorem W.icmp_lt (C : Cx p s m meth c Z y bytes ml ret) {u v : Int32} {o : Int} (pc' : Nat) (d : decode bytes pc = .ok (.if_icmp .lt o, 3)) (hp : (pc : Int) + o = pc') (yes : u < v → W p l e R s m args below meth c n0 Q kc ks k n h pc' ls st) (no : ¬ u < v → W p l e R s m args below meth c n0 Q kc ks k n h (pc + 3) ls st) : W p l e R s m args below meth c n0 Q kc ks k n h pc ls (.int v :: .int u :: st) := by
  by_cases b : u < v
  · exact W.lift (fun T t H S => XS.icmpYes H C.1 rfl (pc0 := pc) (pc' := pc') rfl (C.a d) rfl (XT.ii_lt_t b) (jmp hp).1 (jmp hp).2 S) (yes b)
  · exact W.lift (fun T t H S => XS.icmpNo H C.1 rfl (C.a d) rfl (XT.ii_lt_f b) S) (no b)
theorem W.if_lt (C : Cx p s m meth c Z y bytes ml ret) {u : Int32} {o : Int} (pc' : Nat) (d : decode bytes pc = .ok (.ifCond .lt o, 3)) (hp : (pc : Int) + o = pc') (yes : u < 0 → W p l e R s m args below meth c n0 Q kc ks k n h pc' ls st) (no : ¬ u < 0 → W p l e R s m args below meth c n0 Q kc ks k n h (pc + 3) ls st) : W p l e R s m args below meth c n0 Q kc ks k n h pc ls (.int u :: st) := by
  by_cases b : u < 0
  · exact W.lift (fun T t H S => XS.ifYes H C.1 rfl (pc0 := pc) (pc' := pc') rfl (C.a d) rfl (XT.i0_lt_t b) (jmp hp).1 (jmp hp).2 S) (yes b)
  · exact W.lift (fun T t H S => XS.ifNo H C.1 rfl (C.a d) rfl (XT.i0_lt_f b) S) (no b)
theorem ll_lt_t {u v : Int64} (b : u < v) : ifCond.holds .lt (lcmpW u v) = true := XT.ll_lt_t b
theorem ll_lt_f {u v : Int64} (b : ¬ u < v) : ifCond.holds .lt (lcmpW u v) = false := XT.ll_lt_f b
theorem W.lif_lt (C : Cx p s m meth c Z y bytes ml ret) {u v : Int64} {o : Int} (pc' : Nat) (d : decode bytes pc = .ok (.ifCond .lt o, 3)) (hp : (pc : Int) + o = pc') (yes : u < v → W p l e R s m args below meth c n0 Q kc ks k n h pc' ls st) (no : ¬ u < v → W p l e R s m args below meth c n0 Q kc ks k n h (pc + 3) ls st) : W p l e R s m args below meth c n0 Q kc ks k n h pc ls (.int (lcmpW u v) :: st) := by
  by_cases b : u < v
  · exact W.lift (fun T t H S => XS.ifYes H C.1 rfl (pc0 := pc) (pc' := pc') rfl (C.a d) rfl (ll_lt_t b) (jmp hp).1 (jmp hp).2 S) (yes b)
  · exact W.lift (fun T t H S => XS.ifNo H C.1 rfl (C.a d) rfl (ll_lt_f b) S) (no b)
theorem W.icmp_ge (C : Cx p s m meth c Z y bytes ml ret) {u v : Int32} {o : Int} (pc' : Nat) (d : decode bytes pc = .ok (.if_icmp .ge o, 3)) (hp : (pc : Int) + o = pc') (yes : ¬ u < v → W p l e R s m args below meth c n0 Q kc ks k n h pc' ls st) (no : u < v → W p l e R s m args below meth c n0 Q kc ks k n h (pc + 3) ls st) : W p l e R s m args below meth c n0 Q kc ks k n h pc ls (.int v :: .int u :: st) := by
  by_cases b : u < v
  · exact W.lift (fun T t H S => XS.icmpNo H C.1 rfl (C.a d) rfl (XT.ii_ge_f b) S) (no b)
  · exact W.lift (fun T t H S => XS.icmpYes H C.1 rfl (pc0 := pc) (pc' := pc') rfl (C.a d) rfl (XT.ii_ge_t b) (jmp hp).1 (jmp hp).2 S) (yes b)
theorem W.if_ge (C : Cx p s m meth c Z y bytes ml ret) {u : Int32} {o : Int} (pc' : Nat) (d : decode bytes pc = .ok (.ifCond .ge o, 3)) (hp : (pc : Int) + o = pc') (yes : ¬ u < 0 → W p l e R s m args below meth c n0 Q kc ks k n h pc' ls st) (no : u < 0 → W p l e R s m args below meth c n0 Q kc ks k n h (pc + 3) ls st) : W p l e R s m args below meth c n0 Q kc ks k n h pc ls (.int u :: st) := by
  by_cases b : u < 0
  · exact W.lift (fun T t H S => XS.ifNo H C.1 rfl (C.a d) rfl (XT.i0_ge_f b) S) (no b)
  · exact W.lift (fun T t H S => XS.ifYes H C.1 rfl (pc0 := pc) (pc' := pc') rfl (C.a d) rfl (XT.i0_ge_t b) (jmp hp).1 (jmp hp).2 S) (yes b)
theorem ll_ge_t {u v : Int64} (b : ¬ u < v) : ifCond.holds .ge (lcmpW u v) = true := XT.ll_ge_t b
theorem ll_ge_f {u v : Int64} (b : u < v) : ifCond.holds .ge (lcmpW u v) = false := XT.ll_ge_f b
theorem W.lif_ge (C : Cx p s m meth c Z y bytes ml ret) {u v : Int64} {o : Int} (pc' : Nat) (d : decode bytes pc = .ok (.ifCond .ge o, 3)) (hp : (pc : Int) + o = pc') (yes : ¬ u < v → W p l e R s m args below meth c n0 Q kc ks k n h pc' ls st) (no : u < v → W p l e R s m args below meth c n0 Q kc ks k n h (pc + 3) ls st) : W p l e R s m args below meth c n0 Q kc ks k n h pc ls (.int (lcmpW u v) :: st) := by
  by_cases b : u < v
  · exact W.lift (fun T t H S => XS.ifNo H C.1 rfl (C.a d) rfl (ll_ge_f b) S) (no b)
  · exact W.lift (fun T t H S => XS.ifYes H C.1 rfl (pc0 := pc) (pc' := pc') rfl (C.a d) rfl (ll_ge_t b) (jmp hp).1 (jmp hp).2 S) (yes b)
theorem W.icmp_gt (C : Cx p s m meth c Z y bytes ml ret) {u v : Int32} {o : Int} (pc' : Nat) (d : decode bytes pc = .ok (.if_icmp .gt o, 3)) (hp : (pc : Int) + o = pc') (yes : v < u → W p l e R s m args below meth c n0 Q kc ks k n h pc' ls st) (no : ¬ v < u → W p l e R s m args below meth c n0 Q kc ks k n h (pc + 3) ls st) : W p l e R s m args below meth c n0 Q kc ks k n h pc ls (.int v :: .int u :: st) := by
  by_cases b : v < u
  · exact W.lift (fun T t H S => XS.icmpYes H C.1 rfl (pc0 := pc) (pc' := pc') rfl (C.a d) rfl (XT.ii_gt_t b) (jmp hp).1 (jmp hp).2 S) (yes b)
  · exact W.lift (fun T t H S => XS.icmpNo H C.1 rfl (C.a d) rfl (XT.ii_gt_f b) S) (no b)
theorem W.if_gt (C : Cx p s m meth c Z y bytes ml ret) {u : Int32} {o : Int} (pc' : Nat) (d : decode bytes pc = .ok (.ifCond .gt o, 3)) (hp : (pc : Int) + o = pc') (yes : 0 < u → W p l e R s m args below meth c n0 Q kc ks k n h pc' ls st) (no : ¬ 0 < u → W p l e R s m args below meth c n0 Q kc ks k n h (pc + 3) ls st) : W p l e R s m args below meth c n0 Q kc ks k n h pc ls (.int u :: st) := by
  by_cases b : 0 < u
  · exact W.lift (fun T t H S => XS.ifYes H C.1 rfl (pc0 := pc) (pc' := pc') rfl (C.a d) rfl (XT.i0_gt_t b) (jmp hp).1 (jmp hp).2 S) (yes b)
  · exact W.lift (fun T t H S => XS.ifNo H C.1 rfl (C.a d) rfl (XT.i0_gt_f b) S) (no b)
theorem ll_gt_t {u v : Int64} (b : v < u) : ifCond.holds .gt (lcmpW u v) = true := XT.ll_gt_t b
theorem ll_gt_f {u v : Int64} (b : ¬ v < u) : ifCond.holds .gt (lcmpW u v) = false := XT.ll_gt_f b
theorem W.lif_gt (C : Cx p s m meth c Z y bytes ml ret) {u v : Int64} {o : Int} (pc' : Nat) (d : decode bytes pc = .ok (.ifCond .gt o, 3)) (hp : (pc : Int) + o = pc') (yes : v < u → W p l e R s m args below meth c n0 Q kc ks k n h pc' ls st) (no : ¬ v < u → W p l e R s m args below meth c n0 Q kc ks k n h (pc + 3) ls st) : W p l e R s m args below meth c n0 Q kc ks k n h pc ls (.int (lcmpW u v) :: st) := by
  by_cases b : v < u
  · exact W.lift (fun T t H S => XS.ifYes H C.1 rfl (pc0 := pc) (pc' := pc') rfl (C.a d) rfl (ll_gt_t b) (jmp hp).1 (jmp hp).2 S) (yes b)
  · exact W.lift (fun T t H S => XS.ifNo H C.1 rfl (C.a d) rfl (ll_gt_f b) S) (no b)
theorem W.icmp_le (C : Cx p s m meth c Z y bytes ml ret) {u v : Int32} {o : Int} (pc' : Nat) (d : decode bytes pc = .ok (.if_icmp .le o, 3)) (hp : (pc : Int) + o = pc') (yes : ¬ v < u → W p l e R s m args below meth c n0 Q kc ks k n h pc' ls st) (no : v < u → W p l e R s m args below meth c n0 Q kc ks k n h (pc + 3) ls st) : W p l e R s m args below meth c n0 Q kc ks k n h pc ls (.int v :: .int u :: st) := by
  by_cases b : v < u
  · exact W.lift (fun T t H S => XS.icmpNo H C.1 rfl (C.a d) rfl (XT.ii_le_f b) S) (no b)
  · exact W.lift (fun T t H S => XS.icmpYes H C.1 rfl (pc0 := pc) (pc' := pc') rfl (C.a d) rfl (XT.ii_le_t b) (jmp hp).1 (jmp hp).2 S) (yes b)
theorem W.if_le (C : Cx p s m meth c Z y bytes ml ret) {u : Int32} {o : Int} (pc' : Nat) (d : decode bytes pc = .ok (.ifCond .le o, 3)) (hp : (pc : Int) + o = pc') (yes : ¬ 0 < u → W p l e R s m args below meth c n0 Q kc ks k n h pc' ls st) (no : 0 < u → W p l e R s m args below meth c n0 Q kc ks k n h (pc + 3) ls st) : W p l e R s m args below meth c n0 Q kc ks k n h pc ls (.int u :: st) := by
  by_cases b : 0 < u
  · exact W.lift (fun T t H S => XS.ifNo H C.1 rfl (C.a d) rfl (XT.i0_le_f b) S) (no b)
  · exact W.lift (fun T t H S => XS.ifYes H C.1 rfl (pc0 := pc) (pc' := pc') rfl (C.a d) rfl (XT.i0_le_t b) (jmp hp).1 (jmp hp).2 S) (yes b)
theorem ll_le_t {u v : Int64} (b : ¬ v < u) : ifCond.holds .le (lcmpW u v) = true := XT.ll_le_t b
theorem ll_le_f {u v : Int64} (b : v < u) : ifCond.holds .le (lcmpW u v) = false := XT.ll_le_f b
theorem W.lif_le (C : Cx p s m meth c Z y bytes ml ret) {u v : Int64} {o : Int} (pc' : Nat) (d : decode bytes pc = .ok (.ifCond .le o, 3)) (hp : (pc : Int) + o = pc') (yes : ¬ v < u → W p l e R s m args below meth c n0 Q kc ks k n h pc' ls st) (no : v < u → W p l e R s m args below meth c n0 Q kc ks k n h (pc + 3) ls st) : W p l e R s m args below meth c n0 Q kc ks k n h pc ls (.int (lcmpW u v) :: st) := by
  by_cases b : v < u
  · exact W.lift (fun T t H S => XS.ifNo H C.1 rfl (C.a d) rfl (ll_le_f b) S) (no b)
  · exact W.lift (fun T t H S => XS.ifYes H C.1 rfl (pc0 := pc) (pc' := pc') rfl (C.a d) rfl (ll_le_t b) (jmp hp).1 (jmp hp).2 S) (yes b)
theorem W.ifnullNo (C : Cx p s m meth c Z y bytes ml ret) {b : Addr} {o : Int} (d : decode bytes pc = .ok (.ifnull o, 3)) (K : W p l e R s m args below meth c n0 Q kc ks k n h (pc + 3) ls st) : W p l e R s m args below meth c n0 Q kc ks k n h pc ls (.ref b :: st) :=
  W.lift (fun T t H S => XS.ifnullNo H C.1 rfl (C.a d) rfl S) K
theorem W.ifnullYes (C : Cx p s m meth c Z y bytes ml ret) {o : Int} (pc' : Nat) (d : decode bytes pc = .ok (.ifnull o, 3)) (hp : (pc : Int) + o = pc') (K : W p l e R s m args below meth c n0 Q kc ks k n h pc' ls st) : W p l e R s m args below meth c n0 Q kc ks k n h pc ls (.null :: st) :=
  W.lift (fun T t H S => XS.ifnullYes H C.1 rfl (pc0 := pc) (pc' := pc') rfl (C.a d) rfl (jmp hp).1 (jmp hp).2 S) K
theorem W.ifnonnullYes (C : Cx p s m meth c Z y bytes ml ret) {b : Addr} {o : Int} (pc' : Nat) (d : decode bytes pc = .ok (.ifnonnull o, 3)) (hp : (pc : Int) + o = pc') (K : W p l e R s m args below meth c n0 Q kc ks k n h pc' ls st) : W p l e R s m args below meth c n0 Q kc ks k n h pc ls (.ref b :: st) :=
  W.lift (fun T t H S => XT.ifnonnullYes H C.1 rfl (pc0 := pc) (pc' := pc') rfl (C.a d) rfl (jmp hp).1 (jmp hp).2 S) K
theorem W.ifnonnullNo (C : Cx p s m meth c Z y bytes ml ret) {o : Int} (d : decode bytes pc = .ok (.ifnonnull o, 3)) (K : W p l e R s m args below meth c n0 Q kc ks k n h (pc + 3) ls st) : W p l e R s m args below meth c n0 Q kc ks k n h pc ls (.null :: st) :=
  W.lift (fun T t H S => XT.ifnonnullNo H C.1 rfl (C.a d) rfl S) K
theorem W.acmp_eq (C : Cx p s m meth c Z y bytes ml ret) {u v : Value} {o : Int} (pc' : Nat) (d : decode bytes pc = .ok (.if_acmp .eq o, 3)) (hu : u.isRef = true) (hv : v.isRef = true) (hp : (pc : Int) + o = pc') (yes : u = v → W p l e R s m args below meth c n0 Q kc ks k n h pc' ls st) (no : ¬ u = v → W p l e R s m args below meth c n0 Q kc ks k n h (pc + 3) ls st) : W p l e R s m args below meth c n0 Q kc ks k n h pc ls (v :: u :: st) := by
  by_cases b : u = v
  · exact W.lift (fun T t H S => XT.acmpYes H C.1 rfl (pc0 := pc) (pc' := pc') rfl (C.a d) rfl hu hv (XT.aa_eq_t b) (jmp hp).1 (jmp hp).2 S) (yes b)
  · exact W.lift (fun T t H S => XT.acmpNo H C.1 rfl (C.a d) rfl hu hv (XT.aa_eq_f b) S) (no b)
theorem W.acmp_ne (C : Cx p s m meth c Z y bytes ml ret) {u v : Value} {o : Int} (pc' : Nat) (d : decode bytes pc = .ok (.if_acmp .ne o, 3)) (hu : u.isRef = true) (hv : v.isRef = true) (hp : (pc : Int) + o = pc') (yes : ¬ u = v → W p l e R s m args below meth c n0 Q kc ks k n h pc' ls st) (no : u = v → W p l e R s m args below meth c n0 Q kc ks k n h (pc + 3) ls st) : W p l e R s m args below meth c n0 Q kc ks k n h pc ls (v :: u :: st) := by
  by_cases b : u = v
  · exact W.lift (fun T t H S => XT.acmpNo H C.1 rfl (C.a d) rfl hu hv (XT.aa_ne_f b) S) (no b)
  · exact W.lift (fun T t H S => XT.acmpYes H C.1 rfl (pc0 := pc) (pc' := pc') rfl (C.a d) rfl hu hv (XT.aa_ne_t b) (jmp hp).1 (jmp hp).2 S) (yes b)
theorem W.ldcI (C : Cx p s m meth c Z y bytes ml ret) {i : Nat} {v : Int32} (d : decode bytes pc = .ok (.ldc i, 2)) (w : (Jvm.Cond.constant y.cls i v).before a0 Z = true) (K : W p l e R s m args below meth c n0 Q kc ks k n h (pc + 2) ls (.int v :: st)) : W p l e R s m args below meth c n0 Q kc ks k n h pc ls st := fun T locs X eT N => by
  obtain ⟨s₂, o, h1, h2⟩ := K T locs X eT N
  exact ⟨s₂, o, X.ldcI C.1 C.2.2.1 (mvT C.2.1 w) rfl (C.a d) h1, h2⟩
theorem W.ldcWI (C : Cx p s m meth c Z y bytes ml ret) {i : Nat} {v : Int32} (d : decode bytes pc = .ok (.ldc_w i, 3)) (w : (Jvm.Cond.constant y.cls i v).before a0 Z = true) (K : W p l e R s m args below meth c n0 Q kc ks k n h (pc + 3) ls (.int v :: st)) : W p l e R s m args below meth c n0 Q kc ks k n h pc ls st := fun T locs X eT N => by
  obtain ⟨s₂, o, h1, h2⟩ := K T locs X eT N
  exact ⟨s₂, o, X.ldcWI C.1 C.2.2.1 (mvT C.2.1 w) rfl (C.a d) h1, h2⟩
theorem W.ldc2J (C : Cx p s m meth c Z y bytes ml ret) {i : Nat} {v : Int64} (d : decode bytes pc = .ok (.ldc2_w i, 3)) (w : (Jvm.Cond.constantLong y.cls i v).before a0 Z = true) (K : W p l e R s m args below meth c n0 Q kc ks k n h (pc + 3) ls (.long v :: st)) : W p l e R s m args below meth c n0 Q kc ks k n h pc ls st := fun T locs X eT N => by
  obtain ⟨s₂, o, h1, h2⟩ := K T locs X eT N
  exact ⟨s₂, o, X.ldc2J C.1 C.2.2.1 (mvT C.2.1 w) rfl (C.a d) h1, h2⟩
theorem W.iret {t : FieldType} {z : Int32} (C : Cx p s m meth c Z y bytes ml (some t)) (d : decode bytes pc = .ok (.ireturn, 1)) (ht : t = .int ∨ t = .boolean ∨ t = .byte ∨ t = .char ∨ t = .short) (hn : narrow t (.int z) = .int z) (hk : k ≤ kc) (hs : n ≤ ks) (q : Q (some (.int z)) h) : W p l e R s m args below meth c n0 Q kc ks k n h pc ls (.int z :: st) := fun T locs X eT N => by
  obtain ⟨fs, hr, hrun, hended, hW, hsame⟩ := X.leave (v := some (.int z)) (fun q => by rw [C.2.2.2.2.2.1] at q; cases q) C.2.2.2.2.2.2.1
  exact ⟨_, _, retOut X C.1 C.2.2.2.2.2.1 hn (Or.inl ⟨rfl, ht, z, rfl⟩) (C.a d) hr, hrun, hended, _, _, rfl, ⟨by subst eT; exact q, N⟩, ⟨_, rfl⟩, hW, hsame.mono hk hs⟩
theorem W.lret {t : FieldType} {z : Int64} (C : Cx p s m meth c Z y bytes ml (some t)) (d : decode bytes pc = .ok (.lreturn, 1)) (ht : t = .long) (hn : narrow t (.long z) = .long z) (hk : k ≤ kc) (hs : n ≤ ks) (q : Q (some (.long z)) h) : W p l e R s m args below meth c n0 Q kc ks k n h pc ls (.long z :: st) := fun T locs X eT N => by
  obtain ⟨fs, hr, hrun, hended, hW, hsame⟩ := X.leave (v := some (.long z)) (fun q => by rw [C.2.2.2.2.2.1] at q; cases q) C.2.2.2.2.2.2.1
  exact ⟨_, _, retOut X C.1 C.2.2.2.2.2.1 hn (Or.inr (Or.inl ⟨rfl, ht, z, rfl⟩)) (C.a d) hr, hrun, hended, _, _, rfl, ⟨by subst eT; exact q, N⟩, ⟨_, rfl⟩, hW, hsame.mono hk hs⟩
theorem W.aret {t : FieldType} {z : Value} (C : Cx p s m meth c Z y bytes ml (some t)) (d : decode bytes pc = .ok (.areturn, 1)) (ht : t.isReference = true) (hz : z.isRef = true) (hn : narrow t (z) = z) (hk : k ≤ kc) (hs : n ≤ ks) (q : Q (some (z)) h) : W p l e R s m args below meth c n0 Q kc ks k n h pc ls (z :: st) := fun T locs X eT N => by
  obtain ⟨fs, hr, hrun, hended, hW, hsame⟩ := X.leave (v := some (z)) (fun q => by rw [C.2.2.2.2.2.1] at q; cases q) C.2.2.2.2.2.2.1
  exact ⟨_, _, retOut X C.1 C.2.2.2.2.2.1 hn (Or.inr (Or.inr (Or.inr (Or.inr ⟨rfl, ht, hz⟩)))) (C.a d) hr, hrun, hended, _, _, rfl, ⟨by subst eT; exact q, N⟩, ⟨_, rfl⟩, hW, hsame.mono hk hs⟩
theorem W.retV (C : Cx p s m meth c Z y bytes ml none) (d : decode bytes pc = .ok (.return_, 1)) (hk : k ≤ kc) (hs : n ≤ ks) (q : Q none h) : W p l e R s m args below meth c n0 Q kc ks k n h pc ls [] := fun T locs X eT N => by
  obtain ⟨fs, hr, hrun, hended, hW, hsame⟩ := X.leave (v := none) (fun _ => rfl) C.2.2.2.2.2.2.1
  exact ⟨_, _, X.returnOut C.1 C.2.2.2.2.2.1 (C.a d) hr, hrun, hended, _, _, rfl, ⟨by subst eT; exact q, N⟩, ⟨_, rfl⟩, hW, hsame.mono hk hs⟩
theorem W.callS (C : Cx p s m meth c Z y bytes ml ret) {y' : MethodName} {index : Nat} {bytes' : ByteArray} {ml' : Nat} {ret' : Option FieldType} {rm : Room} {Q' : Option Value → Heap → Prop} (d : decode bytes pc = .ok (.invokestatic index, 3)) (w1 : (Jvm.Cond.methodLink y.cls index y').before a0 Z = true) (w2 : (Jvm.Cond.static y').before a0 Z = true) (w3 : (Jvm.Cond.initialized y'.cls).before a0 Z = true) (w4 : (Jvm.Cond.code y' bytes' ml' ret').before a0 Z = true) (hy : y'.cls ≠ "java/lang/invoke/MethodHandle" ∧ y'.cls ≠ "java/lang/invoke/VarHandle")
    {argsL rest : List Value} (hst : st = argsL.reverse ++ rest) (hlen : ∀ sig, parseMethodDescriptor y'.desc = some sig → argsL.length = sig.parameters.length) (D : Con l Z y' bytes' ml' ret' rm argsL.toArray h n0 Q') (w k' n' : Nat) (hW : (rest.map fun v => v.category).sum = w) (hk : k + rm.cells = k') (hn : n + rm.slots = n') (hf : rm.frames + 1 ≤ R.frames) (hl : w + (ml' + 11) + rm.locals ≤ R.locals) (hc : k' ≤ R.cells) (hs : n' ≤ R.slots) (hsz : ls.size = ml)
    (K : ∀ v h', Q' v h' → W p l e R s m args below meth c n0 Q kc ks k' n' h' (pc + 3) ls (v.toList ++ rest)) : W p l e R s m args below meth c n0 Q kc ks k n h pc ls st := fun T locs X eT N => by
  obtain ⟨_, _, ⟨T1, L1, k1, n1⟩, -, X1, ⟨Lc1, hQ1, l1, y1, z1⟩, st1⟩ := Jvm.LawKit.callS X C.1 (y := y') C.2.2.1 (mvT C.2.1 w1) (mvT C.2.1 w2) (mvT C.2.1 w3) (mvT C.2.1 w4) hy (backOf (W := w) (Q := fun v h' L => Q' v h' ∧ Fr n0 L) (D []) C.2.1 w4 w3 hf hl) (g := mkF m pc ls st) rfl (hsz.trans C.2.2.2.2.1.symm) (argsL := argsL) (rest := rest) hlen hst (by show 2 * 0 + _ ≤ _; omega) (C.a d) (fun _ _ => ⟨rfl, eT, by rw [hk]; exact hc, by rw [hn]; exact hs⟩)
  dsimp only [Pt.U, Pt.locs, Pt.cells, Pt.slots] at X1 l1 y1 z1 st1 hQ1
  subst l1
  rw [hk] at y1
  rw [hn] at z1
  subst y1 z1
  obtain ⟨s₂, o, g1, g2⟩ := K _ _ hQ1.1 T1 _ X1 rfl (Fr.app N hQ1.2)
  exact ⟨s₂, o, st1 _ g1, g2⟩
theorem W.callI (C : Cx p s m meth c Z y bytes ml ret) {y' : MethodName} {index : Nat} {bytes' : ByteArray} {ml' : Nat} {rm : Room} {Q' : Option Value → Heap → Prop} (d : decode bytes pc = .ok (.invokespecial index, 3)) (hi : y'.name = "<init>") (w1 : (Jvm.Cond.methodLink y.cls index y').before a0 Z = true) (w2 : (Jvm.Cond.instanceMethod y').before a0 Z = true) (w3 : (Jvm.Cond.initialized y'.cls).before a0 Z = true) (w4 : (Jvm.Cond.code y' bytes' ml' none).before a0 Z = true) (hy : y'.cls ≠ "java/lang/invoke/MethodHandle" ∧ y'.cls ≠ "java/lang/invoke/VarHandle")
    {a : Addr} {argsL rest : List Value} (hst : st = argsL.reverse ++ .ref a :: rest) (hlen : ∀ sig, parseMethodDescriptor y'.desc = some sig → argsL.length = sig.parameters.length) (D : Con l Z y' bytes' ml' none rm (.ref a :: argsL).toArray h n0 Q') (w k' n' : Nat) (hW : (rest.map fun v => v.category).sum = w) (hk : k + rm.cells = k') (hn : n + rm.slots = n') (hf : rm.frames + 1 ≤ R.frames) (hl : w + (ml' + 11) + rm.locals ≤ R.locals) (hc : k' ≤ R.cells) (hs : n' ≤ R.slots) (hsz : ls.size = ml)
    (K : ∀ v h', Q' v h' → W p l e R s m args below meth c n0 Q kc ks k' n' h' (pc + 3) ls (v.toList ++ rest)) : W p l e R s m args below meth c n0 Q kc ks k n h pc ls st := fun T locs X eT N => by
  obtain ⟨_, _, ⟨T1, L1, k1, n1⟩, -, X1, ⟨Lc1, hQ1, l1, y1, z1⟩, st1⟩ := X.specialBack C.1 (y := y') hi C.2.2.1 (mvT C.2.1 w1) (mvT C.2.1 w2) (mvT C.2.1 w4) hy (backOf (W := w) (Q := fun v h' L => Q' v h' ∧ Fr n0 L) (D []) C.2.1 w4 w3 hf hl) (g := mkF m pc ls st) rfl (hsz.trans C.2.2.2.2.1.symm) (Steps.refl _) (a := a) (argsL := argsL) (rest := rest) hlen hst (by show 2 * 0 + _ ≤ _; omega) (C.a d) (fun _ _ => ⟨rfl, eT, by rw [hk]; exact hc, by rw [hn]; exact hs⟩)
  dsimp only [Pt.U, Pt.locs, Pt.cells, Pt.slots] at X1 l1 y1 z1 st1 hQ1
  subst l1
  rw [hk] at y1
  rw [hn] at z1
  subst y1 z1
  obtain ⟨s₂, o, g1, g2⟩ := K _ _ hQ1.1 T1 _ X1 rfl (Fr.app N hQ1.2)
  exact ⟨s₂, o, st1.trans g1, g2⟩
theorem W.callV (C : Cx p s m meth c Z y bytes ml ret) {y' : MethodName} {K0 : String} {index : Nat} {bytes' : ByteArray} {ml' : Nat} {ret' : Option FieldType} {rm : Room} {Q' : Option Value → Heap → Prop} (d : decode bytes pc = .ok (.invokevirtual index, 3)) (w1 : (Jvm.Cond.methodLink y.cls index y').before a0 Z = true) (w2 : (Jvm.Cond.declares y').before a0 Z = true) (w5 : (Jvm.Cond.selects K0 y' y').before a0 Z = true) (w6 : (Jvm.Cond.instanceMethod y').before a0 Z = true) (w3 : (Jvm.Cond.initialized y'.cls).before a0 Z = true) (w4 : (Jvm.Cond.code y' bytes' ml' ret').before a0 Z = true) (hy : y'.cls ≠ "java/lang/invoke/MethodHandle" ∧ y'.cls ≠ "java/lang/invoke/VarHandle")
    {a : Addr} (E : Exa Z h a K0) {argsL rest : List Value} (hst : st = argsL.reverse ++ .ref a :: rest) (hlen : ∀ sig, parseMethodDescriptor y'.desc = some sig → argsL.length = sig.parameters.length) (D : Con l Z y' bytes' ml' ret' rm (.ref a :: argsL).toArray h n0 Q') (w k' n' : Nat) (hW : (rest.map fun v => v.category).sum = w) (hk : k + rm.cells = k') (hn : n + rm.slots = n') (hf : rm.frames + 1 ≤ R.frames) (hl : w + (ml' + 11) + rm.locals ≤ R.locals) (hc : k' ≤ R.cells) (hs : n' ≤ R.slots) (hsz : ls.size = ml)
    (K : ∀ v h', Q' v h' → W p l e R s m args below meth c n0 Q kc ks k' n' h' (pc + 3) ls (v.toList ++ rest)) : W p l e R s m args below meth c n0 Q kc ks k n h pc ls st := fun T locs X eT N => by
  obtain ⟨cq, kq, qa, qb, qc⟩ := isOf C.2.1 eT E
  obtain ⟨_, _, ⟨T1, L1, k1, n1⟩, -, X1, ⟨Lc1, hQ1, l1, y1, z1⟩, st1⟩ := X.virtualBack C.1 (y := y') (z := y') C.2.2.1 (mvT C.2.1 w1) (mvT C.2.1 w2) (notFace_of_selects (args := #[]) (mvT C.2.1 w5)) (mvT C.2.1 w5) (mvT C.2.1 w6) hy (backOf (W := w) (Q := fun v h' L => Q' v h' ∧ Fr n0 L) (D []) C.2.1 w4 w3 hf hl) qa qc (g := mkF m pc ls st) rfl (hsz.trans C.2.2.2.2.1.symm) (Steps.refl _) (argsL := argsL) (rest := rest) hlen hst (by show 2 * 0 + _ ≤ _; omega) (C.a d) (fun _ _ => ⟨rfl, eT, by rw [hk]; exact hc, by rw [hn]; exact hs⟩)
  dsimp only [Pt.U, Pt.locs, Pt.cells, Pt.slots] at X1 l1 y1 z1 st1 hQ1
  subst l1
  rw [hk] at y1
  rw [hn] at z1
  subst y1 z1
  obtain ⟨s₂, o, g1, g2⟩ := K _ _ hQ1.1 T1 _ X1 rfl (Fr.app N hQ1.2)
  exact ⟨s₂, o, st1.trans g1, g2⟩
theorem W.initO (C : Cx p s m meth c Z y bytes ml ret) {index : Nat} (d : decode bytes pc = .ok (.invokespecial index, 3)) (w1 : (Jvm.Cond.methodLink y.cls index Lib.objectInit).before a0 Z = true) (w2 : (Jvm.Cond.instanceMethod Lib.objectInit).before a0 Z = true) (w3 : (Jvm.Cond.code Lib.objectInit ⟨#[0xb1]⟩ 1 none).before a0 Z = true)
    {a : Addr} (w : Nat) (hW : (st.map fun v => v.category).sum = w) (hf : 1 ≤ R.frames) (hl : w + 12 ≤ R.locals) (hsz : ls.size = ml) (K : W p l e R s m args below meth c n0 Q kc ks k n h (pc + 3) ls st) : W p l e R s m args below meth c n0 Q kc ks k n h pc ls (.ref a :: st) := fun T locs X eT N => by
  obtain ⟨T1, X1, e1, st1⟩ := Jvm.RoadKit.initO X C.1 C.2.1 C.2.2.1 w1 w2 w3 eT (g := mkF m pc ls (.ref a :: st)) rfl (hsz.trans C.2.2.2.2.1.symm) rfl (C.a d) hf (W := w) (by show 2 * 0 + _ ≤ _; omega) hl
  obtain ⟨s₂, o, g1, g2⟩ := K T1 _ X1 e1 N
  exact ⟨s₂, o, st1 _ g1, g2⟩
theorem W.new (C : Cx p s m meth c Z y bytes ml ret) {index sz : Nat} {K0 : String} (d : decode bytes pc = .ok (.new index, 3)) (w1 : (Jvm.Cond.classLink y.cls index K0).before a0 Z = true) (w2 : (Jvm.Cond.instantiable K0 sz).before a0 Z = true) (w3 : (Jvm.Cond.initialized K0).before a0 Z = true) (k' n' : Nat) (hk : k + 1 = k') (hn : n + sz = n') (hc : k' ≤ R.cells) (hs : n' ≤ R.slots)
    (K : ∀ a h', a = h.size → Ext h h' → Exa Z h' a K0 → (∀ {O nm d : String} {ty : FieldType}, Laid Z a0 K0 O nm d → parseFieldDescriptor d = some ty → Fld Z h' a O nm d (defaultValue ty)) → W p l e R s m args below meth c n0 Q kc ks k' n' h' (pc + 3) ls (.ref a :: st)) : W p l e R s m args below meth c n0 Q kc ks k n h pc ls st := fun T locs X eT N => by
  subst hk hn
  obtain ⟨T1, h1, X1, e1, E1, A1, D1, -, st1⟩ := newO X C.1 C.2.1 C.2.2.1 w1 w2 w3 eT (g := mkF m pc ls st) rfl (C.a d) hc hs
  obtain ⟨s₂, o, g1, g2⟩ := K _ h1 rfl E1 A1 D1 T1 _ X1 e1 N
  exact ⟨s₂, o, st1 _ g1, g2⟩
theorem W.getF (C : Cx p s m meth c Z y bytes ml ret) {index : Nat} {R0 O nm dd : String} (d : decode bytes pc = .ok (.getfield index, 3)) (w : (Jvm.Cond.fieldLink y.cls index R0 nm dd).before a0 Z = true) (via : Via Z R0 O nm dd) {a : Addr} {v : Value} (F : Fld Z h a O nm dd v) (K : W p l e R s m args below meth c n0 Q kc ks k n h (pc + 3) ls (v :: st)) : W p l e R s m args below meth c n0 Q kc ks k n h pc ls (.ref a :: st) := fun T locs X eT N => by
  obtain ⟨T1, X1, e1, st1⟩ := Jvm.RoadKit.getF X C.1 C.2.1 C.2.2.1 (host := "") (Or.inl w) via eT F (g := mkF m pc ls (.ref a :: st)) rfl rfl (C.a d)
  obtain ⟨s₂, o, g1, g2⟩ := K T1 _ X1 e1 N
  exact ⟨s₂, o, st1 _ g1, g2⟩
theorem W.getFN (C : Cx p s m meth c Z y bytes ml ret) {index : Nat} {R0 O nm dd host : String} (d : decode bytes pc = .ok (.getfield index, 3)) (w : (Jvm.Cond.fieldLinkNest y.cls index R0 nm dd host).before a0 Z = true) (via : Via Z R0 O nm dd) {a : Addr} {v : Value} (F : Fld Z h a O nm dd v) (K : W p l e R s m args below meth c n0 Q kc ks k n h (pc + 3) ls (v :: st)) : W p l e R s m args below meth c n0 Q kc ks k n h pc ls (.ref a :: st) := fun T locs X eT N => by
  obtain ⟨T1, X1, e1, st1⟩ := Jvm.RoadKit.getF X C.1 C.2.1 C.2.2.1 (host := host) (Or.inr w) via eT F (g := mkF m pc ls (.ref a :: st)) rfl rfl (C.a d)
  obtain ⟨s₂, o, g1, g2⟩ := K T1 _ X1 e1 N
  exact ⟨s₂, o, st1 _ g1, g2⟩
theorem W.getS (C : Cx p s m meth c Z y bytes ml ret) {index : Nat} {R0 O nm dd : String} (d : decode bytes pc = .ok (.getstatic index, 3)) (w : (Jvm.Cond.fieldLink y.cls index R0 nm dd).before a0 Z = true) (via : Via Z R0 O nm dd) {v : Value} (F : Sta Z h O nm dd v) (K : W p l e R s m args below meth c n0 Q kc ks k n h (pc + 3) ls (v :: st)) : W p l e R s m args below meth c n0 Q kc ks k n h pc ls st := fun T locs X eT N => by
  obtain ⟨T1, X1, e1, st1⟩ := Jvm.RoadKit.getS X C.1 C.2.1 (host := "") C.2.2.1 w via eT F (g := mkF m pc ls st) rfl (C.a d)
  obtain ⟨s₂, o, g1, g2⟩ := K T1 _ X1 e1 N
  exact ⟨s₂, o, st1 _ g1, g2⟩
theorem W.putF (C : Cx p s m meth c Z y bytes ml ret) {index kk : Nat} {R0 O nm dd K0 : String} {ty : FieldType} (d : decode bytes pc = .ok (.putfield index, 3)) (w : (Jvm.Cond.fieldLink y.cls index R0 nm dd).before a0 Z = true) (via : Via Z R0 O nm dd) {a : Addr} {v old : Value} (F : Fld Z h a O nm dd old) (E : Exa Z h a K0) (L : (Jvm.Cond.lays K0 O nm dd).before a0 Z = true ∨ ((Jvm.Cond.laysFinal K0 O nm dd).before a0 Z = true ∧ y.cls = O ∧ y.name = "<init>")) (wi : (Jvm.Cond.instantiable K0 kk).before a0 Z = true)
    (hty : parseFieldDescriptor dd = some ty) (hn : narrow ty v = v) (hf : fits ty v = true) (g : n0 ≤ a) (K : ∀ h', Wr h h' a (Jvm.RoadKit.slotOf Z O nm dd) v → W p l e R s m args below meth c n0 Q kc ks k n h' (pc + 3) ls st) : W p l e R s m args below meth c n0 Q kc ks k n h pc ls (v :: .ref a :: st) := fun T locs X eT N => by
  obtain ⟨T1, h1, X1, e1, W1, st1⟩ := Jvm.RoadKit.putF X C.1 C.2.1 C.2.2.1 (host := "") (Or.inl w) via eT F E (L.imp id fun q => ⟨q.1, q.2.1, C.2.2.2.2.2.2.2.trans q.2.2⟩) wi hty hn hf (g := mkF m pc ls (v :: .ref a :: st)) rfl rfl (C.a d)
  obtain ⟨s₂, o, g1, g2⟩ := K h1 W1 T1 _ X1 e1 (Fr.snoc X1 N g)
  exact ⟨s₂, o, st1 _ g1, g2⟩
/-- an array at a of component type ty that holds vs -/
def Al (Z : State) (h : Heap) (a : Addr) (ty : FieldType) (vs : List Value) : Prop := ∃ c : Cell, Arr Z h a c ty ∧ c.slots = vs.toArray
theorem Al.lt {a : Addr} {ty : FieldType} {vs : List Value} (F : Al Z h a ty vs) : a < h.size := by obtain ⟨c, A, -⟩ := F; exact A.lt
theorem Al.ext {a : Addr} {ty : FieldType} {vs : List Value} {h' : Heap} (F : Al Z h a ty vs) (E : Ext h h') : Al Z h' a ty vs := by obtain ⟨c, A, r⟩ := F; exact ⟨c, A.ext E, r⟩
theorem Al.other {a b : Addr} {ty : FieldType} {vs : List Value} {h' : Heap} {sl : Nat} {v : Value} (F : Al Z h b ty vs) (U : Wr h h' a sl v) (q : b ≠ a) : Al Z h' b ty vs := by obtain ⟨c, A, r⟩ := F; exact ⟨c, A.other U q, r⟩
theorem Al.keep {a : Addr} {ty : FieldType} {vs : List Value} {h' : Heap} {ws : List Addr} (F : Al Z h a ty vs) (K : Keep h h' ws) (q : a ∉ ws) : Al Z h' a ty vs := by obtain ⟨c, A, r⟩ := F; exact ⟨c, ⟨K.2.1 a c A.1 q, A.2⟩, r⟩
theorem Al.set {a : Addr} {ty : FieldType} {vs : List Value} {h' : Heap} {i : Nat} {v : Value} (F : Al Z h a ty vs) (U : Wr h h' a i v) : Al Z h' a ty (vs.set i v) := by
  obtain ⟨c, A, r⟩ := F
  refine ⟨_, A.same U, ?_⟩
  simp [Cell.setSlot, r]
theorem idx_of {j : Int32} {i : Nat} (hi : j.toInt = (i : Int)) : ¬ j < 0 ∧ j.toNatClampNeg = i := by
  refine ⟨fun q => ?_, ?_⟩
  · rw [Int32.lt_iff_toInt_lt] at q
    have : (0 : Int32).toInt = 0 := rfl
    omega
  · show j.toInt.toNat = i
    omega
theorem inb_of_idx {j : Int32} {i : Nat} {cl : Cell} {vs : List Value} (hi : j.toInt = (i : Int)) (r : cl.slots = vs.toArray) (hb : i < vs.length) : ¬ (j < 0 ∨ cl.slots.size ≤ j.toNatClampNeg) := by
  obtain ⟨q1, q2⟩ := idx_of hi
  rw [q2, r]
  simp only [List.size_toArray]
  rintro (z | z)
  · exact q1 z
  · omega
theorem W.arrlen (C : Cx p s m meth c Z y bytes ml ret) {a : Addr} {ty : FieldType} {vs : List Value} (z : Int32) (d : decode bytes pc = .ok (.arraylength, 1)) (A : Al Z h a ty vs) (hz : vs.length.toInt32 = z) (K : W p l e R s m args below meth c n0 Q kc ks k n h (pc + 1) ls (.int z :: st)) : W p l e R s m args below meth c n0 Q kc ks k n h pc ls (.ref a :: st) := fun T locs X eT N => by
  obtain ⟨cl, A, r⟩ := A
  obtain ⟨s₂, o, g1, g2⟩ := K T locs X eT N
  refine ⟨s₂, o, X.arraylength C.1 (by rw [eT]; exact A.1) (State.isArrayOf_alike C.2.1.alike A.2.1) (g := mkF m pc ls (.ref a :: st)) rfl rfl (C.a d) _ ?_, g2⟩
  have : cl.slots.size.toInt32 = z := by rw [r]; simpa using hz
  rw [this]; exact g1
theorem W.iaload (C : Cx p s m meth c Z y bytes ml ret) {a : Addr} {vs : List Value} {j : Int32} (i : Nat) {v : Value} (d : decode bytes pc = .ok (.iaload, 1)) (A : Al Z h a .int vs) (hi : j.toInt = (i : Int)) (hv : vs[i]? = some v) (K : W p l e R s m args below meth c n0 Q kc ks k n h (pc + 1) ls (v :: st)) : W p l e R s m args below meth c n0 Q kc ks k n h pc ls (.int j :: .ref a :: st) := fun T locs X eT N => by
  obtain ⟨cl, A, r⟩ := A
  obtain ⟨s₂, o, g1, g2⟩ := K T locs X eT N
  have hb : i < vs.length := (List.getElem?_eq_some_iff.mp hv).1
  exact ⟨s₂, o, X.iaload C.1 (j := j) (v := v) (by rw [eT]; exact A.1) (State.isArrayOf_alike C.2.1.alike A.2.1) A.2.2 (inb_of_idx hi r hb) (by rw [(idx_of hi).2, r]; simpa using hv) (g := mkF m pc ls (.int j :: .ref a :: st)) rfl rfl (C.a d) _ g1, g2⟩
theorem W.laload (C : Cx p s m meth c Z y bytes ml ret) {a : Addr} {vs : List Value} {j : Int32} (i : Nat) {v : Value} (d : decode bytes pc = .ok (.laload, 1)) (A : Al Z h a .long vs) (hi : j.toInt = (i : Int)) (hv : vs[i]? = some v) (K : W p l e R s m args below meth c n0 Q kc ks k n h (pc + 1) ls (v :: st)) : W p l e R s m args below meth c n0 Q kc ks k n h pc ls (.int j :: .ref a :: st) := fun T locs X eT N => by
  obtain ⟨cl, A, r⟩ := A
  obtain ⟨s₂, o, g1, g2⟩ := K T locs X eT N
  have hb : i < vs.length := (List.getElem?_eq_some_iff.mp hv).1
  exact ⟨s₂, o, X.laload C.1 (j := j) (v := v) (by rw [eT]; exact A.1) (State.isArrayOf_alike C.2.1.alike A.2.1) A.2.2 (inb_of_idx hi r hb) (by rw [(idx_of hi).2, r]; simpa using hv) (g := mkF m pc ls (.int j :: .ref a :: st)) rfl rfl (C.a d) _ g1, g2⟩
theorem W.baload (C : Cx p s m meth c Z y bytes ml ret) {a : Addr} {vs : List Value} {j : Int32} (i : Nat) {v : Value} (d : decode bytes pc = .ok (.baload, 1)) (A : Al Z h a .byte vs) (hi : j.toInt = (i : Int)) (hv : vs[i]? = some v) (K : W p l e R s m args below meth c n0 Q kc ks k n h (pc + 1) ls (v :: st)) : W p l e R s m args below meth c n0 Q kc ks k n h pc ls (.int j :: .ref a :: st) := fun T locs X eT N => by
  obtain ⟨cl, A, r⟩ := A
  obtain ⟨s₂, o, g1, g2⟩ := K T locs X eT N
  have hb : i < vs.length := (List.getElem?_eq_some_iff.mp hv).1
  exact ⟨s₂, o, X.baloadBytes C.1 (j := j) (v := v) (by rw [eT]; exact A.1) (State.isArrayOf_alike C.2.1.alike A.2.1) A.2.2 (inb_of_idx hi r hb) (by rw [(idx_of hi).2, r]; simpa using hv) (g := mkF m pc ls (.int j :: .ref a :: st)) rfl rfl (C.a d) _ g1, g2⟩
theorem W.caload (C : Cx p s m meth c Z y bytes ml ret) {a : Addr} {vs : List Value} {j : Int32} (i : Nat) {v : Value} (d : decode bytes pc = .ok (.caload, 1)) (A : Al Z h a .char vs) (hi : j.toInt = (i : Int)) (hv : vs[i]? = some v) (K : W p l e R s m args below meth c n0 Q kc ks k n h (pc + 1) ls (v :: st)) : W p l e R s m args below meth c n0 Q kc ks k n h pc ls (.int j :: .ref a :: st) := fun T locs X eT N => by
  obtain ⟨cl, A, r⟩ := A
  obtain ⟨s₂, o, g1, g2⟩ := K T locs X eT N
  have hb : i < vs.length := (List.getElem?_eq_some_iff.mp hv).1
  exact ⟨s₂, o, X.caload C.1 (j := j) (v := v) (by rw [eT]; exact A.1) (State.isArrayOf_alike C.2.1.alike A.2.1) A.2.2 (inb_of_idx hi r hb) (by rw [(idx_of hi).2, r]; simpa using hv) (g := mkF m pc ls (.int j :: .ref a :: st)) rfl rfl (C.a d) _ g1, g2⟩
theorem W.zaload (C : Cx p s m meth c Z y bytes ml ret) {a : Addr} {vs : List Value} {j : Int32} (i : Nat) {v : Value} (d : decode bytes pc = .ok (.baload, 1)) (A : Al Z h a .boolean vs) (hi : j.toInt = (i : Int)) (hv : vs[i]? = some v) (K : W p l e R s m args below meth c n0 Q kc ks k n h (pc + 1) ls (v :: st)) : W p l e R s m args below meth c n0 Q kc ks k n h pc ls (.int j :: .ref a :: st) := fun T locs X eT N => by
  obtain ⟨cl, A, r⟩ := A
  obtain ⟨s₂, o, g1, g2⟩ := K T locs X eT N
  have hb : i < vs.length := (List.getElem?_eq_some_iff.mp hv).1
  exact ⟨s₂, o, X.baloadBooleans C.1 (j := j) (v := v) (by rw [eT]; exact A.1) (State.isArrayOf_alike C.2.1.alike A.2.1) A.2.2 (inb_of_idx hi r hb) (by rw [(idx_of hi).2, r]; simpa using hv) (g := mkF m pc ls (.int j :: .ref a :: st)) rfl rfl (C.a d) _ g1, g2⟩
theorem W.aaload (C : Cx p s m meth c Z y bytes ml ret) {a : Addr} {ty : FieldType} {vs : List Value} {j : Int32} (i : Nat) {v : Value} (d : decode bytes pc = .ok (.aaload, 1)) (A : Al Z h a ty vs) (hty : ty.isReference = true) (hi : j.toInt = (i : Int)) (hv : vs[i]? = some v) (K : W p l e R s m args below meth c n0 Q kc ks k n h (pc + 1) ls (v :: st)) : W p l e R s m args below meth c n0 Q kc ks k n h pc ls (.int j :: .ref a :: st) := fun T locs X eT N => by
  obtain ⟨cl, A, r⟩ := A
  obtain ⟨s₂, o, g1, g2⟩ := K T locs X eT N
  have hb : i < vs.length := (List.getElem?_eq_some_iff.mp hv).1
  exact ⟨s₂, o, X.aaload C.1 (j := j) (v := v) (by rw [eT]; exact A.1) (State.isArrayOf_alike C.2.1.alike A.2.1) hty A.2.2 (inb_of_idx hi r hb) (by rw [(idx_of hi).2, r]; simpa using hv) (g := mkF m pc ls (.int j :: .ref a :: st)) rfl rfl (C.a d) _ g1, g2⟩
theorem W.iastore (C : Cx p s m meth c Z y bytes ml ret) {a : Addr} {vs : List Value} {j : Int32} {x : Int32} (i : Nat) (d : decode bytes pc = .ok (.iastore, 1)) (A : Al Z h a .int vs) (hi : j.toInt = (i : Int)) (hb : i < vs.length) (g : n0 ≤ a) (K : ∀ h', Wr h h' a i (.int x) → Al Z h' a .int (vs.set i (.int x)) → W p l e R s m args below meth c n0 Q kc ks k n h' (pc + 1) ls st) : W p l e R s m args below meth c n0 Q kc ks k n h pc ls (.int x :: .int j :: .ref a :: st) := fun T locs X eT N => by
  obtain ⟨cl, A, r⟩ := A
  obtain ⟨T1, h1, X1, e1, W1, st1⟩ := stI X C.1 C.2.1 eT A (j := j) (x := x) (inb_of_idx hi r hb) (g := mkF m pc ls (.int x :: .int j :: .ref a :: st)) rfl rfl (C.a d)
  have N1 := Fr.snoc X1 N g
  rw [(idx_of hi).2] at W1
  obtain ⟨s₂, o, g1, g2⟩ := K h1 W1 (Al.set ⟨cl, A, r⟩ W1) T1 _ X1 e1 N1
  exact ⟨s₂, o, st1 _ g1, g2⟩
theorem W.lastore (C : Cx p s m meth c Z y bytes ml ret) {a : Addr} {vs : List Value} {j : Int32} {x : Int64} (i : Nat) (d : decode bytes pc = .ok (.lastore, 1)) (A : Al Z h a .long vs) (hi : j.toInt = (i : Int)) (hb : i < vs.length) (g : n0 ≤ a) (K : ∀ h', Wr h h' a i (.long x) → Al Z h' a .long (vs.set i (.long x)) → W p l e R s m args below meth c n0 Q kc ks k n h' (pc + 1) ls st) : W p l e R s m args below meth c n0 Q kc ks k n h pc ls (.long x :: .int j :: .ref a :: st) := fun T locs X eT N => by
  obtain ⟨cl, A, r⟩ := A
  obtain ⟨T1, h1, X1, e1, W1, st1⟩ := stJ X C.1 C.2.1 eT A (j := j) (x := x) (inb_of_idx hi r hb) (g := mkF m pc ls (.long x :: .int j :: .ref a :: st)) rfl rfl (C.a d)
  have N1 := Fr.snoc X1 N g
  rw [(idx_of hi).2] at W1
  obtain ⟨s₂, o, g1, g2⟩ := K h1 W1 (Al.set ⟨cl, A, r⟩ W1) T1 _ X1 e1 N1
  exact ⟨s₂, o, st1 _ g1, g2⟩
theorem W.bastore (C : Cx p s m meth c Z y bytes ml ret) {a : Addr} {vs : List Value} {j : Int32} {x : Int32} (i : Nat) (d : decode bytes pc = .ok (.bastore, 1)) (A : Al Z h a .byte vs) (hi : j.toInt = (i : Int)) (hb : i < vs.length) (g : n0 ≤ a) (K : ∀ h', Wr h h' a i (.int x.toInt8.toInt32) → Al Z h' a .byte (vs.set i (.int x.toInt8.toInt32)) → W p l e R s m args below meth c n0 Q kc ks k n h' (pc + 1) ls st) : W p l e R s m args below meth c n0 Q kc ks k n h pc ls (.int x :: .int j :: .ref a :: st) := fun T locs X eT N => by
  obtain ⟨cl, A, r⟩ := A
  obtain ⟨T1, h1, X1, e1, W1, st1⟩ := stB X C.1 C.2.1 eT A (j := j) (x := x) (inb_of_idx hi r hb) (g := mkF m pc ls (.int x :: .int j :: .ref a :: st)) rfl rfl (C.a d)
  have N1 := Fr.snoc X1 N g
  rw [(idx_of hi).2] at W1
  obtain ⟨s₂, o, g1, g2⟩ := K h1 W1 (Al.set ⟨cl, A, r⟩ W1) T1 _ X1 e1 N1
  exact ⟨s₂, o, st1 _ g1, g2⟩
theorem W.castore (C : Cx p s m meth c Z y bytes ml ret) {a : Addr} {vs : List Value} {j : Int32} {x : Int32} (i : Nat) (d : decode bytes pc = .ok (.castore, 1)) (A : Al Z h a .char vs) (hi : j.toInt = (i : Int)) (hb : i < vs.length) (g : n0 ≤ a) (K : ∀ h', Wr h h' a i (.int x.toUInt32.toUInt16.toUInt32.toInt32) → Al Z h' a .char (vs.set i (.int x.toUInt32.toUInt16.toUInt32.toInt32)) → W p l e R s m args below meth c n0 Q kc ks k n h' (pc + 1) ls st) : W p l e R s m args below meth c n0 Q kc ks k n h pc ls (.int x :: .int j :: .ref a :: st) := fun T locs X eT N => by
  obtain ⟨cl, A, r⟩ := A
  obtain ⟨T1, h1, X1, e1, W1, st1⟩ := stC X C.1 C.2.1 eT A (j := j) (x := x) (inb_of_idx hi r hb) (g := mkF m pc ls (.int x :: .int j :: .ref a :: st)) rfl rfl (C.a d)
  have N1 := Fr.snoc X1 N g
  rw [(idx_of hi).2] at W1
  obtain ⟨s₂, o, g1, g2⟩ := K h1 W1 (Al.set ⟨cl, A, r⟩ W1) T1 _ X1 e1 N1
  exact ⟨s₂, o, st1 _ g1, g2⟩
theorem W.zastore (C : Cx p s m meth c Z y bytes ml ret) {a : Addr} {vs : List Value} {j : Int32} {x : Int32} (i : Nat) (d : decode bytes pc = .ok (.bastore, 1)) (A : Al Z h a .boolean vs) (hi : j.toInt = (i : Int)) (hb : i < vs.length) (g : n0 ≤ a) (K : ∀ h', Wr h h' a i (.int (x &&& 1)) → Al Z h' a .boolean (vs.set i (.int (x &&& 1))) → W p l e R s m args below meth c n0 Q kc ks k n h' (pc + 1) ls st) : W p l e R s m args below meth c n0 Q kc ks k n h pc ls (.int x :: .int j :: .ref a :: st) := fun T locs X eT N => by
  obtain ⟨cl, A, r⟩ := A
  obtain ⟨T1, h1, X1, e1, W1, st1⟩ := stZ X C.1 C.2.1 eT A (j := j) (x := x) (inb_of_idx hi r hb) (g := mkF m pc ls (.int x :: .int j :: .ref a :: st)) rfl rfl (C.a d)
  have N1 := Fr.snoc X1 N g
  rw [(idx_of hi).2] at W1
  obtain ⟨s₂, o, g1, g2⟩ := K h1 W1 (Al.set ⟨cl, A, r⟩ W1) T1 _ X1 e1 N1
  exact ⟨s₂, o, st1 _ g1, g2⟩
theorem i8_i8 (y : Int32) : y.toInt8.toInt32.toInt8.toInt32 = y.toInt8.toInt32 := by simp
theorem W.bastoreI (C : Cx p s m meth c Z y bytes ml ret) {a : Addr} {vs : List Value} {j : Int32} {x : Int32} (i : Nat) (d : decode bytes pc = .ok (.bastore, 1)) (A : Al Z h a .byte vs) (hi : j.toInt = (i : Int)) (hb : i < vs.length) (g : n0 ≤ a) (K : ∀ h', Wr h h' a i (.int x.toInt8.toInt32) → Al Z h' a .byte (vs.set i (.int x.toInt8.toInt32)) → W p l e R s m args below meth c n0 Q kc ks k n h' (pc + 1) ls st) : W p l e R s m args below meth c n0 Q kc ks k n h pc ls (.int x.toInt8.toInt32 :: .int j :: .ref a :: st) :=
  W.bastore C i d A hi hb g (by rw [i8_i8]; exact K)
theorem W.newP (C : Cx p s m meth c Z y bytes ml ret) {aty : ArrayType} {nn : Int32} (sz cap : Nat) (d : decode bytes pc = .ok (.newarray aty, 2)) (w : (Jvm.Cond.arrayClass (newarray.typeOf aty)).before a0 Z = true) (hn : nn.toInt = (sz : Int)) (hcap : sz ≤ cap) (hb : cap * 8 ≤ 536870912) (k' n' : Nat) (hk : k + 1 = k') (hn' : n + cap = n') (hc : k' ≤ R.cells) (hl : n' ≤ R.slots)
    (K : ∀ a h', a = h.size → Ext h h' → Al Z h' a (newarray.typeOf aty) (List.replicate sz (defaultValue (newarray.typeOf aty))) → W p l e R s m args below meth c n0 Q kc ks k' n' h' (pc + 2) ls (.ref a :: st)) : W p l e R s m args below meth c n0 Q kc ks k n h pc ls (.int nn :: st) := fun T locs X eT N => by
  subst hk hn'
  obtain ⟨T1, h1, cA, X1, e1, E1, A1, st1⟩ := Jvm.RoadKit.newP X C.1 C.2.1 w eT (g := mkF m pc ls (.int nn :: st)) rfl (C.a d) rfl (idx_of hn).1 (cap := cap) (by rw [(idx_of hn).2]; exact hcap) hb hc hl
  obtain ⟨s₂, o, g1, g2⟩ := K _ h1 rfl E1 ⟨_, A1, by simp [newA, (idx_of hn).2]⟩ T1 _ X1 e1 N
  exact ⟨s₂, o, st1 _ g1, g2⟩
end
theorem tkw {ts : List Jvm.Cond} {a0 : Array Value} {Z : State} (hw : ∀ d ∈ ts, d.before a0 Z = true) (i : Nat) {d : Jvm.Cond} (q : ts[i]? = some d) : d.before a0 Z = true := hw d (List.mem_of_getElem? q)
end Jvm.OwnKit
namespace Jvm.Pilot.@@N@@
open Jvm Jvm.ClassFile Sem Op Lib Jvm.Free Jvm.Stand Jvm.LawKit Jvm.RoadKit Bundle Jvm.OwnKit Jvm.Pilot.@@N@@.Jvm.D
abbrev y5 : MethodName := ⟨"java/lang/Integer", "numberOfLeadingZeros", "(I)I"⟩
theorem d5_0 : decode jdk_33_method_47_code 0 = .ok (.iload_n 0, 1) := by decide +kernel
theorem d5_1 : decode jdk_33_method_47_code 1 = .ok (.ifCond .gt 14, 3) := by decide +kernel
theorem d5_4 : decode jdk_33_method_47_code 4 = .ok (.iload_n 0, 1) := by decide +kernel
theorem d5_5 : decode jdk_33_method_47_code 5 = .ok (.ifCond .ne 8, 3) := by decide +kernel
theorem d5_8 : decode jdk_33_method_47_code 8 = .ok (.bipush 32, 2) := by decide +kernel
theorem d5_10 : decode jdk_33_method_47_code 10 = .ok (.goto 4, 3) := by decide +kernel
theorem d5_13 : decode jdk_33_method_47_code 13 = .ok (.iconst 0, 1) := by decide +kernel
theorem d5_14 : decode jdk_33_method_47_code 14 = .ok (.ireturn, 1) := by decide +kernel
theorem d5_15 : decode jdk_33_method_47_code 15 = .ok (.bipush 31, 2) := by decide +kernel
theorem d5_17 : decode jdk_33_method_47_code 17 = .ok (.istore_n 1, 1) := by decide +kernel
theorem d5_18 : decode jdk_33_method_47_code 18 = .ok (.iload_n 0, 1) := by decide +kernel
theorem d5_19 : decode jdk_33_method_47_code 19 = .ok (.ldc_w 264, 3) := by decide +kernel
theorem d5_22 : decode jdk_33_method_47_code 22 = .ok (.if_icmp .lt 11, 3) := by decide +kernel
theorem d5_25 : decode jdk_33_method_47_code 25 = .ok (.iinc 1 (-16), 3) := by decide +kernel
theorem d5_28 : decode jdk_33_method_47_code 28 = .ok (.iload_n 0, 1) := by decide +kernel
theorem d5_29 : decode jdk_33_method_47_code 29 = .ok (.bipush 16, 2) := by decide +kernel
theorem d5_31 : decode jdk_33_method_47_code 31 = .ok (.iushr, 1) := by decide +kernel
theorem d5_32 : decode jdk_33_method_47_code 32 = .ok (.istore_n 0, 1) := by decide +kernel
theorem d5_33 : decode jdk_33_method_47_code 33 = .ok (.iload_n 0, 1) := by decide +kernel
theorem d5_34 : decode jdk_33_method_47_code 34 = .ok (.sipush 256, 3) := by decide +kernel
theorem d5_37 : decode jdk_33_method_47_code 37 = .ok (.if_icmp .lt 11, 3) := by decide +kernel
theorem d5_40 : decode jdk_33_method_47_code 40 = .ok (.iinc 1 (-8), 3) := by decide +kernel
theorem d5_43 : decode jdk_33_method_47_code 43 = .ok (.iload_n 0, 1) := by decide +kernel
theorem d5_44 : decode jdk_33_method_47_code 44 = .ok (.bipush 8, 2) := by decide +kernel
theorem d5_46 : decode jdk_33_method_47_code 46 = .ok (.iushr, 1) := by decide +kernel
theorem d5_47 : decode jdk_33_method_47_code 47 = .ok (.istore_n 0, 1) := by decide +kernel
theorem d5_48 : decode jdk_33_method_47_code 48 = .ok (.iload_n 0, 1) := by decide +kernel
theorem d5_49 : decode jdk_33_method_47_code 49 = .ok (.bipush 16, 2) := by decide +kernel
theorem d5_51 : decode jdk_33_method_47_code 51 = .ok (.if_icmp .lt 10, 3) := by decide +kernel
theorem d5_54 : decode jdk_33_method_47_code 54 = .ok (.iinc 1 (-4), 3) := by decide +kernel
theorem d5_57 : decode jdk_33_method_47_code 57 = .ok (.iload_n 0, 1) := by decide +kernel
theorem d5_58 : decode jdk_33_method_47_code 58 = .ok (.iconst 4, 1) := by decide +kernel
theorem d5_59 : decode jdk_33_method_47_code 59 = .ok (.iushr, 1) := by decide +kernel
theorem d5_60 : decode jdk_33_method_47_code 60 = .ok (.istore_n 0, 1) := by decide +kernel
theorem d5_61 : decode jdk_33_method_47_code 61 = .ok (.iload_n 0, 1) := by decide +kernel
theorem d5_62 : decode jdk_33_method_47_code 62 = .ok (.iconst 4, 1) := by decide +kernel
theorem d5_63 : decode jdk_33_method_47_code 63 = .ok (.if_icmp .lt 10, 3) := by decide +kernel
theorem d5_66 : decode jdk_33_method_47_code 66 = .ok (.iinc 1 (-2), 3) := by decide +kernel
theorem d5_69 : decode jdk_33_method_47_code 69 = .ok (.iload_n 0, 1) := by decide +kernel
theorem d5_70 : decode jdk_33_method_47_code 70 = .ok (.iconst 2, 1) := by decide +kernel
theorem d5_71 : decode jdk_33_method_47_code 71 = .ok (.iushr, 1) := by decide +kernel
theorem d5_72 : decode jdk_33_method_47_code 72 = .ok (.istore_n 0, 1) := by decide +kernel
theorem d5_73 : decode jdk_33_method_47_code 73 = .ok (.iload_n 1, 1) := by decide +kernel
theorem d5_74 : decode jdk_33_method_47_code 74 = .ok (.iload_n 0, 1) := by decide +kernel
theorem d5_75 : decode jdk_33_method_47_code 75 = .ok (.iconst 1, 1) := by decide +kernel
theorem d5_76 : decode jdk_33_method_47_code 76 = .ok (.iushr, 1) := by decide +kernel
theorem d5_77 : decode jdk_33_method_47_code 77 = .ok (.isub, 1) := by decide +kernel
theorem d5_78 : decode jdk_33_method_47_code 78 = .ok (.ireturn, 1) := by decide +kernel
theorem pf_5 : plainFor y5 = true := by first | exact plainFor_of_name (by first | (simp [plainName, overriddenIn]; done) | decide +kernel) | decide +kernel
theorem ef_5 (m : MethodId) (x : Int32) : entryFrame m #[(.int x)] 2 = mkF m 0 #[.val (.int x), .unset] [] := by first | (simp [entryFrame, mkF, argsToLocals, Value.category]; done) | rfl
def own_nli (x : Int32) : Int32 := if 0 < x then if x < (65536 : Int32) then if x < (256 : Int32) then if x < (16 : Int32) then if x < (4 : Int32) then ((31 : Int32) - ((x).toUInt32 >>> ((1 : Int32) &&& 31).toUInt32).toInt32) else ((29 : Int32) - ((((x).toUInt32 >>> ((2 : Int32) &&& 31).toUInt32).toInt32).toUInt32 >>> ((1 : Int32) &&& 31).toUInt32).toInt32) else if ((x).toUInt32 >>> ((4 : Int32) &&& 31).toUInt32).toInt32 < (4 : Int32) then ((27 : Int32) - ((((x).toUInt32 >>> ((4 : Int32) &&& 31).toUInt32).toInt32).toUInt32 >>> ((1 : Int32) &&& 31).toUInt32).toInt32) else ((25 : Int32) - ((((((x).toUInt32 >>> ((4 : Int32) &&& 31).toUInt32).toInt32).toUInt32 >>> ((2 : Int32) &&& 31).toUInt32).toInt32).toUInt32 >>> ((1 : Int32) &&& 31).toUInt32).toInt32) else if ((x).toUInt32 >>> ((8 : Int32) &&& 31).toUInt32).toInt32 < (16 : Int32) then if ((x).toUInt32 >>> ((8 : Int32) &&& 31).toUInt32).toInt32 < (4 : Int32) then ((23 : Int32) - ((((x).toUInt32 >>> ((8 : Int32) &&& 31).toUInt32).toInt32).toUInt32 >>> ((1 : Int32) &&& 31).toUInt32).toInt32) else ((21 : Int32) - ((((((x).toUInt32 >>> ((8 : Int32) &&& 31).toUInt32).toInt32).toUInt32 >>> ((2 : Int32) &&& 31).toUInt32).toInt32).toUInt32 >>> ((1 : Int32) &&& 31).toUInt32).toInt32) else if ((((x).toUInt32 >>> ((8 : Int32) &&& 31).toUInt32).toInt32).toUInt32 >>> ((4 : Int32) &&& 31).toUInt32).toInt32 < (4 : Int32) then ((19 : Int32) - ((((((x).toUInt32 >>> ((8 : Int32) &&& 31).toUInt32).toInt32).toUInt32 >>> ((4 : Int32) &&& 31).toUInt32).toInt32).toUInt32 >>> ((1 : Int32) &&& 31).toUInt32).toInt32) else ((17 : Int32) - ((((((((x).toUInt32 >>> ((8 : Int32) &&& 31).toUInt32).toInt32).toUInt32 >>> ((4 : Int32) &&& 31).toUInt32).toInt32).toUInt32 >>> ((2 : Int32) &&& 31).toUInt32).toInt32).toUInt32 >>> ((1 : Int32) &&& 31).toUInt32).toInt32) else if ((x).toUInt32 >>> ((16 : Int32) &&& 31).toUInt32).toInt32 < (256 : Int32) then if ((x).toUInt32 >>> ((16 : Int32) &&& 31).toUInt32).toInt32 < (16 : Int32) then if ((x).toUInt32 >>> ((16 : Int32) &&& 31).toUInt32).toInt32 < (4 : Int32) then ((15 : Int32) - ((((x).toUInt32 >>> ((16 : Int32) &&& 31).toUInt32).toInt32).toUInt32 >>> ((1 : Int32) &&& 31).toUInt32).toInt32) else ((13 : Int32) - ((((((x).toUInt32 >>> ((16 : Int32) &&& 31).toUInt32).toInt32).toUInt32 >>> ((2 : Int32) &&& 31).toUInt32).toInt32).toUInt32 >>> ((1 : Int32) &&& 31).toUInt32).toInt32) else if ((((x).toUInt32 >>> ((16 : Int32) &&& 31).toUInt32).toInt32).toUInt32 >>> ((4 : Int32) &&& 31).toUInt32).toInt32 < (4 : Int32) then ((11 : Int32) - ((((((x).toUInt32 >>> ((16 : Int32) &&& 31).toUInt32).toInt32).toUInt32 >>> ((4 : Int32) &&& 31).toUInt32).toInt32).toUInt32 >>> ((1 : Int32) &&& 31).toUInt32).toInt32) else ((9 : Int32) - ((((((((x).toUInt32 >>> ((16 : Int32) &&& 31).toUInt32).toInt32).toUInt32 >>> ((4 : Int32) &&& 31).toUInt32).toInt32).toUInt32 >>> ((2 : Int32) &&& 31).toUInt32).toInt32).toUInt32 >>> ((1 : Int32) &&& 31).toUInt32).toInt32) else if ((((x).toUInt32 >>> ((16 : Int32) &&& 31).toUInt32).toInt32).toUInt32 >>> ((8 : Int32) &&& 31).toUInt32).toInt32 < (16 : Int32) then if ((((x).toUInt32 >>> ((16 : Int32) &&& 31).toUInt32).toInt32).toUInt32 >>> ((8 : Int32) &&& 31).toUInt32).toInt32 < (4 : Int32) then ((7 : Int32) - ((((((x).toUInt32 >>> ((16 : Int32) &&& 31).toUInt32).toInt32).toUInt32 >>> ((8 : Int32) &&& 31).toUInt32).toInt32).toUInt32 >>> ((1 : Int32) &&& 31).toUInt32).toInt32) else ((5 : Int32) - ((((((((x).toUInt32 >>> ((16 : Int32) &&& 31).toUInt32).toInt32).toUInt32 >>> ((8 : Int32) &&& 31).toUInt32).toInt32).toUInt32 >>> ((2 : Int32) &&& 31).toUInt32).toInt32).toUInt32 >>> ((1 : Int32) &&& 31).toUInt32).toInt32) else if ((((((x).toUInt32 >>> ((16 : Int32) &&& 31).toUInt32).toInt32).toUInt32 >>> ((8 : Int32) &&& 31).toUInt32).toInt32).toUInt32 >>> ((4 : Int32) &&& 31).toUInt32).toInt32 < (4 : Int32) then ((3 : Int32) - ((((((((x).toUInt32 >>> ((16 : Int32) &&& 31).toUInt32).toInt32).toUInt32 >>> ((8 : Int32) &&& 31).toUInt32).toInt32).toUInt32 >>> ((4 : Int32) &&& 31).toUInt32).toInt32).toUInt32 >>> ((1 : Int32) &&& 31).toUInt32).toInt32) else ((1 : Int32) - ((((((((((x).toUInt32 >>> ((16 : Int32) &&& 31).toUInt32).toInt32).toUInt32 >>> ((8 : Int32) &&& 31).toUInt32).toInt32).toUInt32 >>> ((4 : Int32) &&& 31).toUInt32).toInt32).toUInt32 >>> ((2 : Int32) &&& 31).toUInt32).toInt32).toUInt32 >>> ((1 : Int32) &&& 31).toUInt32).toInt32) else if x = 0 then (32 : Int32) else (0 : Int32)
set_option maxRecDepth 65536 in
set_option maxHeartbeats 40000000 in
theorem con_5 (l : Launch) (Z : State) (a0 : Array Value) (hw : ∀ d ∈ tables_1, d.before a0 Z = true) (h0 : Heap) (n0 : Nat) (x : Int32)   : Con l Z y5 jdk_33_method_47_code 2 (some .int) ({ frames := 0, cells := 0, slots := 0, locals := 0 } : Room) #[(.int x)] h0 n0 (Pu (some (.int (own_nli x))) h0) := by
  refine Con.of pf_5 (fun m => ef_5 m x) ?_
  intro p e s m below meth c C
  refine W.iloadN C d5_0 rfl ?_
  refine W.if_gt C 15 d5_1 rfl (fun b1 => ?_) (fun b1 => ?_)
  · skip
    refine W.bipush C (31 : Int32) d5_15 rfl ?_
    refine W.istoreN C #[.val (.int x), .val (.int (31 : Int32))] d5_17 rfl ?_
    refine W.iloadN C d5_18 rfl ?_
    refine W.ldcWI C (v := (65536 : Int32)) d5_19 (tkw hw 26 rfl) ?_
    refine W.icmp_lt C 33 d5_22 rfl (fun b2 => ?_) (fun b2 => ?_)
    · skip
      refine W.iloadN C d5_33 rfl ?_
      refine W.sipush C (256 : Int32) d5_34 rfl ?_
      refine W.icmp_lt C 48 d5_37 rfl (fun b3 => ?_) (fun b3 => ?_)
      · skip
        refine W.iloadN C d5_48 rfl ?_
        refine W.bipush C (16 : Int32) d5_49 rfl ?_
        refine W.icmp_lt C 61 d5_51 rfl (fun b4 => ?_) (fun b4 => ?_)
        · skip
          refine W.iloadN C d5_61 rfl ?_
          refine W.iconst C (4 : Int32) d5_62 rfl ?_
          refine W.icmp_lt C 73 d5_63 rfl (fun b5 => ?_) (fun b5 => ?_)
          · skip
            refine W.iloadN C d5_73 rfl ?_
            refine W.iloadN C d5_74 rfl ?_
            refine W.iconst C (1 : Int32) d5_75 rfl ?_
            refine W.iushr C d5_76 ?_
            refine W.isub C d5_77 ?_
            exact W.iret C d5_78 (by simp) rfl (by decide) (by decide) ⟨by show some _ = some _; rw [own_nli, if_pos b1, if_pos b2, if_pos b3, if_pos b4, if_pos b5], rfl⟩
          · skip
            refine W.iinc C (29 : Int32) #[.val (.int x), .val (.int (29 : Int32))] d5_66 rfl rfl rfl ?_
            refine W.iloadN C d5_69 rfl ?_
            refine W.iconst C (2 : Int32) d5_70 rfl ?_
            refine W.iushr C d5_71 ?_
            refine W.istoreN C #[.val (.int ((x).toUInt32 >>> ((2 : Int32) &&& 31).toUInt32).toInt32), .val (.int (29 : Int32))] d5_72 rfl ?_
            refine W.iloadN C d5_73 rfl ?_
            refine W.iloadN C d5_74 rfl ?_
            refine W.iconst C (1 : Int32) d5_75 rfl ?_
            refine W.iushr C d5_76 ?_
            refine W.isub C d5_77 ?_
            exact W.iret C d5_78 (by simp) rfl (by decide) (by decide) ⟨by show some _ = some _; rw [own_nli, if_pos b1, if_pos b2, if_pos b3, if_pos b4, if_neg b5], rfl⟩
        · skip
          refine W.iinc C (27 : Int32) #[.val (.int x), .val (.int (27 : Int32))] d5_54 rfl rfl rfl ?_
          refine W.iloadN C d5_57 rfl ?_
          refine W.iconst C (4 : Int32) d5_58 rfl ?_
          refine W.iushr C d5_59 ?_
          refine W.istoreN C #[.val (.int ((x).toUInt32 >>> ((4 : Int32) &&& 31).toUInt32).toInt32), .val (.int (27 : Int32))] d5_60 rfl ?_
          refine W.iloadN C d5_61 rfl ?_
          refine W.iconst C (4 : Int32) d5_62 rfl ?_
          refine W.icmp_lt C 73 d5_63 rfl (fun b6 => ?_) (fun b6 => ?_)
          · skip
            refine W.iloadN C d5_73 rfl ?_
            refine W.iloadN C d5_74 rfl ?_
            refine W.iconst C (1 : Int32) d5_75 rfl ?_
            refine W.iushr C d5_76 ?_
            refine W.isub C d5_77 ?_
            exact W.iret C d5_78 (by simp) rfl (by decide) (by decide) ⟨by show some _ = some _; rw [own_nli, if_pos b1, if_pos b2, if_pos b3, if_neg b4, if_pos b6], rfl⟩
          · skip
            refine W.iinc C (25 : Int32) #[.val (.int ((x).toUInt32 >>> ((4 : Int32) &&& 31).toUInt32).toInt32), .val (.int (25 : Int32))] d5_66 rfl rfl rfl ?_
            refine W.iloadN C d5_69 rfl ?_
            refine W.iconst C (2 : Int32) d5_70 rfl ?_
            refine W.iushr C d5_71 ?_
            refine W.istoreN C #[.val (.int ((((x).toUInt32 >>> ((4 : Int32) &&& 31).toUInt32).toInt32).toUInt32 >>> ((2 : Int32) &&& 31).toUInt32).toInt32), .val (.int (25 : Int32))] d5_72 rfl ?_
            refine W.iloadN C d5_73 rfl ?_
            refine W.iloadN C d5_74 rfl ?_
            refine W.iconst C (1 : Int32) d5_75 rfl ?_
            refine W.iushr C d5_76 ?_
            refine W.isub C d5_77 ?_
            exact W.iret C d5_78 (by simp) rfl (by decide) (by decide) ⟨by show some _ = some _; rw [own_nli, if_pos b1, if_pos b2, if_pos b3, if_neg b4, if_neg b6], rfl⟩
      · skip
        refine W.iinc C (23 : Int32) #[.val (.int x), .val (.int (23 : Int32))] d5_40 rfl rfl rfl ?_
        refine W.iloadN C d5_43 rfl ?_
        refine W.bipush C (8 : Int32) d5_44 rfl ?_
        refine W.iushr C d5_46 ?_
        refine W.istoreN C #[.val (.int ((x).toUInt32 >>> ((8 : Int32) &&& 31).toUInt32).toInt32), .val (.int (23 : Int32))] d5_47 rfl ?_
        refine W.iloadN C d5_48 rfl ?_
        refine W.bipush C (16 : Int32) d5_49 rfl ?_
        refine W.icmp_lt C 61 d5_51 rfl (fun b7 => ?_) (fun b7 => ?_)
        · skip
          refine W.iloadN C d5_61 rfl ?_
          refine W.iconst C (4 : Int32) d5_62 rfl ?_
          refine W.icmp_lt C 73 d5_63 rfl (fun b8 => ?_) (fun b8 => ?_)
          · skip
            refine W.iloadN C d5_73 rfl ?_
            refine W.iloadN C d5_74 rfl ?_
            refine W.iconst C (1 : Int32) d5_75 rfl ?_
            refine W.iushr C d5_76 ?_
            refine W.isub C d5_77 ?_
            exact W.iret C d5_78 (by simp) rfl (by decide) (by decide) ⟨by show some _ = some _; rw [own_nli, if_pos b1, if_pos b2, if_neg b3, if_pos b7, if_pos b8], rfl⟩
          · skip
            refine W.iinc C (21 : Int32) #[.val (.int ((x).toUInt32 >>> ((8 : Int32) &&& 31).toUInt32).toInt32), .val (.int (21 : Int32))] d5_66 rfl rfl rfl ?_
            refine W.iloadN C d5_69 rfl ?_
            refine W.iconst C (2 : Int32) d5_70 rfl ?_
            refine W.iushr C d5_71 ?_
            refine W.istoreN C #[.val (.int ((((x).toUInt32 >>> ((8 : Int32) &&& 31).toUInt32).toInt32).toUInt32 >>> ((2 : Int32) &&& 31).toUInt32).toInt32), .val (.int (21 : Int32))] d5_72 rfl ?_
            refine W.iloadN C d5_73 rfl ?_
            refine W.iloadN C d5_74 rfl ?_
            refine W.iconst C (1 : Int32) d5_75 rfl ?_
            refine W.iushr C d5_76 ?_
            refine W.isub C d5_77 ?_
            exact W.iret C d5_78 (by simp) rfl (by decide) (by decide) ⟨by show some _ = some _; rw [own_nli, if_pos b1, if_pos b2, if_neg b3, if_pos b7, if_neg b8], rfl⟩
        · skip
          refine W.iinc C (19 : Int32) #[.val (.int ((x).toUInt32 >>> ((8 : Int32) &&& 31).toUInt32).toInt32), .val (.int (19 : Int32))] d5_54 rfl rfl rfl ?_
          refine W.iloadN C d5_57 rfl ?_
          refine W.iconst C (4 : Int32) d5_58 rfl ?_
          refine W.iushr C d5_59 ?_
          refine W.istoreN C #[.val (.int ((((x).toUInt32 >>> ((8 : Int32) &&& 31).toUInt32).toInt32).toUInt32 >>> ((4 : Int32) &&& 31).toUInt32).toInt32), .val (.int (19 : Int32))] d5_60 rfl ?_
          refine W.iloadN C d5_61 rfl ?_
          refine W.iconst C (4 : Int32) d5_62 rfl ?_
          refine W.icmp_lt C 73 d5_63 rfl (fun b9 => ?_) (fun b9 => ?_)
          · skip
            refine W.iloadN C d5_73 rfl ?_
            refine W.iloadN C d5_74 rfl ?_
            refine W.iconst C (1 : Int32) d5_75 rfl ?_
            refine W.iushr C d5_76 ?_
            refine W.isub C d5_77 ?_
            exact W.iret C d5_78 (by simp) rfl (by decide) (by decide) ⟨by show some _ = some _; rw [own_nli, if_pos b1, if_pos b2, if_neg b3, if_neg b7, if_pos b9], rfl⟩
          · skip
            refine W.iinc C (17 : Int32) #[.val (.int ((((x).toUInt32 >>> ((8 : Int32) &&& 31).toUInt32).toInt32).toUInt32 >>> ((4 : Int32) &&& 31).toUInt32).toInt32), .val (.int (17 : Int32))] d5_66 rfl rfl rfl ?_
            refine W.iloadN C d5_69 rfl ?_
            refine W.iconst C (2 : Int32) d5_70 rfl ?_
            refine W.iushr C d5_71 ?_
            refine W.istoreN C #[.val (.int ((((((x).toUInt32 >>> ((8 : Int32) &&& 31).toUInt32).toInt32).toUInt32 >>> ((4 : Int32) &&& 31).toUInt32).toInt32).toUInt32 >>> ((2 : Int32) &&& 31).toUInt32).toInt32), .val (.int (17 : Int32))] d5_72 rfl ?_
            refine W.iloadN C d5_73 rfl ?_
            refine W.iloadN C d5_74 rfl ?_
            refine W.iconst C (1 : Int32) d5_75 rfl ?_
            refine W.iushr C d5_76 ?_
            refine W.isub C d5_77 ?_
            exact W.iret C d5_78 (by simp) rfl (by decide) (by decide) ⟨by show some _ = some _; rw [own_nli, if_pos b1, if_pos b2, if_neg b3, if_neg b7, if_neg b9], rfl⟩
    · skip
      refine W.iinc C (15 : Int32) #[.val (.int x), .val (.int (15 : Int32))] d5_25 rfl rfl rfl ?_
      refine W.iloadN C d5_28 rfl ?_
      refine W.bipush C (16 : Int32) d5_29 rfl ?_
      refine W.iushr C d5_31 ?_
      refine W.istoreN C #[.val (.int ((x).toUInt32 >>> ((16 : Int32) &&& 31).toUInt32).toInt32), .val (.int (15 : Int32))] d5_32 rfl ?_
      refine W.iloadN C d5_33 rfl ?_
      refine W.sipush C (256 : Int32) d5_34 rfl ?_
      refine W.icmp_lt C 48 d5_37 rfl (fun b10 => ?_) (fun b10 => ?_)
      · skip
        refine W.iloadN C d5_48 rfl ?_
        refine W.bipush C (16 : Int32) d5_49 rfl ?_
        refine W.icmp_lt C 61 d5_51 rfl (fun b11 => ?_) (fun b11 => ?_)
        · skip
          refine W.iloadN C d5_61 rfl ?_
          refine W.iconst C (4 : Int32) d5_62 rfl ?_
          refine W.icmp_lt C 73 d5_63 rfl (fun b12 => ?_) (fun b12 => ?_)
          · skip
            refine W.iloadN C d5_73 rfl ?_
            refine W.iloadN C d5_74 rfl ?_
            refine W.iconst C (1 : Int32) d5_75 rfl ?_
            refine W.iushr C d5_76 ?_
            refine W.isub C d5_77 ?_
            exact W.iret C d5_78 (by simp) rfl (by decide) (by decide) ⟨by show some _ = some _; rw [own_nli, if_pos b1, if_neg b2, if_pos b10, if_pos b11, if_pos b12], rfl⟩
          · skip
            refine W.iinc C (13 : Int32) #[.val (.int ((x).toUInt32 >>> ((16 : Int32) &&& 31).toUInt32).toInt32), .val (.int (13 : Int32))] d5_66 rfl rfl rfl ?_
            refine W.iloadN C d5_69 rfl ?_
            refine W.iconst C (2 : Int32) d5_70 rfl ?_
            refine W.iushr C d5_71 ?_
            refine W.istoreN C #[.val (.int ((((x).toUInt32 >>> ((16 : Int32) &&& 31).toUInt32).toInt32).toUInt32 >>> ((2 : Int32) &&& 31).toUInt32).toInt32), .val (.int (13 : Int32))] d5_72 rfl ?_
            refine W.iloadN C d5_73 rfl ?_
            refine W.iloadN C d5_74 rfl ?_
            refine W.iconst C (1 : Int32) d5_75 rfl ?_
            refine W.iushr C d5_76 ?_
            refine W.isub C d5_77 ?_
            exact W.iret C d5_78 (by simp) rfl (by decide) (by decide) ⟨by show some _ = some _; rw [own_nli, if_pos b1, if_neg b2, if_pos b10, if_pos b11, if_neg b12], rfl⟩
        · skip
          refine W.iinc C (11 : Int32) #[.val (.int ((x).toUInt32 >>> ((16 : Int32) &&& 31).toUInt32).toInt32), .val (.int (11 : Int32))] d5_54 rfl rfl rfl ?_
          refine W.iloadN C d5_57 rfl ?_
          refine W.iconst C (4 : Int32) d5_58 rfl ?_
          refine W.iushr C d5_59 ?_
          refine W.istoreN C #[.val (.int ((((x).toUInt32 >>> ((16 : Int32) &&& 31).toUInt32).toInt32).toUInt32 >>> ((4 : Int32) &&& 31).toUInt32).toInt32), .val (.int (11 : Int32))] d5_60 rfl ?_
          refine W.iloadN C d5_61 rfl ?_
          refine W.iconst C (4 : Int32) d5_62 rfl ?_
          refine W.icmp_lt C 73 d5_63 rfl (fun b13 => ?_) (fun b13 => ?_)
          · skip
            refine W.iloadN C d5_73 rfl ?_
            refine W.iloadN C d5_74 rfl ?_
            refine W.iconst C (1 : Int32) d5_75 rfl ?_
            refine W.iushr C d5_76 ?_
            refine W.isub C d5_77 ?_
            exact W.iret C d5_78 (by simp) rfl (by decide) (by decide) ⟨by show some _ = some _; rw [own_nli, if_pos b1, if_neg b2, if_pos b10, if_neg b11, if_pos b13], rfl⟩
          · skip
            refine W.iinc C (9 : Int32) #[.val (.int ((((x).toUInt32 >>> ((16 : Int32) &&& 31).toUInt32).toInt32).toUInt32 >>> ((4 : Int32) &&& 31).toUInt32).toInt32), .val (.int (9 : Int32))] d5_66 rfl rfl rfl ?_
            refine W.iloadN C d5_69 rfl ?_
            refine W.iconst C (2 : Int32) d5_70 rfl ?_
            refine W.iushr C d5_71 ?_
            refine W.istoreN C #[.val (.int ((((((x).toUInt32 >>> ((16 : Int32) &&& 31).toUInt32).toInt32).toUInt32 >>> ((4 : Int32) &&& 31).toUInt32).toInt32).toUInt32 >>> ((2 : Int32) &&& 31).toUInt32).toInt32), .val (.int (9 : Int32))] d5_72 rfl ?_
            refine W.iloadN C d5_73 rfl ?_
            refine W.iloadN C d5_74 rfl ?_
            refine W.iconst C (1 : Int32) d5_75 rfl ?_
            refine W.iushr C d5_76 ?_
            refine W.isub C d5_77 ?_
            exact W.iret C d5_78 (by simp) rfl (by decide) (by decide) ⟨by show some _ = some _; rw [own_nli, if_pos b1, if_neg b2, if_pos b10, if_neg b11, if_neg b13], rfl⟩
      · skip
        refine W.iinc C (7 : Int32) #[.val (.int ((x).toUInt32 >>> ((16 : Int32) &&& 31).toUInt32).toInt32), .val (.int (7 : Int32))] d5_40 rfl rfl rfl ?_
        refine W.iloadN C d5_43 rfl ?_
        refine W.bipush C (8 : Int32) d5_44 rfl ?_
        refine W.iushr C d5_46 ?_
        refine W.istoreN C #[.val (.int ((((x).toUInt32 >>> ((16 : Int32) &&& 31).toUInt32).toInt32).toUInt32 >>> ((8 : Int32) &&& 31).toUInt32).toInt32), .val (.int (7 : Int32))] d5_47 rfl ?_
        refine W.iloadN C d5_48 rfl ?_
        refine W.bipush C (16 : Int32) d5_49 rfl ?_
        refine W.icmp_lt C 61 d5_51 rfl (fun b14 => ?_) (fun b14 => ?_)
        · skip
          refine W.iloadN C d5_61 rfl ?_
          refine W.iconst C (4 : Int32) d5_62 rfl ?_
          refine W.icmp_lt C 73 d5_63 rfl (fun b15 => ?_) (fun b15 => ?_)
          · skip
            refine W.iloadN C d5_73 rfl ?_
            refine W.iloadN C d5_74 rfl ?_
            refine W.iconst C (1 : Int32) d5_75 rfl ?_
            refine W.iushr C d5_76 ?_
            refine W.isub C d5_77 ?_
            exact W.iret C d5_78 (by simp) rfl (by decide) (by decide) ⟨by show some _ = some _; rw [own_nli, if_pos b1, if_neg b2, if_neg b10, if_pos b14, if_pos b15], rfl⟩
          · skip
            refine W.iinc C (5 : Int32) #[.val (.int ((((x).toUInt32 >>> ((16 : Int32) &&& 31).toUInt32).toInt32).toUInt32 >>> ((8 : Int32) &&& 31).toUInt32).toInt32), .val (.int (5 : Int32))] d5_66 rfl rfl rfl ?_
            refine W.iloadN C d5_69 rfl ?_
            refine W.iconst C (2 : Int32) d5_70 rfl ?_
            refine W.iushr C d5_71 ?_
            refine W.istoreN C #[.val (.int ((((((x).toUInt32 >>> ((16 : Int32) &&& 31).toUInt32).toInt32).toUInt32 >>> ((8 : Int32) &&& 31).toUInt32).toInt32).toUInt32 >>> ((2 : Int32) &&& 31).toUInt32).toInt32), .val (.int (5 : Int32))] d5_72 rfl ?_
            refine W.iloadN C d5_73 rfl ?_
            refine W.iloadN C d5_74 rfl ?_
            refine W.iconst C (1 : Int32) d5_75 rfl ?_
            refine W.iushr C d5_76 ?_
            refine W.isub C d5_77 ?_
            exact W.iret C d5_78 (by simp) rfl (by decide) (by decide) ⟨by show some _ = some _; rw [own_nli, if_pos b1, if_neg b2, if_neg b10, if_pos b14, if_neg b15], rfl⟩
        · skip
          refine W.iinc C (3 : Int32) #[.val (.int ((((x).toUInt32 >>> ((16 : Int32) &&& 31).toUInt32).toInt32).toUInt32 >>> ((8 : Int32) &&& 31).toUInt32).toInt32), .val (.int (3 : Int32))] d5_54 rfl rfl rfl ?_
          refine W.iloadN C d5_57 rfl ?_
          refine W.iconst C (4 : Int32) d5_58 rfl ?_
          refine W.iushr C d5_59 ?_
          refine W.istoreN C #[.val (.int ((((((x).toUInt32 >>> ((16 : Int32) &&& 31).toUInt32).toInt32).toUInt32 >>> ((8 : Int32) &&& 31).toUInt32).toInt32).toUInt32 >>> ((4 : Int32) &&& 31).toUInt32).toInt32), .val (.int (3 : Int32))] d5_60 rfl ?_
          refine W.iloadN C d5_61 rfl ?_
          refine W.iconst C (4 : Int32) d5_62 rfl ?_
          refine W.icmp_lt C 73 d5_63 rfl (fun b16 => ?_) (fun b16 => ?_)
          · skip
            refine W.iloadN C d5_73 rfl ?_
            refine W.iloadN C d5_74 rfl ?_
            refine W.iconst C (1 : Int32) d5_75 rfl ?_
            refine W.iushr C d5_76 ?_
            refine W.isub C d5_77 ?_
            exact W.iret C d5_78 (by simp) rfl (by decide) (by decide) ⟨by show some _ = some _; rw [own_nli, if_pos b1, if_neg b2, if_neg b10, if_neg b14, if_pos b16], rfl⟩
          · skip
            refine W.iinc C (1 : Int32) #[.val (.int ((((((x).toUInt32 >>> ((16 : Int32) &&& 31).toUInt32).toInt32).toUInt32 >>> ((8 : Int32) &&& 31).toUInt32).toInt32).toUInt32 >>> ((4 : Int32) &&& 31).toUInt32).toInt32), .val (.int (1 : Int32))] d5_66 rfl rfl rfl ?_
            refine W.iloadN C d5_69 rfl ?_
            refine W.iconst C (2 : Int32) d5_70 rfl ?_
            refine W.iushr C d5_71 ?_
            refine W.istoreN C #[.val (.int ((((((((x).toUInt32 >>> ((16 : Int32) &&& 31).toUInt32).toInt32).toUInt32 >>> ((8 : Int32) &&& 31).toUInt32).toInt32).toUInt32 >>> ((4 : Int32) &&& 31).toUInt32).toInt32).toUInt32 >>> ((2 : Int32) &&& 31).toUInt32).toInt32), .val (.int (1 : Int32))] d5_72 rfl ?_
            refine W.iloadN C d5_73 rfl ?_
            refine W.iloadN C d5_74 rfl ?_
            refine W.iconst C (1 : Int32) d5_75 rfl ?_
            refine W.iushr C d5_76 ?_
            refine W.isub C d5_77 ?_
            exact W.iret C d5_78 (by simp) rfl (by decide) (by decide) ⟨by show some _ = some _; rw [own_nli, if_pos b1, if_neg b2, if_neg b10, if_neg b14, if_neg b16], rfl⟩
  · skip
    refine W.iloadN C d5_4 rfl ?_
    refine W.if_ne C 13 d5_5 rfl (fun b17 => ?_) (fun b17 => ?_)
    · skip
      refine W.iconst C (0 : Int32) d5_13 rfl ?_
      exact W.iret C d5_14 (by simp) rfl (by decide) (by decide) ⟨by show some _ = some _; rw [own_nli, if_neg b1, if_neg b17], rfl⟩
    · skip
      refine W.bipush C (32 : Int32) d5_8 rfl ?_
      refine W.goto C 14 d5_10 rfl ?_
      exact W.iret C d5_14 (by simp) rfl (by decide) (by decide) ⟨by show some _ = some _; rw [own_nli, if_neg b1, if_pos b17], rfl⟩

abbrev y4 : MethodName := ⟨"java/lang/Long", "numberOfLeadingZeros", "(J)I"⟩
theorem d4_0 : decode jdk_35_method_48_code 0 = .ok (.lload_n 0, 1) := by decide +kernel
theorem d4_1 : decode jdk_35_method_48_code 1 = .ok (.bipush 32, 2) := by decide +kernel
theorem d4_3 : decode jdk_35_method_48_code 3 = .ok (.lushr, 1) := by decide +kernel
theorem d4_4 : decode jdk_35_method_48_code 4 = .ok (.l2i, 1) := by decide +kernel
theorem d4_5 : decode jdk_35_method_48_code 5 = .ok (.istore_n 2, 1) := by decide +kernel
theorem d4_6 : decode jdk_35_method_48_code 6 = .ok (.iload_n 2, 1) := by decide +kernel
theorem d4_7 : decode jdk_35_method_48_code 7 = .ok (.ifCond .ne 14, 3) := by decide +kernel
theorem d4_10 : decode jdk_35_method_48_code 10 = .ok (.bipush 32, 2) := by decide +kernel
theorem d4_12 : decode jdk_35_method_48_code 12 = .ok (.lload_n 0, 1) := by decide +kernel
theorem d4_13 : decode jdk_35_method_48_code 13 = .ok (.l2i, 1) := by decide +kernel
theorem d4_14 : decode jdk_35_method_48_code 14 = .ok (.invokestatic 308, 3) := by decide +kernel
theorem d4_17 : decode jdk_35_method_48_code 17 = .ok (.iadd, 1) := by decide +kernel
theorem d4_18 : decode jdk_35_method_48_code 18 = .ok (.goto 7, 3) := by decide +kernel
theorem d4_21 : decode jdk_35_method_48_code 21 = .ok (.iload_n 2, 1) := by decide +kernel
theorem d4_22 : decode jdk_35_method_48_code 22 = .ok (.invokestatic 308, 3) := by decide +kernel
theorem d4_25 : decode jdk_35_method_48_code 25 = .ok (.ireturn, 1) := by decide +kernel
theorem pf_4 : plainFor y4 = true := by first | exact plainFor_of_name (by first | (simp [plainName, overriddenIn]; done) | decide +kernel) | decide +kernel
theorem ef_4 (m : MethodId) (w : Int64) : entryFrame m #[(.long w)] 3 = mkF m 0 #[.val (.long w), .second, .unset] [] := by first | (simp [entryFrame, mkF, argsToLocals, Value.category]; done) | rfl
theorem pd_0 : parseMethodDescriptor "(I)I" = some ⟨[.int], some .int⟩ := by decide +kernel
def own_nll (w : Int64) : Int32 := if ((((w).toUInt64 >>> ((32 : Int32) &&& 0x3f).toInt64.toUInt64).toInt64).toInt32) = 0 then ((32 : Int32) + (own_nli ((w).toInt32))) else (own_nli ((((w).toUInt64 >>> ((32 : Int32) &&& 0x3f).toInt64.toUInt64).toInt64).toInt32))
set_option maxRecDepth 65536 in
set_option maxHeartbeats 40000000 in
theorem con_4 (l : Launch) (Z : State) (a0 : Array Value) (hw : ∀ d ∈ tables_1, d.before a0 Z = true) (h0 : Heap) (n0 : Nat) (w : Int64)   : Con l Z y4 jdk_35_method_48_code 3 (some .int) ({ frames := 1, cells := 0, slots := 0, locals := 14 } : Room) #[(.long w)] h0 n0 (Pu (some (.int (own_nll w))) h0) := by
  refine Con.of pf_4 (fun m => ef_4 m w) ?_
  intro p e s m below meth c C
  refine W.lloadN C d4_0 rfl ?_
  refine W.bipush C (32 : Int32) d4_1 rfl ?_
  refine W.lushr C d4_3 ?_
  refine W.l2i C d4_4 ?_
  refine W.istoreN C #[.val (.long w), .second, .val (.int ((((w).toUInt64 >>> ((32 : Int32) &&& 0x3f).toInt64.toUInt64).toInt64).toInt32))] d4_5 rfl ?_
  refine W.iloadN C d4_6 rfl ?_
  refine W.if_ne C 21 d4_7 rfl (fun b1 => ?_) (fun b1 => ?_)
  · skip
    refine W.iloadN C d4_21 rfl ?_
    refine W.callS C (y' := y5) d4_22 (tkw hw 22 rfl) (tkw hw 23 rfl) (tkw hw 24 rfl) (tkw hw 25 rfl) (by decide) (argsL := [(.int ((((w).toUInt64 >>> ((32 : Int32) &&& 0x3f).toInt64.toUInt64).toInt64).toInt32))]) (rest := []) rfl (lenOf pd_0 rfl) (con_5 l Z a0 hw h0 n0 ((((w).toUInt64 >>> ((32 : Int32) &&& 0x3f).toInt64.toUInt64).toInt64).toInt32)) 0 0 0 rfl rfl rfl (by decide) (by decide) (by decide) (by decide) rfl ?_
    rintro _ _ ⟨rfl, rfl⟩
    exact W.iret C d4_25 (by simp) rfl (by decide) (by decide) ⟨by show some _ = some _; rw [own_nll, if_neg b1], rfl⟩
  · skip
    refine W.bipush C (32 : Int32) d4_10 rfl ?_
    refine W.lloadN C d4_12 rfl ?_
    refine W.l2i C d4_13 ?_
    refine W.callS C (y' := y5) d4_14 (tkw hw 22 rfl) (tkw hw 23 rfl) (tkw hw 24 rfl) (tkw hw 25 rfl) (by decide) (argsL := [(.int ((w).toInt32))]) (rest := [(.int (32 : Int32))]) rfl (lenOf pd_0 rfl) (con_5 l Z a0 hw h0 n0 ((w).toInt32)) 1 0 0 rfl rfl rfl (by decide) (by decide) (by decide) (by decide) rfl ?_
    rintro _ _ ⟨rfl, rfl⟩
    refine W.iadd C d4_17 ?_
    refine W.goto C 25 d4_18 rfl ?_
    exact W.iret C d4_25 (by simp) rfl (by decide) (by decide) ⟨by show some _ = some _; rw [own_nll, if_pos b1], rfl⟩

abbrev y3 : MethodName := ⟨"java/lang/Long", "highestOneBit", "(J)J"⟩
theorem d3_0 : decode jdk_35_method_46_code 0 = .ok (.lload_n 0, 1) := by decide +kernel
theorem d3_1 : decode jdk_35_method_46_code 1 = .ok (.ldc2_w 168, 3) := by decide +kernel
theorem d3_4 : decode jdk_35_method_46_code 4 = .ok (.lload_n 0, 1) := by decide +kernel
theorem d3_5 : decode jdk_35_method_46_code 5 = .ok (.invokestatic 98, 3) := by decide +kernel
theorem d3_8 : decode jdk_35_method_46_code 8 = .ok (.lushr, 1) := by decide +kernel
theorem d3_9 : decode jdk_35_method_46_code 9 = .ok (.land, 1) := by decide +kernel
theorem d3_10 : decode jdk_35_method_46_code 10 = .ok (.lreturn, 1) := by decide +kernel
theorem pf_3 : plainFor y3 = true := by first | exact plainFor_of_name (by first | (simp [plainName, overriddenIn]; done) | decide +kernel) | decide +kernel
theorem ef_3 (m : MethodId) (w : Int64) : entryFrame m #[(.long w)] 2 = mkF m 0 #[.val (.long w), .second] [] := by first | (simp [entryFrame, mkF, argsToLocals, Value.category]; done) | rfl
theorem pd_1 : parseMethodDescriptor "(J)I" = some ⟨[.long], some .int⟩ := by decide +kernel
def own_hob (w : Int64) : Int64 := (w &&& (((-9223372036854775808 : Int64)).toUInt64 >>> ((own_nll w) &&& 0x3f).toInt64.toUInt64).toInt64)
set_option maxRecDepth 65536 in
set_option maxHeartbeats 40000000 in
theorem con_3 (l : Launch) (Z : State) (a0 : Array Value) (hw : ∀ d ∈ tables_1, d.before a0 Z = true) (h0 : Heap) (n0 : Nat) (w : Int64)   : Con l Z y3 jdk_35_method_46_code 2 (some .long) ({ frames := 2, cells := 0, slots := 0, locals := 32 } : Room) #[(.long w)] h0 n0 (Pu (some (.long (own_hob w))) h0) := by
  refine Con.of pf_3 (fun m => ef_3 m w) ?_
  intro p e s m below meth c C
  refine W.lloadN C d3_0 rfl ?_
  refine W.ldc2J C (v := (-9223372036854775808 : Int64)) d3_1 (tkw hw 18 rfl) ?_
  refine W.lloadN C d3_4 rfl ?_
  refine W.callS C (y' := y4) d3_5 (tkw hw 19 rfl) (tkw hw 20 rfl) (tkw hw 16 rfl) (tkw hw 21 rfl) (by decide) (argsL := [(.long w)]) (rest := [(.long (-9223372036854775808 : Int64)), (.long w)]) rfl (lenOf pd_1 rfl) (con_4 l Z a0 hw h0 n0 w) 4 0 0 rfl rfl rfl (by decide) (by decide) (by decide) (by decide) rfl ?_
  rintro _ _ ⟨rfl, rfl⟩
  refine W.lushr C d3_8 ?_
  refine W.land C d3_9 ?_
  exact W.lret C d3_10 rfl rfl (by decide) (by decide) ⟨by show some _ = some _; rw [own_hob], rfl⟩

abbrev y6 : MethodName := ⟨"java/lang/Math", "max", "(JJ)J"⟩
theorem d6_0 : decode jdk_29_method_66_code 0 = .ok (.lload_n 0, 1) := by decide +kernel
theorem d6_1 : decode jdk_29_method_66_code 1 = .ok (.lload_n 2, 1) := by decide +kernel
theorem d6_2 : decode jdk_29_method_66_code 2 = .ok (.lcmp, 1) := by decide +kernel
theorem d6_3 : decode jdk_29_method_66_code 3 = .ok (.ifCond .lt 7, 3) := by decide +kernel
theorem d6_6 : decode jdk_29_method_66_code 6 = .ok (.lload_n 0, 1) := by decide +kernel
theorem d6_7 : decode jdk_29_method_66_code 7 = .ok (.goto 4, 3) := by decide +kernel
theorem d6_10 : decode jdk_29_method_66_code 10 = .ok (.lload_n 2, 1) := by decide +kernel
theorem d6_11 : decode jdk_29_method_66_code 11 = .ok (.lreturn, 1) := by decide +kernel
theorem pf_6 : plainFor y6 = true := by first | exact plainFor_of_name (by first | (simp [plainName, overriddenIn]; done) | decide +kernel) | decide +kernel
theorem ef_6 (m : MethodId) (x : Int64) (y : Int64) : entryFrame m #[(.long x), (.long y)] 4 = mkF m 0 #[.val (.long x), .second, .val (.long y), .second] [] := by first | (simp [entryFrame, mkF, argsToLocals, Value.category]; done) | rfl
def own_max (x : Int64) (y : Int64) : Int64 := if x < y then y else x
set_option maxRecDepth 65536 in
set_option maxHeartbeats 40000000 in
theorem con_6 (l : Launch) (Z : State) (a0 : Array Value) (hw : ∀ d ∈ tables_1, d.before a0 Z = true) (h0 : Heap) (n0 : Nat) (x : Int64) (y : Int64)   : Con l Z y6 jdk_29_method_66_code 4 (some .long) ({ frames := 0, cells := 0, slots := 0, locals := 0 } : Room) #[(.long x), (.long y)] h0 n0 (Pu (some (.long (own_max x y))) h0) := by
  refine Con.of pf_6 (fun m => ef_6 m x y) ?_
  intro p e s m below meth c C
  refine W.lloadN C d6_0 rfl ?_
  refine W.lloadN C d6_1 rfl ?_
  refine W.lcmp C d6_2 ?_
  refine W.lif_lt C 10 d6_3 rfl (fun b1 => ?_) (fun b1 => ?_)
  · skip
    refine W.lloadN C d6_10 rfl ?_
    exact W.lret C d6_11 rfl rfl (by decide) (by decide) ⟨by show some _ = some _; rw [own_max, if_pos b1], rfl⟩
  · skip
    refine W.lloadN C d6_6 rfl ?_
    refine W.goto C 11 d6_7 rfl ?_
    exact W.lret C d6_11 rfl rfl (by decide) (by decide) ⟨by show some _ = some _; rw [own_max, if_neg b1], rfl⟩

abbrev y7 : MethodName := ⟨"java/lang/Math", "min", "(JJ)J"⟩
theorem d7_0 : decode jdk_29_method_70_code 0 = .ok (.lload_n 0, 1) := by decide +kernel
theorem d7_1 : decode jdk_29_method_70_code 1 = .ok (.lload_n 2, 1) := by decide +kernel
theorem d7_2 : decode jdk_29_method_70_code 2 = .ok (.lcmp, 1) := by decide +kernel
theorem d7_3 : decode jdk_29_method_70_code 3 = .ok (.ifCond .gt 7, 3) := by decide +kernel
theorem d7_6 : decode jdk_29_method_70_code 6 = .ok (.lload_n 0, 1) := by decide +kernel
theorem d7_7 : decode jdk_29_method_70_code 7 = .ok (.goto 4, 3) := by decide +kernel
theorem d7_10 : decode jdk_29_method_70_code 10 = .ok (.lload_n 2, 1) := by decide +kernel
theorem d7_11 : decode jdk_29_method_70_code 11 = .ok (.lreturn, 1) := by decide +kernel
theorem pf_7 : plainFor y7 = true := by first | exact plainFor_of_name (by first | (simp [plainName, overriddenIn]; done) | decide +kernel) | decide +kernel
theorem ef_7 (m : MethodId) (x : Int64) (y : Int64) : entryFrame m #[(.long x), (.long y)] 4 = mkF m 0 #[.val (.long x), .second, .val (.long y), .second] [] := by first | (simp [entryFrame, mkF, argsToLocals, Value.category]; done) | rfl
def own_min (x : Int64) (y : Int64) : Int64 := if y < x then y else x
set_option maxRecDepth 65536 in
set_option maxHeartbeats 40000000 in
theorem con_7 (l : Launch) (Z : State) (a0 : Array Value) (hw : ∀ d ∈ tables_1, d.before a0 Z = true) (h0 : Heap) (n0 : Nat) (x : Int64) (y : Int64)   : Con l Z y7 jdk_29_method_70_code 4 (some .long) ({ frames := 0, cells := 0, slots := 0, locals := 0 } : Room) #[(.long x), (.long y)] h0 n0 (Pu (some (.long (own_min x y))) h0) := by
  refine Con.of pf_7 (fun m => ef_7 m x y) ?_
  intro p e s m below meth c C
  refine W.lloadN C d7_0 rfl ?_
  refine W.lloadN C d7_1 rfl ?_
  refine W.lcmp C d7_2 ?_
  refine W.lif_gt C 10 d7_3 rfl (fun b1 => ?_) (fun b1 => ?_)
  · skip
    refine W.lloadN C d7_10 rfl ?_
    exact W.lret C d7_11 rfl rfl (by decide) (by decide) ⟨by show some _ = some _; rw [own_min, if_pos b1], rfl⟩
  · skip
    refine W.lloadN C d7_6 rfl ?_
    refine W.goto C 11 d7_7 rfl ?_
    exact W.lret C d7_11 rfl rfl (by decide) (by decide) ⟨by show some _ = some _; rw [own_min, if_neg b1], rfl⟩

abbrev y10 : MethodName := ⟨"rollfind/FilterAddPinLaw", "same", "(JJJ)Z"⟩
theorem d10_0 : decode method_2_code 0 = .ok (.lload_n 0, 1) := by decide +kernel
theorem d10_1 : decode method_2_code 1 = .ok (.lload 4, 2) := by decide +kernel
theorem d10_3 : decode method_2_code 3 = .ok (.land, 1) := by decide +kernel
theorem d10_4 : decode method_2_code 4 = .ok (.lload_n 2, 1) := by decide +kernel
theorem d10_5 : decode method_2_code 5 = .ok (.lload 4, 2) := by decide +kernel
theorem d10_7 : decode method_2_code 7 = .ok (.land, 1) := by decide +kernel
theorem d10_8 : decode method_2_code 8 = .ok (.lcmp, 1) := by decide +kernel
theorem d10_9 : decode method_2_code 9 = .ok (.ifCond .ne 7, 3) := by decide +kernel
theorem d10_12 : decode method_2_code 12 = .ok (.iconst 1, 1) := by decide +kernel
theorem d10_13 : decode method_2_code 13 = .ok (.goto 4, 3) := by decide +kernel
theorem d10_16 : decode method_2_code 16 = .ok (.iconst 0, 1) := by decide +kernel
theorem d10_17 : decode method_2_code 17 = .ok (.ireturn, 1) := by decide +kernel
theorem pf_10 : plainFor y10 = true := by first | exact plainFor_of_name (by first | (simp [plainName, overriddenIn]; done) | decide +kernel) | decide +kernel
theorem ef_10 (m : MethodId) (x : Int64) (y : Int64) (mm : Int64) : entryFrame m #[(.long x), (.long y), (.long mm)] 6 = mkF m 0 #[.val (.long x), .second, .val (.long y), .second, .val (.long mm), .second] [] := by first | (simp [entryFrame, mkF, argsToLocals, Value.category]; done) | rfl
def own_same (x : Int64) (y : Int64) (mm : Int64) : Int32 := if (x &&& mm) = (y &&& mm) then (1 : Int32) else (0 : Int32)
set_option maxRecDepth 65536 in
set_option maxHeartbeats 40000000 in
theorem con_10 (l : Launch) (Z : State) (a0 : Array Value) (hw : ∀ d ∈ tables_1, d.before a0 Z = true) (h0 : Heap) (n0 : Nat) (x : Int64) (y : Int64) (mm : Int64)   : Con l Z y10 method_2_code 6 (some .boolean) ({ frames := 0, cells := 0, slots := 0, locals := 0 } : Room) #[(.long x), (.long y), (.long mm)] h0 n0 (Pu (some (.int (own_same x y mm))) h0) := by
  refine Con.of pf_10 (fun m => ef_10 m x y mm) ?_
  intro p e s m below meth c C
  refine W.lloadN C d10_0 rfl ?_
  refine W.lload C d10_1 rfl ?_
  refine W.land C d10_3 ?_
  refine W.lloadN C d10_4 rfl ?_
  refine W.lload C d10_5 rfl ?_
  refine W.land C d10_7 ?_
  refine W.lcmp C d10_8 ?_
  refine W.lif_ne C 16 d10_9 rfl (fun b1 => ?_) (fun b1 => ?_)
  · skip
    refine W.iconst C (0 : Int32) d10_16 rfl ?_
    exact W.iret C d10_17 (by simp) rfl (by decide) (by decide) ⟨by show some _ = some _; rw [own_same, if_neg b1], rfl⟩
  · skip
    refine W.iconst C (1 : Int32) d10_12 rfl ?_
    refine W.goto C 17 d10_13 rfl ?_
    exact W.iret C d10_17 (by simp) rfl (by decide) (by decide) ⟨by show some _ = some _; rw [own_same, if_pos b1], rfl⟩

theorem own_N (w : Int64) : w.toInt % 18446744073709551616 = (w.toBitVec.toNat : Int) := by
  show w.toBitVec.toInt % _ = _
  rw [BitVec.toInt_eq_toNat_cond]
  have := w.toBitVec.isLt
  split <;> omega
theorem own_sh (p : Int64) (q : Int32) (k : Nat) (hk : q.toBitVec.toNat % 64 = k) : (((p).toUInt64 >>> (q &&& 0x3f).toInt64.toUInt64).toInt64).toBitVec.toNat = p.toBitVec.toNat / 2 ^ k := by
  have s := sm64 q k hk
  have e : (q &&& 0x3f).toInt64.toUInt64.toBitVec = BitVec.ofNat 64 k := s.1
  show (((p).toUInt64 >>> (q &&& 0x3f).toInt64.toUInt64)).toBitVec.toNat = _
  rw [UInt64.toBitVec_shiftRight, e]
  have h : (BitVec.ofNat 64 k % 64).toNat = k := by
    rw [BitVec.toNat_umod]
    simp
    omega
  rw [BitVec.ushiftRight_eq', h, BitVec.toNat_ushiftRight, Nat.shiftRight_eq_div_pow]
  rfl
theorem own_tabP : ∀ v : Fin 1024, own_max 64 (own_hob (Int64.ofNat v.val)) = (if 512 ≤ v.val then 512 else if 256 ≤ v.val then 256 else if 128 ≤ v.val then 128 else 64 : Int64) := by decide +kernel
theorem own_tabM : ∀ v : Fin 70, own_max 64 (own_hob (Int64.ofInt (-(v.val : Int) - 1))) = 64 := by decide +kernel
theorem own_hP (x : Int64) (h0 : 0 ≤ x.toInt) (h1 : x.toInt < 1024) : own_max 64 (own_hob x) = (if 512 ≤ x.toInt then 512 else if 256 ≤ x.toInt then 256 else if 128 ≤ x.toInt then 128 else 64 : Int64) := by
  have e : x = Int64.ofNat x.toInt.toNat := Int64.toInt_inj.mp (by rw [Int64.toInt_ofNat_of_lt (by omega)]; omega)
  have t := own_tabP ⟨x.toInt.toNat, by omega⟩
  rw [← show x = Int64.ofNat x.toInt.toNat from e] at t
  rw [t]
  show (if 512 ≤ x.toInt.toNat then _ else _) = _
  have e1 : (512 ≤ x.toInt.toNat) = (512 ≤ x.toInt) := by apply propext; omega
  have e2 : (256 ≤ x.toInt.toNat) = (256 ≤ x.toInt) := by apply propext; omega
  have e3 : (128 ≤ x.toInt.toNat) = (128 ≤ x.toInt) := by apply propext; omega
  simp only [e1, e2, e3]
theorem own_hM (x : Int64) (h0 : x.toInt < 0) (h1 : -70 ≤ x.toInt) : own_max 64 (own_hob x) = 64 := by
  have t := own_tabM ⟨(-x.toInt - 1).toNat, by omega⟩
  have e : x = Int64.ofInt (-(((-x.toInt - 1).toNat : Nat) : Int) - 1) := by
    have : (-(((-x.toInt - 1).toNat : Nat) : Int) - 1) = x.toInt := by omega
    rw [this, Int64.ofInt_toInt]
  rw [← show x = Int64.ofInt (-(((-x.toInt - 1).toNat : Nat) : Int) - 1) from e] at t
  exact t
theorem own_minv {mw : Int64} {N : Nat} (h : mw.toInt = (N : Int)) (h2 : N ≤ 512) : own_min 2147483647 mw = mw := by
  have e : (2147483647 : Int64).toInt = 2147483647 := by decide
  unfold own_min
  simp only [Int64.lt_iff_toInt_lt, e]
  first | rw [if_pos (by omega)] | rw [if_neg (by omega)]
theorem own_l2iN {mw : Int64} {N : Nat} (h : mw.toInt = (N : Int)) (h2 : N ≤ 512) : mw.toInt32.toInt = (N : Int) := by
  have a := c_l2i mw
  have r := rng32 mw.toInt32
  omega
theorem own_at {bs : List Int64} {i : Nat} (h : i < bs.length) : (bs.map Value.long)[i]? = some (.long (bs.getD i 0)) := by
  simp [List.getElem?_map, List.getD_eq_getElem?_getD, List.getElem?_eq_getElem h]
def own_pv (Ls : List Int64) (ix : Nat) (g : Int64) : Int32 := ((((Ls.getD ix 0).toUInt64 >>> (g.toInt32 &&& 0x3f).toInt64.toUInt64).toInt64).toInt32) &&& (1 : Int32)
def own_ad (Ls : List Int64) (ix : Nat) (f : Int64) : List Int64 := Ls.set ix (Ls.getD ix 0 ||| ((1 : Int64) <<< (f.toInt32 &&& 0x3f).toInt64))
abbrev y1 : MethodName := ⟨"rollfind/Filter", "<init>", "(I)V"⟩
theorem d1_0 : decode prog_7_method_1_code 0 = .ok (.aload_n 0, 1) := by decide +kernel
theorem d1_1 : decode prog_7_method_1_code 1 = .ok (.invokespecial 1, 3) := by decide +kernel
theorem d1_4 : decode prog_7_method_1_code 4 = .ok (.ldc2_w 11, 3) := by decide +kernel
theorem d1_7 : decode prog_7_method_1_code 7 = .ok (.ldc2_w 13, 3) := by decide +kernel
theorem d1_10 : decode prog_7_method_1_code 10 = .ok (.iload_n 1, 1) := by decide +kernel
theorem d1_11 : decode prog_7_method_1_code 11 = .ok (.i2l, 1) := by decide +kernel
theorem d1_12 : decode prog_7_method_1_code 12 = .ok (.lmul, 1) := by decide +kernel
theorem d1_13 : decode prog_7_method_1_code 13 = .ok (.lconst 1, 1) := by decide +kernel
theorem d1_14 : decode prog_7_method_1_code 14 = .ok (.lsub, 1) := by decide +kernel
theorem d1_15 : decode prog_7_method_1_code 15 = .ok (.invokestatic 15, 3) := by decide +kernel
theorem d1_18 : decode prog_7_method_1_code 18 = .ok (.invokestatic 19, 3) := by decide +kernel
theorem d1_21 : decode prog_7_method_1_code 21 = .ok (.lstore_n 2, 1) := by decide +kernel
theorem d1_22 : decode prog_7_method_1_code 22 = .ok (.aload_n 0, 1) := by decide +kernel
theorem d1_23 : decode prog_7_method_1_code 23 = .ok (.ldc2_w 27, 3) := by decide +kernel
theorem d1_26 : decode prog_7_method_1_code 26 = .ok (.lload_n 2, 1) := by decide +kernel
theorem d1_27 : decode prog_7_method_1_code 27 = .ok (.invokestatic 29, 3) := by decide +kernel
theorem d1_30 : decode prog_7_method_1_code 30 = .ok (.l2i, 1) := by decide +kernel
theorem d1_31 : decode prog_7_method_1_code 31 = .ok (.newarray .long, 2) := by decide +kernel
theorem d1_33 : decode prog_7_method_1_code 33 = .ok (.putfield 32, 3) := by decide +kernel
theorem d1_36 : decode prog_7_method_1_code 36 = .ok (.aload_n 0, 1) := by decide +kernel
theorem d1_37 : decode prog_7_method_1_code 37 = .ok (.ldc2_w 11, 3) := by decide +kernel
theorem d1_40 : decode prog_7_method_1_code 40 = .ok (.aload_n 0, 1) := by decide +kernel
theorem d1_41 : decode prog_7_method_1_code 41 = .ok (.getfield 32, 3) := by decide +kernel
theorem d1_44 : decode prog_7_method_1_code 44 = .ok (.arraylength, 1) := by decide +kernel
theorem d1_45 : decode prog_7_method_1_code 45 = .ok (.i2l, 1) := by decide +kernel
theorem d1_46 : decode prog_7_method_1_code 46 = .ok (.lmul, 1) := by decide +kernel
theorem d1_47 : decode prog_7_method_1_code 47 = .ok (.lconst 1, 1) := by decide +kernel
theorem d1_48 : decode prog_7_method_1_code 48 = .ok (.lsub, 1) := by decide +kernel
theorem d1_49 : decode prog_7_method_1_code 49 = .ok (.putfield 36, 3) := by decide +kernel
theorem d1_52 : decode prog_7_method_1_code 52 = .ok (.return_, 1) := by decide +kernel
theorem pf_1 : plainFor y1 = true := by first | exact plainFor_of_name (by first | (simp [plainName, overriddenIn]; done) | decide +kernel) | decide +kernel
theorem ef_1 (m : MethodId) (a1 : Addr) (x1 : Int32) : entryFrame m #[(.ref a1), (.int x1)] 4 = mkF m 0 #[.val (.ref a1), .val (.int x1), .unset, .unset] [] := by first | (simp [entryFrame, mkF, argsToLocals, Value.category]; done) | rfl
theorem pd_2 : parseMethodDescriptor "()V" = some ⟨[], none⟩ := by decide +kernel
theorem pd_3 : parseMethodDescriptor "(J)J" = some ⟨[.long], some .long⟩ := by decide +kernel
theorem pd_4 : parseMethodDescriptor "(JJ)J" = some ⟨[.long, .long], some .long⟩ := by decide +kernel
set_option maxRecDepth 65536 in
set_option maxHeartbeats 40000000 in
theorem con_1 (l : Launch) (Z : State) (a0 : Array Value) (hw : ∀ d ∈ tables_1, d.before a0 Z = true) (h0 : Heap) (n0 : Nat) (a1 : Addr) (x1 : Int32) (u0 u1 : Value) (mw : Int64) (N : Nat) (hW : own_max (64 : Int64) (own_hob (((2 : Int64) * ((x1).toInt64)) - (1 : Int64))) = mw) (hN : mw.toInt = (N : Int)) (hN2 : N ≤ 512) (E_a1 : Exa Z h0 a1 "rollfind/Filter") (g_a1 : n0 ≤ a1) (F0 : Fld Z h0 a1 "rollfind/Filter" "bits" "[J" u0) (F1 : Fld Z h0 a1 "rollfind/Filter" "mask" "J" u1) (Z0 : n0 ≤ h0.size) : Con l Z y1 prog_7_method_1_code 4 none ({ frames := 3, cells := 1, slots := 512, locals := 47 } : Room) #[(.ref a1), (.int x1)] h0 n0 (fun v h => v = none ∧ Keep h0 h [a1] ∧ Exa Z h a1 "rollfind/Filter" ∧ ∃ ab : Addr, h0.size ≤ ab ∧ Fld Z h a1 "rollfind/Filter" "bits" "[J" (.ref ab) ∧ Fld Z h a1 "rollfind/Filter" "mask" "J" (.long (((64 : Int64) * (mw.toInt32).toInt64) - (1 : Int64))) ∧ Al Z h ab .long ((List.replicate N (0 : Int64)).map Value.long)) := by
  refine Con.of pf_1 (fun m => ef_1 m a1 x1) ?_
  intro p e s m below meth c C
  have K0 : Keep h0 h0 [a1] := Keep.refl _ _
  refine W.aloadN C d1_0 rfl rfl ?_
  refine W.initO C d1_1 (tkw hw 9 rfl) (tkw hw 10 rfl) (tkw hw 11 rfl) 0 rfl (by decide) (by decide) rfl ?_
  refine W.ldc2J C (v := (64 : Int64)) d1_4 (tkw hw 12 rfl) ?_
  refine W.ldc2J C (v := (2 : Int64)) d1_7 (tkw hw 13 rfl) ?_
  refine W.iloadN C d1_10 rfl ?_
  refine W.i2l C d1_11 ?_
  refine W.lmul C d1_12 ?_
  refine W.lconst C (1 : Int64) d1_13 rfl ?_
  refine W.lsub C d1_14 ?_
  refine W.callS C (y' := y3) d1_15 (tkw hw 14 rfl) (tkw hw 15 rfl) (tkw hw 16 rfl) (tkw hw 17 rfl) (by decide) (argsL := [(.long (((2 : Int64) * ((x1).toInt64)) - (1 : Int64)))]) (rest := [(.long (64 : Int64))]) rfl (lenOf pd_3 rfl) (con_3 l Z a0 hw h0 n0 (((2 : Int64) * ((x1).toInt64)) - (1 : Int64))) 2 0 0 rfl rfl rfl (by decide) (by decide) (by decide) (by decide) rfl ?_
  rintro _ _ ⟨rfl, rfl⟩
  refine W.callS C (y' := y6) d1_18 (tkw hw 27 rfl) (tkw hw 28 rfl) (tkw hw 29 rfl) (tkw hw 30 rfl) (by decide) (argsL := [(.long (64 : Int64)), (.long (own_hob (((2 : Int64) * ((x1).toInt64)) - (1 : Int64))))]) (rest := []) rfl (lenOf pd_4 rfl) (con_6 l Z a0 hw h0 n0 (64 : Int64) (own_hob (((2 : Int64) * ((x1).toInt64)) - (1 : Int64)))) 0 0 0 rfl rfl rfl (by decide) (by decide) (by decide) (by decide) rfl ?_
  rintro _ _ ⟨rfl, rfl⟩
  rw [hW]
  refine W.lstoreN C #[.val (.ref a1), .val (.int x1), .val (.long mw), .second] d1_21 rfl ?_
  refine W.aloadN C d1_22 rfl rfl ?_
  refine W.ldc2J C (v := (2147483647 : Int64)) d1_23 (tkw hw 31 rfl) ?_
  refine W.lloadN C d1_26 rfl ?_
  refine W.callS C (y' := y7) d1_27 (tkw hw 32 rfl) (tkw hw 33 rfl) (tkw hw 29 rfl) (tkw hw 34 rfl) (by decide) (argsL := [(.long (2147483647 : Int64)), (.long mw)]) (rest := [(.ref a1)]) rfl (lenOf pd_4 rfl) (con_7 l Z a0 hw h0 n0 (2147483647 : Int64) mw) 1 0 0 rfl rfl rfl (by decide) (by decide) (by decide) (by decide) rfl ?_
  rintro _ _ ⟨rfl, rfl⟩
  rw [own_minv hN hN2]
  refine W.l2i C d1_30 ?_
  refine W.newP C N 512 d1_31 (tkw hw 35 rfl) (own_l2iN hN hN2) hN2 (by decide) 1 512 rfl rfl (by decide) (by decide) ?_
  intro ob1 hp2 hob1 Eob1 Lob1
  have ne_a1_ob1 : a1 ≠ ob1 := Nat.ne_of_lt (by rw [hob1]; exact E_a1.lt)
  have ge_ob1 : n0 ≤ ob1 := by rw [hob1]; exact Z0
  have sz_ob1 : h0.size ≤ ob1 := by rw [hob1]; exact K0.1
  replace E_a1 := E_a1.ext Eob1
  replace F0 := F0.ext Eob1
  replace F1 := F1.ext Eob1
  replace Z0 := Nat.le_trans Z0 Eob1.1
  replace K0 := K0.ext Eob1
  replace Lob1 : Al Z hp2 ob1 .long (List.replicate N (Value.long 0)) := Lob1
  refine W.putF C d1_33 (tkw hw 36 rfl) Via.refl F0 E_a1 (Or.inr ⟨(tkw hw 37 rfl), rfl, rfl⟩) (tkw hw 4 rfl) (ty := (.array .long)) (by decide) rfl rfl g_a1 ?_
  intro hp3 U4
  replace F0 := F0.same U4
  replace E_a1 := E_a1.wr U4
  replace F1 := F1.other U4 (Or.inr (slot_ne (Or.inr (tkw hw 39 rfl)) (Or.inr (tkw hw 37 rfl)) (by decide) (t := .long) (t' := (.array .long)) (by decide) (by decide)))
  replace Z0 := Nat.le_trans Z0 (Nat.le_of_eq (U4.size).symm)
  replace K0 := K0.wr U4 (Or.inl (List.mem_of_getElem? (i := 0) rfl))
  replace Lob1 := Lob1.other U4 (Ne.symm ne_a1_ob1)
  refine W.aloadN C d1_36 rfl rfl ?_
  refine W.ldc2J C (v := (64 : Int64)) d1_37 (tkw hw 12 rfl) ?_
  refine W.aloadN C d1_40 rfl rfl ?_
  refine W.getF C d1_41 (tkw hw 36 rfl) Via.refl F0 ?_
  refine W.arrlen C mw.toInt32 d1_44 Lob1 (by rw [List.length_replicate]; exact Int32.toInt_inj.mp (by rw [len_toInt (by omega), own_l2iN hN hN2])) ?_
  refine W.i2l C d1_45 ?_
  refine W.lmul C d1_46 ?_
  refine W.lconst C (1 : Int64) d1_47 rfl ?_
  refine W.lsub C d1_48 ?_
  refine W.putF C d1_49 (tkw hw 38 rfl) Via.refl F1 E_a1 (Or.inr ⟨(tkw hw 39 rfl), rfl, rfl⟩) (tkw hw 4 rfl) (ty := .long) (by decide) rfl rfl g_a1 ?_
  intro hp5 U6
  replace F1 := F1.same U6
  replace E_a1 := E_a1.wr U6
  replace F0 := F0.other U6 (Or.inr (slot_ne (Or.inr (tkw hw 37 rfl)) (Or.inr (tkw hw 39 rfl)) (by decide) (t := (.array .long)) (t' := .long) (by decide) (by decide)))
  replace Z0 := Nat.le_trans Z0 (Nat.le_of_eq (U6.size).symm)
  replace K0 := K0.wr U6 (Or.inl (List.mem_of_getElem? (i := 0) rfl))
  replace Lob1 := Lob1.other U6 (Ne.symm ne_a1_ob1)
  exact W.retV C d1_52 (by decide) (by decide) ⟨rfl, K0, E_a1, ob1, sz_ob1, F0, F1, by rw [List.map_replicate]; exact Lob1⟩

abbrev y8 : MethodName := ⟨"rollfind/Filter", "passes", "(J)I"⟩
theorem d8_0 : decode prog_7_method_3_code 0 = .ok (.aload_n 0, 1) := by decide +kernel
theorem d8_1 : decode prog_7_method_3_code 1 = .ok (.getfield 32, 3) := by decide +kernel
theorem d8_4 : decode prog_7_method_3_code 4 = .ok (.lload_n 1, 1) := by decide +kernel
theorem d8_5 : decode prog_7_method_3_code 5 = .ok (.aload_n 0, 1) := by decide +kernel
theorem d8_6 : decode prog_7_method_3_code 6 = .ok (.getfield 36, 3) := by decide +kernel
theorem d8_9 : decode prog_7_method_3_code 9 = .ok (.land, 1) := by decide +kernel
theorem d8_10 : decode prog_7_method_3_code 10 = .ok (.bipush 6, 2) := by decide +kernel
theorem d8_12 : decode prog_7_method_3_code 12 = .ok (.lushr, 1) := by decide +kernel
theorem d8_13 : decode prog_7_method_3_code 13 = .ok (.l2i, 1) := by decide +kernel
theorem d8_14 : decode prog_7_method_3_code 14 = .ok (.laload, 1) := by decide +kernel
theorem d8_15 : decode prog_7_method_3_code 15 = .ok (.lload_n 1, 1) := by decide +kernel
theorem d8_16 : decode prog_7_method_3_code 16 = .ok (.l2i, 1) := by decide +kernel
theorem d8_17 : decode prog_7_method_3_code 17 = .ok (.lushr, 1) := by decide +kernel
theorem d8_18 : decode prog_7_method_3_code 18 = .ok (.l2i, 1) := by decide +kernel
theorem d8_19 : decode prog_7_method_3_code 19 = .ok (.iconst 1, 1) := by decide +kernel
theorem d8_20 : decode prog_7_method_3_code 20 = .ok (.iand, 1) := by decide +kernel
theorem d8_21 : decode prog_7_method_3_code 21 = .ok (.ireturn, 1) := by decide +kernel
theorem pf_8 : plainFor y8 = true := by first | exact plainFor_of_name (by first | (simp [plainName, overriddenIn]; done) | decide +kernel) | decide +kernel
theorem ef_8 (m : MethodId) (a1 : Addr) (q1 : Int64) : entryFrame m #[(.ref a1), (.long q1)] 3 = mkF m 0 #[.val (.ref a1), .val (.long q1), .second] [] := by first | (simp [entryFrame, mkF, argsToLocals, Value.category]; done) | rfl
set_option maxRecDepth 65536 in
set_option maxHeartbeats 40000000 in
theorem con_8 (l : Launch) (Z : State) (a0 : Array Value) (hw : ∀ d ∈ tables_1, d.before a0 Z = true) (h0 : Heap) (n0 : Nat) (a1 : Addr) (q1 : Int64) (ab : Addr) (mk : Int64) (Ls : List Int64) (ix : Nat) (hix : (((((q1 &&& mk)).toUInt64 >>> ((6 : Int32) &&& 0x3f).toInt64.toUInt64).toInt64).toInt32).toInt = (ix : Int)) (hlt : ix < Ls.length) (F0 : Fld Z h0 a1 "rollfind/Filter" "bits" "[J" (.ref ab)) (F1 : Fld Z h0 a1 "rollfind/Filter" "mask" "J" (.long mk)) (L1 : Al Z h0 ab .long (Ls.map Value.long)) (Z0 : n0 ≤ h0.size) : Con l Z y8 prog_7_method_3_code 3 (some .int) ({ frames := 0, cells := 0, slots := 0, locals := 0 } : Room) #[(.ref a1), (.long q1)] h0 n0 (Pu (some (.int (own_pv Ls ix q1))) h0) := by
  refine Con.of pf_8 (fun m => ef_8 m a1 q1) ?_
  intro p e s m below meth c C
  refine W.aloadN C d8_0 rfl rfl ?_
  refine W.getF C d8_1 (tkw hw 36 rfl) Via.refl F0 ?_
  refine W.lloadN C d8_4 rfl ?_
  refine W.aloadN C d8_5 rfl rfl ?_
  refine W.getF C d8_6 (tkw hw 38 rfl) Via.refl F1 ?_
  refine W.land C d8_9 ?_
  refine W.bipush C (6 : Int32) d8_10 rfl ?_
  refine W.lushr C d8_12 ?_
  refine W.l2i C d8_13 ?_
  refine W.laload C ix d8_14 L1 hix (own_at hlt) ?_
  refine W.lloadN C d8_15 rfl ?_
  refine W.l2i C d8_16 ?_
  refine W.lushr C d8_17 ?_
  refine W.l2i C d8_18 ?_
  refine W.iconst C (1 : Int32) d8_19 rfl ?_
  refine W.iand C d8_20 ?_
  exact W.iret C d8_21 (by simp) rfl (by decide) (by decide) ⟨rfl, rfl⟩

abbrev y9 : MethodName := ⟨"rollfind/Filter", "add", "(J)V"⟩
theorem d9_0 : decode prog_7_method_2_code 0 = .ok (.lload_n 1, 1) := by decide +kernel
theorem d9_1 : decode prog_7_method_2_code 1 = .ok (.aload_n 0, 1) := by decide +kernel
theorem d9_2 : decode prog_7_method_2_code 2 = .ok (.getfield 36, 3) := by decide +kernel
theorem d9_5 : decode prog_7_method_2_code 5 = .ok (.land, 1) := by decide +kernel
theorem d9_6 : decode prog_7_method_2_code 6 = .ok (.lstore_n 3, 1) := by decide +kernel
theorem d9_7 : decode prog_7_method_2_code 7 = .ok (.aload_n 0, 1) := by decide +kernel
theorem d9_8 : decode prog_7_method_2_code 8 = .ok (.getfield 32, 3) := by decide +kernel
theorem d9_11 : decode prog_7_method_2_code 11 = .ok (.lload_n 3, 1) := by decide +kernel
theorem d9_12 : decode prog_7_method_2_code 12 = .ok (.bipush 6, 2) := by decide +kernel
theorem d9_14 : decode prog_7_method_2_code 14 = .ok (.lushr, 1) := by decide +kernel
theorem d9_15 : decode prog_7_method_2_code 15 = .ok (.l2i, 1) := by decide +kernel
theorem d9_16 : decode prog_7_method_2_code 16 = .ok (.dup2, 1) := by decide +kernel
theorem d9_17 : decode prog_7_method_2_code 17 = .ok (.laload, 1) := by decide +kernel
theorem d9_18 : decode prog_7_method_2_code 18 = .ok (.lconst 1, 1) := by decide +kernel
theorem d9_19 : decode prog_7_method_2_code 19 = .ok (.lload_n 3, 1) := by decide +kernel
theorem d9_20 : decode prog_7_method_2_code 20 = .ok (.l2i, 1) := by decide +kernel
theorem d9_21 : decode prog_7_method_2_code 21 = .ok (.lshl, 1) := by decide +kernel
theorem d9_22 : decode prog_7_method_2_code 22 = .ok (.lor, 1) := by decide +kernel
theorem d9_23 : decode prog_7_method_2_code 23 = .ok (.lastore, 1) := by decide +kernel
theorem d9_24 : decode prog_7_method_2_code 24 = .ok (.return_, 1) := by decide +kernel
theorem pf_9 : plainFor y9 = true := by first | exact plainFor_of_name (by first | (simp [plainName, overriddenIn]; done) | decide +kernel) | decide +kernel
theorem ef_9 (m : MethodId) (a1 : Addr) (q1 : Int64) : entryFrame m #[(.ref a1), (.long q1)] 5 = mkF m 0 #[.val (.ref a1), .val (.long q1), .second, .unset, .unset] [] := by first | (simp [entryFrame, mkF, argsToLocals, Value.category]; done) | rfl
set_option maxRecDepth 65536 in
set_option maxHeartbeats 40000000 in
theorem con_9 (l : Launch) (Z : State) (a0 : Array Value) (hw : ∀ d ∈ tables_1, d.before a0 Z = true) (h0 : Heap) (n0 : Nat) (a1 : Addr) (q1 : Int64) (ab : Addr) (mk : Int64) (Ls : List Int64) (ix : Nat) (hix : (((((q1 &&& mk)).toUInt64 >>> ((6 : Int32) &&& 0x3f).toInt64.toUInt64).toInt64).toInt32).toInt = (ix : Int)) (hlt : ix < Ls.length) (F0 : Fld Z h0 a1 "rollfind/Filter" "bits" "[J" (.ref ab)) (F1 : Fld Z h0 a1 "rollfind/Filter" "mask" "J" (.long mk)) (L1 : Al Z h0 ab .long (Ls.map Value.long)) (ge_ab : n0 ≤ ab) (Z0 : n0 ≤ h0.size) : Con l Z y9 prog_7_method_2_code 5 none ({ frames := 0, cells := 0, slots := 0, locals := 0 } : Room) #[(.ref a1), (.long q1)] h0 n0 (fun v h => v = none ∧ Keep h0 h [ab] ∧ Al Z h ab .long ((own_ad Ls ix (q1 &&& mk)).map Value.long)) := by
  refine Con.of pf_9 (fun m => ef_9 m a1 q1) ?_
  intro p e s m below meth c C
  have K0 : Keep h0 h0 [ab] := Keep.refl _ _
  refine W.lloadN C d9_0 rfl ?_
  refine W.aloadN C d9_1 rfl rfl ?_
  refine W.getF C d9_2 (tkw hw 38 rfl) Via.refl F1 ?_
  refine W.land C d9_5 ?_
  refine W.lstoreN C #[.val (.ref a1), .val (.long q1), .second, .val (.long (q1 &&& mk)), .second] d9_6 rfl ?_
  refine W.aloadN C d9_7 rfl rfl ?_
  refine W.getF C d9_8 (tkw hw 36 rfl) Via.refl F0 ?_
  refine W.lloadN C d9_11 rfl ?_
  refine W.bipush C (6 : Int32) d9_12 rfl ?_
  refine W.lushr C d9_14 ?_
  refine W.l2i C d9_15 ?_
  refine W.dup2 C d9_16 rfl rfl ?_
  refine W.laload C ix d9_17 L1 hix (own_at hlt) ?_
  refine W.lconst C (1 : Int64) d9_18 rfl ?_
  refine W.lloadN C d9_19 rfl ?_
  refine W.l2i C d9_20 ?_
  refine W.lshl C d9_21 ?_
  refine W.lor C d9_22 ?_
  refine W.lastore C ix d9_23 L1 hix (by simpa using hlt) ge_ab ?_
  intro hp1 U2 L1_
  replace Z0 := Nat.le_trans Z0 (Nat.le_of_eq (U2.size).symm)
  replace K0 := K0.wr U2 (Or.inl (List.mem_of_getElem? (i := 0) rfl))
  replace L1 : Al Z hp1 ab .long ((Ls.map Value.long).set ix (Value.long ((Ls.getD ix 0) ||| ((1 : Int64) <<< ((((q1 &&& mk)).toInt32) &&& 0x3f).toInt64)))) := L1_
  exact W.retV C d9_24 (by decide) (by decide) ⟨rfl, K0, by rw [own_ad, List.map_set]; exact L1⟩

theorem own_and {mk : Int64} {k : Nat} (hm : mk.toBitVec.toNat = 2 ^ k - 1) (g : Int64) : (g &&& mk).toBitVec.toNat = g.toBitVec.toNat % 2 ^ k := by
  rw [Int64.toBitVec_and, BitVec.toNat_and, hm, Nat.and_two_pow_sub_one_eq_mod]
def own_ix (k : Nat) (g : Int64) : Nat := g.toBitVec.toNat % 2 ^ k / 64
theorem own_ixv {mk : Int64} {k : Nat} (hk : k ≤ 15) (hm : mk.toBitVec.toNat = 2 ^ k - 1) (g : Int64) : (((((g &&& mk)).toUInt64 >>> ((6 : Int32) &&& 0x3f).toInt64.toUInt64).toInt64).toInt32).toInt = (own_ix k g : Int) := by
  have a := own_sh (g &&& mk) 6 6 (by decide)
  rw [own_and hm] at a
  have n := own_N ((((g &&& mk)).toUInt64 >>> ((6 : Int32) &&& 0x3f).toInt64.toUInt64).toInt64)
  rw [a] at n
  have c := c_l2i ((((g &&& mk)).toUInt64 >>> ((6 : Int32) &&& 0x3f).toInt64.toUInt64).toInt64)
  generalize ((((g &&& mk)).toUInt64 >>> ((6 : Int32) &&& 0x3f).toInt64.toUInt64).toInt64) = z at *
  have r := rng32 z.toInt32
  unfold own_ix
  have hp : 2 ^ k ≤ 2 ^ 15 := Nat.pow_le_pow_right (by decide) hk
  have hpos : 0 < 2 ^ k := Nat.two_pow_pos k
  have hmod : g.toBitVec.toNat % 2 ^ k < 2 ^ k := Nat.mod_lt _ hpos
  generalize g.toBitVec.toNat % 2 ^ k = u at *
  omega
theorem own_l2in (g : Int64) : g.toInt32.toBitVec.toNat % 64 = g.toBitVec.toNat % 64 := by
  have a := c_l2i g
  have n := own_N g
  have n2 : g.toInt32.toInt % 4294967296 = (g.toInt32.toBitVec.toNat : Int) := by
    show g.toInt32.toBitVec.toInt % _ = _
    rw [BitVec.toInt_eq_toNat_cond]
    have := g.toInt32.toBitVec.isLt
    split <;> omega
  omega
def own_bit (Ls : List Int64) (i t : Nat) : Prop := (Ls.getD i 0).toBitVec.getLsbD t = true
theorem own_pv_b (Ls : List Int64) (ix : Nat) (g : Int64) (c : Prop) [Decidable c] (h : own_bit Ls ix (g.toBitVec.toNat % 64) ↔ c) : own_pv Ls ix g = if c then 1 else 0 := by
  unfold own_pv
  unfold own_bit at h
  have a := own_sh (Ls.getD ix 0) g.toInt32 (g.toBitVec.toNat % 64) (own_l2in g)
  rw [BitVec.getLsbD, Nat.testBit_eq_decide_div_mod_eq, decide_eq_true_iff] at h
  rw [← a] at h
  generalize (((Ls.getD ix 0).toUInt64 >>> (g.toInt32 &&& 0x3f).toInt64.toUInt64).toInt64) = z at *
  have e1 : (z.toInt32 &&& 1).toInt = z.toInt32.toInt % (2 ^ 1 : Nat) := c_mask _ 1 1 (by decide) (by decide)
  have c1 := c_l2i z
  have n := own_N z
  have z1 : (1 : Int32).toInt = 1 := rfl
  have z0 : (0 : Int32).toInt = 0 := rfl
  by_cases hc : c
  · rw [if_pos hc]; exact Int32.toInt_inj.mp (by have := h.mpr hc; omega)
  · rw [if_neg hc]; exact Int32.toInt_inj.mp (by have : ¬ z.toBitVec.toNat % 2 = 1 := fun q => hc (h.mp q)
                                                 omega)
theorem own_ad_b (Ls : List Int64) (ix i t : Nat) (f : Int64) (hix : ix < Ls.length) (ht : t < 64) : own_bit (own_ad Ls ix f) i t ↔ own_bit Ls i t ∨ (i = ix ∧ t = f.toBitVec.toNat % 64) := by
  unfold own_bit own_ad
  have s := sm64 f.toInt32 (f.toBitVec.toNat % 64) (own_l2in f)
  have e : ((1 : Int64) <<< (f.toInt32 &&& 0x3f).toInt64).toBitVec = 1#64 <<< (f.toBitVec.toNat % 64) := by
    rw [Int64.toBitVec_shiftLeft, s.1, BitVec.shiftLeft_eq', smod64 _ s.2]
    rfl
  simp only [List.getD_eq_getElem?_getD, List.getElem?_set]
  by_cases hi : ix = i
  · subst hi
    rw [if_pos rfl, if_pos hix]
    simp only [Option.getD_some, true_and]
    rw [Int64.toBitVec_or, e, BitVec.getLsbD_or, Bool.or_eq_true, BitVec.getLsbD_shiftLeft]
    refine or_congr Iff.rfl ?_
    have h1 : ∀ j, (1#64).getLsbD j = decide (j = 0) := fun j => by
      rw [BitVec.getLsbD_one]; simp
    rw [h1]
    simp only [ht, decide_true, Bool.true_and, Bool.and_eq_true, Bool.not_eq_true', decide_eq_false_iff_not, decide_eq_true_iff]
    omega
  · rw [if_neg hi]
    have : ¬ i = ix := fun q => hi q.symm
    simp [this]
theorem own_zero (N i t : Nat) : ¬ own_bit (List.replicate N 0) i t := by
  unfold own_bit
  simp only [List.getD_eq_getElem?_getD, List.getElem?_replicate]
  split <;> simp
theorem own_eqv {mk : Int64} {k : Nat} (hk : 12 ≤ k) (hm : mk.toBitVec.toNat = 2 ^ k - 1) (g f : Int64) : (own_ix k g = own_ix k f ∧ g.toBitVec.toNat % 64 = f.toBitVec.toNat % 64) ↔ (g &&& mk) = (f &&& mk) := by
  rw [← Int64.toBitVec_inj, ← BitVec.toNat_inj, own_and hm, own_and hm]
  unfold own_ix
  have e : ∀ x : Nat, x % 64 = x % 2 ^ k % 64 := fun x => by
    rw [Nat.mod_mod_of_dvd]
    exact ⟨2 ^ (k - 6), by rw [show 64 = 2 ^ 6 from rfl, ← Nat.pow_add]; congr 1; omega⟩
  rw [e g.toBitVec.toNat, e f.toBitVec.toNat]
  omega
theorem own_same_iff (g f mk : Int64) : own_same g f mk = if (g &&& mk) = (f &&& mk) then 1 else 0 := by
  unfold own_same
  rfl
theorem own_same0 (g f mk : Int64) : own_same g f mk = 0 ∨ own_same g f mk = 1 := by
  rw [own_same_iff]; split
  · exact Or.inr rfl
  · exact Or.inl rfl
theorem own_m64 {mk : Int64} {k : Nat} (hk : 12 ≤ k) (hm : mk.toBitVec.toNat = 2 ^ k - 1) (f : Int64) : (f &&& mk).toBitVec.toNat % 64 = f.toBitVec.toNat % 64 := by
  rw [own_and hm, Nat.mod_mod_of_dvd]
  exact ⟨2 ^ (k - 6), by rw [show 64 = 2 ^ 6 from rfl, ← Nat.pow_add]; congr 1; omega⟩
theorem own_ixlt {k : Nat} (hk : 12 ≤ k) (g : Int64) : own_ix k g < 2 ^ (k - 6) := by
  unfold own_ix
  have : g.toBitVec.toNat % 2 ^ k < 2 ^ k := Nat.mod_lt _ (Nat.two_pow_pos k)
  have e : 2 ^ k = 2 ^ (k - 6) * 64 := by rw [show 64 = 2 ^ 6 from rfl, ← Nat.pow_add]; congr 1; omega
  generalize g.toBitVec.toNat % 2 ^ k = u at *
  omega
theorem own_pv0 (N k : Nat) (x : Int64) : own_pv (List.replicate N 0) (own_ix k x) x = 0 := by
  rw [own_pv_b _ _ _ False ⟨fun h => own_zero _ _ _ h, False.elim⟩]
  rfl
theorem own_pv1 {N k : Nat} {mk : Int64} (hk : 12 ≤ k) (hm : mk.toBitVec.toNat = 2 ^ k - 1) (hN : N = 2 ^ (k - 6)) (f x : Int64) : own_pv (own_ad (List.replicate N 0) (own_ix k f) (f &&& mk)) (own_ix k x) x = own_same x f mk := by
  rw [own_same_iff]
  apply own_pv_b
  rw [own_ad_b _ _ _ _ _ (by rw [List.length_replicate, hN]; exact own_ixlt hk f) (Nat.mod_lt _ (by decide)), own_m64 hk hm, own_eqv hk hm]
  exact ⟨fun h => h.resolve_left (own_zero _ _ _), Or.inr⟩
theorem own_pv2 {N k : Nat} {mk : Int64} (hk : 12 ≤ k) (hm : mk.toBitVec.toNat = 2 ^ k - 1) (hN : N = 2 ^ (k - 6)) (f f2 x : Int64) : own_pv (own_ad (own_ad (List.replicate N 0) (own_ix k f) (f &&& mk)) (own_ix k f2) (f2 &&& mk)) (own_ix k x) x = if own_same x f mk = 0 then own_same x f2 mk else 1 := by
  have hl : own_ix k f2 < (own_ad (List.replicate N 0) (own_ix k f) (f &&& mk)).length := by rw [own_ad, List.length_set, List.length_replicate, hN]; exact own_ixlt hk f2
  have q := own_pv_b (own_ad (own_ad (List.replicate N 0) (own_ix k f) (f &&& mk)) (own_ix k f2) (f2 &&& mk)) (own_ix k x) x ((x &&& mk) = (f &&& mk) ∨ (x &&& mk) = (f2 &&& mk)) (by
    rw [own_ad_b _ _ _ _ _ hl (Nat.mod_lt _ (by decide)), own_m64 hk hm, own_eqv hk hm, own_ad_b _ _ _ _ _ (by rw [List.length_replicate, hN]; exact own_ixlt hk f) (Nat.mod_lt _ (by decide)), own_m64 hk hm, own_eqv hk hm]
    exact or_congr ⟨fun h => h.resolve_left (own_zero _ _ _), Or.inr⟩ Iff.rfl)
  rw [q, own_same_iff, own_same_iff]
  by_cases c1 : (x &&& mk) = (f &&& mk)
  · simp [c1]
  · by_cases c2 : (x &&& mk) = (f2 &&& mk)
    · simp [c1, c2]
    · simp [c1, c2]
theorem own_self (f mk : Int64) : own_same f f mk = 1 := by rw [own_same_iff, if_pos rfl]
theorem own_sel (x : Int32) : x &&& (3 : Int32) = 0 ∨ x &&& (3 : Int32) = 1 ∨ x &&& (3 : Int32) = 2 ∨ x &&& (3 : Int32) = 3 := by
  have e1 : (x &&& 3).toInt = x.toInt % (2 ^ 2 : Nat) := c_mask x 3 2 (by decide) (by decide)
  simp only [← Int32.toInt_inj, e1]
  have : (0 : Int32).toInt = 0 ∧ (1 : Int32).toInt = 1 ∧ (2 : Int32).toInt = 2 ∧ (3 : Int32).toInt = 3 := by decide
  omega
theorem own_x2 (c : Int32) (h0 : -2000 ≤ c.toInt) (h1 : c.toInt ≤ 2000) : (((2 : Int64) * ((c).toInt64)) - (1 : Int64)).toInt = 2 * c.toInt - 1 := by
  have a := c_lmul 2 c.toInt64
  have b := c_lsub ((2 : Int64) * c.toInt64) 1
  have e2 : (2 : Int64).toInt = 2 := by decide
  have e1 : (1 : Int64).toInt = 1 := by decide
  rw [e2, c_i2l] at a
  rw [e1] at b
  have r1 := rng64 ((2 : Int64) * c.toInt64)
  have r2 := rng64 (((2 : Int64) * c.toInt64) - 1)
  omega
theorem own_cz (x : Int32) : own_max (64 : Int64) (own_hob (((2 : Int64) * (((x >>> ((2 : Int32) &&& 31)) % (33 : Int32)).toInt64)) - (1 : Int64))) = 64 := by
  have r := c_irem (x >>> ((2 : Int32) &&& 31)) 33 33 rfl
  have hb : -33 < ((x >>> ((2 : Int32) &&& 31)) % (33 : Int32)).toInt ∧ ((x >>> ((2 : Int32) &&& 31)) % (33 : Int32)).toInt < 33 := by
    generalize (x >>> ((2 : Int32) &&& 31)) = y at *
    by_cases h : 0 ≤ y.toInt
    · have := r.1 h; omega
    · have := r.2 (by omega); omega
  generalize ((x >>> ((2 : Int32) &&& 31)) % (33 : Int32)) = c at *
  have e := own_x2 c (by omega) (by omega)
  by_cases h : 0 < c.toInt
  · rw [own_hP _ (by omega) (by omega), if_neg (by omega), if_neg (by omega), if_neg (by omega)]
  · exact own_hM _ (by omega) (by omega)
theorem own_c0 (x : Int32) : own_max (64 : Int64) (own_hob (((2 : Int64) * ((((33 : Int32) + (((x).toUInt32 >>> ((2 : Int32) &&& 31).toUInt32).toInt32 &&& (31 : Int32)))).toInt64)) - (1 : Int64))) = 64 := by
  generalize ((x).toUInt32 >>> ((2 : Int32) &&& 31).toUInt32).toInt32 = y
  have e1 : (y &&& 31).toInt = y.toInt % (2 ^ 5 : Nat) := c_mask y 31 5 (by decide) (by decide)
  generalize (y &&& 31) = z at *
  have a := c_iadd 33 z
  have e2 : (33 : Int32).toInt = 33 := by decide
  have r := rng32 ((33 : Int32) + z)
  have e := own_x2 ((33 : Int32) + z) (by omega) (by omega)
  rw [own_hP _ (by omega) (by omega)]
  rw [if_neg (by omega), if_neg (by omega), if_neg (by omega)]
theorem own_c1 (x : Int32) : own_max (64 : Int64) (own_hob (((2 : Int64) * ((((65 : Int32) + (((x).toUInt32 >>> ((2 : Int32) &&& 31).toUInt32).toInt32 &&& (63 : Int32)))).toInt64)) - (1 : Int64))) = 128 := by
  generalize ((x).toUInt32 >>> ((2 : Int32) &&& 31).toUInt32).toInt32 = y
  have e1 : (y &&& 63).toInt = y.toInt % (2 ^ 6 : Nat) := c_mask y 63 6 (by decide) (by decide)
  generalize (y &&& 63) = z at *
  have a := c_iadd 65 z
  have e2 : (65 : Int32).toInt = 65 := by decide
  have r := rng32 ((65 : Int32) + z)
  have e := own_x2 ((65 : Int32) + z) (by omega) (by omega)
  rw [own_hP _ (by omega) (by omega)]
  rw [if_neg (by omega), if_neg (by omega), if_pos (by omega)]
theorem own_c2 (x : Int32) : own_max (64 : Int64) (own_hob (((2 : Int64) * ((((129 : Int32) + (((x).toUInt32 >>> ((2 : Int32) &&& 31).toUInt32).toInt32 &&& (127 : Int32)))).toInt64)) - (1 : Int64))) = 256 := by
  generalize ((x).toUInt32 >>> ((2 : Int32) &&& 31).toUInt32).toInt32 = y
  have e1 : (y &&& 127).toInt = y.toInt % (2 ^ 7 : Nat) := c_mask y 127 7 (by decide) (by decide)
  generalize (y &&& 127) = z at *
  have a := c_iadd 129 z
  have e2 : (129 : Int32).toInt = 129 := by decide
  have r := rng32 ((129 : Int32) + z)
  have e := own_x2 ((129 : Int32) + z) (by omega) (by omega)
  rw [own_hP _ (by omega) (by omega)]
  rw [if_neg (by omega), if_pos (by omega)]
theorem own_c3 (x : Int32) : own_max (64 : Int64) (own_hob (((2 : Int64) * ((((257 : Int32) + (((x).toUInt32 >>> ((2 : Int32) &&& 31).toUInt32).toInt32 &&& (255 : Int32)))).toInt64)) - (1 : Int64))) = 512 := by
  generalize ((x).toUInt32 >>> ((2 : Int32) &&& 31).toUInt32).toInt32 = y
  have e1 : (y &&& 255).toInt = y.toInt % (2 ^ 8 : Nat) := c_mask y 255 8 (by decide) (by decide)
  generalize (y &&& 255) = z at *
  have a := c_iadd 257 z
  have e2 : (257 : Int32).toInt = 257 := by decide
  have r := rng32 ((257 : Int32) + z)
  have e := own_x2 ((257 : Int32) + z) (by omega) (by omega)
  rw [own_hP _ (by omega) (by omega)]
  rw [if_pos (by omega)]
theorem pf_0 : plainFor x = true := by first | exact plainFor_of_name (by first | (simp [plainName, overriddenIn]; done) | decide +kernel) | decide +kernel
theorem ef_0 (m : MethodId) (p0 : Int32) (p1 : Int64) (p2 : Int64) (p3 : Int64) (p4 : Int32) : entryFrame m #[(.int p0), (.long p1), (.long p2), (.long p3), (.int p4)] maxLocals = mkF m 0 #[.val (.int p0), .val (.long p1), .second, .val (.long p2), .second, .val (.long p3), .second, .val (.int p4), .unset, .unset, .unset, .unset, .unset, .unset, .unset, .unset, .unset, .unset, .unset, .unset, .unset, .unset] [] := by first | (simp [entryFrame, mkF, argsToLocals, Value.category, maxLocals]; done) | rfl
theorem pd_5 : parseMethodDescriptor "(I)V" = some ⟨[.int], none⟩ := by decide +kernel
theorem pd_6 : parseMethodDescriptor "(J)V" = some ⟨[.long], none⟩ := by decide +kernel
theorem pd_7 : parseMethodDescriptor "(JJJ)Z" = some ⟨[.long, .long, .long], some .boolean⟩ := by decide +kernel
set_option maxRecDepth 65536 in
set_option maxHeartbeats 40000000 in
theorem con_0 (l : Launch) (Z : State) (a0 : Array Value) (hw : ∀ d ∈ tables_1, d.before a0 Z = true) (h0 : Heap) (n0 : Nat) (p0 : Int32) (p1 : Int64) (p2 : Int64) (p3 : Int64) (p4 : Int32)  (Z0 : n0 ≤ h0.size) : Con l Z x code maxLocals ret room_1 #[(.int p0), (.long p1), (.long p2), (.long p3), (.int p4)] h0 n0 (fun v _ => v = some (.int 1)) := by
  refine Con.of pf_0 (fun m => ef_0 m p0 p1 p2 p3 p4) ?_
  intro p e s m below meth c C
  have J168 : ∀ (sel half cnt mode : Int32) (mk f2 g mw : Int64) (k N : Nat), 12 ≤ k → k ≤ 15 → N = 2 ^ (k - 6) → mw.toInt = (N : Int) → own_max (64 : Int64) (own_hob (((2 : Int64) * ((cnt).toInt64)) - (1 : Int64))) = mw → mk.toBitVec.toNat = 2 ^ k - 1 → (((64 : Int64) * (mw.toInt32).toInt64) - (1 : Int64)) = mk → W p l e room_1 s m #[(.int p0), (.long p1), (.long p2), (.long p3), (.int p4)] below meth c n0 (fun v _ => v = some (.int 1)) room_1.cells room_1.slots 0 0 h0 168 #[.val (.int p0), .val (.long p1), .second, .val (.long p2), .second, .val (.long p3), .second, .val (.int p4), .val (.int sel), .val (.int half), .val (.int cnt), .val (.long mk), .second, .val (.long p1), .second, .val (.long f2), .second, .val (.int mode), .val (.long g), .second, .unset, .unset] [] := by
    intro sel half cnt mode mk f2 g mw k N hk1 hk2 hN hmw hW hm hmk
    refine W.new C at_168 (tkw hw 3 rfl) (tkw hw 4 rfl) (tkw hw 5 rfl) 1 2 rfl rfl (by decide) (by decide) ?_
    intro ob1 hp2 hob1 Eob1 Aob1 Dob1
    have ge_ob1 : n0 ≤ ob1 := by rw [hob1]; exact Z0
    replace Z0 := Nat.le_trans Z0 Eob1.1
    have Fob1_bits : Fld Z hp2 ob1 "rollfind/Filter" "bits" "[J" .null := Dob1 (Or.inr (tkw hw 37 rfl)) (ty := (.array .long)) (by decide)
    have Fob1_mask : Fld Z hp2 ob1 "rollfind/Filter" "mask" "J" (.long (0 : Int64)) := Dob1 (Or.inr (tkw hw 39 rfl)) (ty := .long) (by decide)
    refine W.dup C at_171 rfl ?_
    refine W.iload C at_172 rfl ?_
    have hA := Aob1.lt
    have hZ := Z0
    refine W.callI C (y' := y1) at_174 rfl (tkw hw 6 rfl) (tkw hw 7 rfl) (tkw hw 5 rfl) (tkw hw 8 rfl) (by decide) (a := ob1) (argsL := [(.int cnt)]) (rest := [(.ref ob1)]) rfl (lenOf pd_5 rfl) (con_1 l Z a0 hw hp2 n0 ob1 cnt _ _ mw N hW hmw (by rw [hN]; exact Nat.le_trans (Nat.pow_le_pow_right (n := 2) (by decide) (show k - 6 ≤ 9 by omega)) (by decide)) Aob1 ge_ob1 Fob1_bits Fob1_mask Z0) 1 2 514 rfl rfl rfl (by decide) (by decide) (by decide) (by decide) rfl ?_
    rintro _ hp3 ⟨rfl, Kc, Aob1, ab, szab, Fob1_bits, Fob1_mask, La⟩
    replace Z0 := Nat.le_trans Z0 Kc.1
    have ge_ab : n0 ≤ ab := Nat.le_trans hZ szab
    have ne_ob1_ab : ob1 ≠ ab := Nat.ne_of_lt (Nat.lt_of_lt_of_le hA szab)
    rw [hmk] at Fob1_mask
    refine W.astore C #[.val (.int p0), .val (.long p1), .second, .val (.long p2), .second, .val (.long p3), .second, .val (.int p4), .val (.int sel), .val (.int half), .val (.int cnt), .val (.long mk), .second, .val (.long p1), .second, .val (.long f2), .second, .val (.int mode), .val (.long g), .second, .val (.ref ob1), .unset] at_177 rfl rfl ?_
    refine W.aload C at_179 rfl rfl ?_
    refine W.lload C at_181 rfl ?_
    refine W.callV C (y' := y8) at_183 (tkw hw 40 rfl) (tkw hw 41 rfl) (tkw hw 43 rfl) (tkw hw 42 rfl) (tkw hw 5 rfl) (tkw hw 44 rfl) (by decide) Aob1 (argsL := [(.long g)]) (rest := []) rfl (lenOf pd_1 rfl) (con_8 l Z a0 hw hp3 n0 ob1 g ab mk (List.replicate N (0 : Int64)) (own_ix k g) (own_ixv hk2 hm g) (by simp only [own_ad, List.length_set, List.length_replicate]; rw [hN]; exact own_ixlt hk1 _) Fob1_bits Fob1_mask La Z0) 0 2 514 rfl rfl rfl (by decide) (by decide) (by decide) (by decide) rfl ?_
    rintro _ _ ⟨rfl, rfl⟩
    rw [own_pv0]
    refine W.if_ne C 193 at_186 rfl (fun b => absurd b (by decide)) (fun _ => ?_)
    refine W.iconst C (1 : Int32) at_189 rfl ?_
    refine W.goto C 194 at_190 rfl ?_
    refine W.istore C #[.val (.int p0), .val (.long p1), .second, .val (.long p2), .second, .val (.long p3), .second, .val (.int p4), .val (.int sel), .val (.int half), .val (.int cnt), .val (.long mk), .second, .val (.long p1), .second, .val (.long f2), .second, .val (.int mode), .val (.long g), .second, .val (.ref ob1), .val (.int (1 : Int32))] at_194 rfl ?_
    refine W.aload C at_196 rfl rfl ?_
    refine W.lload C at_198 rfl ?_
    refine W.callV C (y' := y9) at_200 (tkw hw 45 rfl) (tkw hw 46 rfl) (tkw hw 48 rfl) (tkw hw 47 rfl) (tkw hw 5 rfl) (tkw hw 49 rfl) (by decide) Aob1 (argsL := [(.long p1)]) (rest := []) rfl (lenOf pd_6 rfl) (con_9 l Z a0 hw hp3 n0 ob1 p1 ab mk (List.replicate N (0 : Int64)) (own_ix k p1) (own_ixv hk2 hm p1) (by simp only [own_ad, List.length_set, List.length_replicate]; rw [hN]; exact own_ixlt hk1 _) Fob1_bits Fob1_mask La ge_ab Z0) 0 2 514 rfl rfl rfl (by decide) (by decide) (by decide) (by decide) rfl ?_
    rintro _ hp4 ⟨rfl, Kc, La_⟩
    replace Z0 := Nat.le_trans Z0 Kc.1
    replace Aob1 := Aob1.keep Kc
    replace Fob1_bits := Fob1_bits.keep Kc (ninS ne_ob1_ab nin0)
    replace Fob1_mask := Fob1_mask.keep Kc (ninS ne_ob1_ab nin0)
    replace La := La_
    refine W.iload C at_203 rfl ?_
    refine W.if_eq C 223 at_205 rfl (fun b => absurd b (by decide)) (fun _ => ?_)
    refine W.aload C at_208 rfl rfl ?_
    refine W.lload C at_210 rfl ?_
    refine W.callV C (y' := y8) at_212 (tkw hw 40 rfl) (tkw hw 41 rfl) (tkw hw 43 rfl) (tkw hw 42 rfl) (tkw hw 5 rfl) (tkw hw 44 rfl) (by decide) Aob1 (argsL := [(.long p1)]) (rest := []) rfl (lenOf pd_1 rfl) (con_8 l Z a0 hw hp4 n0 ob1 p1 ab mk (own_ad (List.replicate N (0 : Int64)) (own_ix k p1) (p1 &&& mk)) (own_ix k p1) (own_ixv hk2 hm p1) (by simp only [own_ad, List.length_set, List.length_replicate]; rw [hN]; exact own_ixlt hk1 _) Fob1_bits Fob1_mask La Z0) 0 2 514 rfl rfl rfl (by decide) (by decide) (by decide) (by decide) rfl ?_
    rintro _ _ ⟨rfl, rfl⟩
    rw [own_pv1 hk1 hm hN]
    rw [own_self]
    refine W.iconst C (1 : Int32) at_215 rfl ?_
    refine W.icmp_ne C 223 at_216 rfl (fun b => absurd b (by decide)) (fun _ => ?_)
    refine W.iconst C (1 : Int32) at_219 rfl ?_
    refine W.goto C 224 at_220 rfl ?_
    refine W.istore C #[.val (.int p0), .val (.long p1), .second, .val (.long p2), .second, .val (.long p3), .second, .val (.int p4), .val (.int sel), .val (.int half), .val (.int cnt), .val (.long mk), .second, .val (.long p1), .second, .val (.long f2), .second, .val (.int mode), .val (.long g), .second, .val (.ref ob1), .val (.int (1 : Int32))] at_224 rfl ?_
    refine W.iload C at_226 rfl ?_
    refine W.if_eq C 262 at_228 rfl (fun b => absurd b (by decide)) (fun _ => ?_)
    refine W.aload C at_231 rfl rfl ?_
    refine W.lload C at_233 rfl ?_
    refine W.callV C (y' := y8) at_235 (tkw hw 40 rfl) (tkw hw 41 rfl) (tkw hw 43 rfl) (tkw hw 42 rfl) (tkw hw 5 rfl) (tkw hw 44 rfl) (by decide) Aob1 (argsL := [(.long g)]) (rest := []) rfl (lenOf pd_1 rfl) (con_8 l Z a0 hw hp4 n0 ob1 g ab mk (own_ad (List.replicate N (0 : Int64)) (own_ix k p1) (p1 &&& mk)) (own_ix k g) (own_ixv hk2 hm g) (by simp only [own_ad, List.length_set, List.length_replicate]; rw [hN]; exact own_ixlt hk1 _) Fob1_bits Fob1_mask La Z0) 0 2 514 rfl rfl rfl (by decide) (by decide) (by decide) (by decide) rfl ?_
    rintro _ _ ⟨rfl, rfl⟩
    rw [own_pv1 hk1 hm hN]
    refine W.lload C at_238 rfl ?_
    refine W.lload C at_240 rfl ?_
    refine W.lload C at_242 rfl ?_
    refine W.callS C (y' := y10) at_244 (tkw hw 50 rfl) (tkw hw 51 rfl) (tkw hw 52 rfl) (tkw hw 53 rfl) (by decide) (argsL := [(.long g), (.long p1), (.long mk)]) (rest := [(.int (own_same g p1 mk))]) rfl (lenOf pd_7 rfl) (con_10 l Z a0 hw hp4 n0 g p1 mk) 1 2 514 rfl rfl rfl (by decide) (by decide) (by decide) (by decide) rfl ?_
    rintro _ _ ⟨rfl, rfl⟩
    refine W.if_eq C 254 at_247 rfl (fun b1 => ?_) (fun b1 => ?_)
    · skip
      refine W.iconst C (0 : Int32) at_254 rfl ?_
      refine W.icmp_ne C 262 at_255 rfl (fun b2 => absurd b1 b2) (fun b2 => ?_)
      refine W.iconst C (1 : Int32) at_258 rfl ?_
      refine W.goto C 263 at_259 rfl ?_
      refine W.istore C #[.val (.int p0), .val (.long p1), .second, .val (.long p2), .second, .val (.long p3), .second, .val (.int p4), .val (.int sel), .val (.int half), .val (.int cnt), .val (.long mk), .second, .val (.long p1), .second, .val (.long f2), .second, .val (.int mode), .val (.long g), .second, .val (.ref ob1), .val (.int (1 : Int32))] at_263 rfl ?_
      refine W.aload C at_265 rfl rfl ?_
      refine W.lload C at_267 rfl ?_
      refine W.callV C (y' := y9) at_269 (tkw hw 45 rfl) (tkw hw 46 rfl) (tkw hw 48 rfl) (tkw hw 47 rfl) (tkw hw 5 rfl) (tkw hw 49 rfl) (by decide) Aob1 (argsL := [(.long f2)]) (rest := []) rfl (lenOf pd_6 rfl) (con_9 l Z a0 hw hp4 n0 ob1 f2 ab mk (own_ad (List.replicate N (0 : Int64)) (own_ix k p1) (p1 &&& mk)) (own_ix k f2) (own_ixv hk2 hm f2) (by simp only [own_ad, List.length_set, List.length_replicate]; rw [hN]; exact own_ixlt hk1 _) Fob1_bits Fob1_mask La ge_ab Z0) 0 2 514 rfl rfl rfl (by decide) (by decide) (by decide) (by decide) rfl ?_
      rintro _ hp5 ⟨rfl, Kc, La_⟩
      replace Z0 := Nat.le_trans Z0 Kc.1
      replace Aob1 := Aob1.keep Kc
      replace Fob1_bits := Fob1_bits.keep Kc (ninS ne_ob1_ab nin0)
      replace Fob1_mask := Fob1_mask.keep Kc (ninS ne_ob1_ab nin0)
      replace La := La_
      refine W.iload C at_272 rfl ?_
      refine W.if_eq C 292 at_274 rfl (fun b => absurd b (by decide)) (fun _ => ?_)
      refine W.aload C at_277 rfl rfl ?_
      refine W.lload C at_279 rfl ?_
      refine W.callV C (y' := y8) at_281 (tkw hw 40 rfl) (tkw hw 41 rfl) (tkw hw 43 rfl) (tkw hw 42 rfl) (tkw hw 5 rfl) (tkw hw 44 rfl) (by decide) Aob1 (argsL := [(.long p1)]) (rest := []) rfl (lenOf pd_1 rfl) (con_8 l Z a0 hw hp5 n0 ob1 p1 ab mk (own_ad (own_ad (List.replicate N (0 : Int64)) (own_ix k p1) (p1 &&& mk)) (own_ix k f2) (f2 &&& mk)) (own_ix k p1) (own_ixv hk2 hm p1) (by simp only [own_ad, List.length_set, List.length_replicate]; rw [hN]; exact own_ixlt hk1 _) Fob1_bits Fob1_mask La Z0) 0 2 514 rfl rfl rfl (by decide) (by decide) (by decide) (by decide) rfl ?_
      rintro _ _ ⟨rfl, rfl⟩
      rw [own_pv2 hk1 hm hN]
      rw [own_self, if_neg (by decide)]
      refine W.iconst C (1 : Int32) at_284 rfl ?_
      refine W.icmp_ne C 292 at_285 rfl (fun b => absurd b (by decide)) (fun _ => ?_)
      refine W.iconst C (1 : Int32) at_288 rfl ?_
      refine W.goto C 293 at_289 rfl ?_
      refine W.istore C #[.val (.int p0), .val (.long p1), .second, .val (.long p2), .second, .val (.long p3), .second, .val (.int p4), .val (.int sel), .val (.int half), .val (.int cnt), .val (.long mk), .second, .val (.long p1), .second, .val (.long f2), .second, .val (.int mode), .val (.long g), .second, .val (.ref ob1), .val (.int (1 : Int32))] at_293 rfl ?_
      refine W.iload C at_295 rfl ?_
      refine W.if_eq C 315 at_297 rfl (fun b => absurd b (by decide)) (fun _ => ?_)
      refine W.aload C at_300 rfl rfl ?_
      refine W.lload C at_302 rfl ?_
      refine W.callV C (y' := y8) at_304 (tkw hw 40 rfl) (tkw hw 41 rfl) (tkw hw 43 rfl) (tkw hw 42 rfl) (tkw hw 5 rfl) (tkw hw 44 rfl) (by decide) Aob1 (argsL := [(.long f2)]) (rest := []) rfl (lenOf pd_1 rfl) (con_8 l Z a0 hw hp5 n0 ob1 f2 ab mk (own_ad (own_ad (List.replicate N (0 : Int64)) (own_ix k p1) (p1 &&& mk)) (own_ix k f2) (f2 &&& mk)) (own_ix k f2) (own_ixv hk2 hm f2) (by simp only [own_ad, List.length_set, List.length_replicate]; rw [hN]; exact own_ixlt hk1 _) Fob1_bits Fob1_mask La Z0) 0 2 514 rfl rfl rfl (by decide) (by decide) (by decide) (by decide) rfl ?_
      rintro _ _ ⟨rfl, rfl⟩
      rw [own_pv2 hk1 hm hN]
      rw [own_self, show (if own_same f2 p1 mk = 0 then (1 : Int32) else 1) = 1 from by split <;> rfl]
      refine W.iconst C (1 : Int32) at_307 rfl ?_
      refine W.icmp_ne C 315 at_308 rfl (fun b => absurd b (by decide)) (fun _ => ?_)
      refine W.iconst C (1 : Int32) at_311 rfl ?_
      refine W.goto C 316 at_312 rfl ?_
      refine W.istore C #[.val (.int p0), .val (.long p1), .second, .val (.long p2), .second, .val (.long p3), .second, .val (.int p4), .val (.int sel), .val (.int half), .val (.int cnt), .val (.long mk), .second, .val (.long p1), .second, .val (.long f2), .second, .val (.int mode), .val (.long g), .second, .val (.ref ob1), .val (.int (1 : Int32))] at_316 rfl ?_
      refine W.iload C at_318 rfl ?_
      refine W.if_eq C 366 at_320 rfl (fun b => absurd b (by decide)) (fun _ => ?_)
      refine W.aload C at_323 rfl rfl ?_
      refine W.lload C at_325 rfl ?_
      refine W.callV C (y' := y8) at_327 (tkw hw 40 rfl) (tkw hw 41 rfl) (tkw hw 43 rfl) (tkw hw 42 rfl) (tkw hw 5 rfl) (tkw hw 44 rfl) (by decide) Aob1 (argsL := [(.long g)]) (rest := []) rfl (lenOf pd_1 rfl) (con_8 l Z a0 hw hp5 n0 ob1 g ab mk (own_ad (own_ad (List.replicate N (0 : Int64)) (own_ix k p1) (p1 &&& mk)) (own_ix k f2) (f2 &&& mk)) (own_ix k g) (own_ixv hk2 hm g) (by simp only [own_ad, List.length_set, List.length_replicate]; rw [hN]; exact own_ixlt hk1 _) Fob1_bits Fob1_mask La Z0) 0 2 514 rfl rfl rfl (by decide) (by decide) (by decide) (by decide) rfl ?_
      rintro _ _ ⟨rfl, rfl⟩
      rw [own_pv2 hk1 hm hN]
      rw [if_pos b1]
      refine W.lload C at_330 rfl ?_
      refine W.lload C at_332 rfl ?_
      refine W.lload C at_334 rfl ?_
      refine W.callS C (y' := y10) at_336 (tkw hw 50 rfl) (tkw hw 51 rfl) (tkw hw 52 rfl) (tkw hw 53 rfl) (by decide) (argsL := [(.long g), (.long p1), (.long mk)]) (rest := [(.int (own_same g f2 mk))]) rfl (lenOf pd_7 rfl) (con_10 l Z a0 hw hp5 n0 g p1 mk) 1 2 514 rfl rfl rfl (by decide) (by decide) (by decide) (by decide) rfl ?_
      rintro _ _ ⟨rfl, rfl⟩
      refine W.if_ne C 354 at_339 rfl (fun b3 => absurd b1 b3) (fun b3 => ?_)
      refine W.lload C at_342 rfl ?_
      refine W.lload C at_344 rfl ?_
      refine W.lload C at_346 rfl ?_
      refine W.callS C (y' := y10) at_348 (tkw hw 50 rfl) (tkw hw 51 rfl) (tkw hw 52 rfl) (tkw hw 53 rfl) (by decide) (argsL := [(.long g), (.long f2), (.long mk)]) (rest := [(.int (own_same g f2 mk))]) rfl (lenOf pd_7 rfl) (con_10 l Z a0 hw hp5 n0 g f2 mk) 1 2 514 rfl rfl rfl (by decide) (by decide) (by decide) (by decide) rfl ?_
      rintro _ _ ⟨rfl, rfl⟩
      refine W.if_eq C 358 at_351 rfl (fun b4 => ?_) (fun b4 => ?_)
      · skip
        refine W.iconst C (0 : Int32) at_358 rfl ?_
        refine W.icmp_ne C 366 at_359 rfl (fun b5 => absurd b4 b5) (fun b5 => ?_)
        refine W.iconst C (1 : Int32) at_362 rfl ?_
        refine W.goto C 367 at_363 rfl ?_
        refine W.istore C #[.val (.int p0), .val (.long p1), .second, .val (.long p2), .second, .val (.long p3), .second, .val (.int p4), .val (.int sel), .val (.int half), .val (.int cnt), .val (.long mk), .second, .val (.long p1), .second, .val (.long f2), .second, .val (.int mode), .val (.long g), .second, .val (.ref ob1), .val (.int (1 : Int32))] at_367 rfl ?_
        refine W.iload C at_369 rfl ?_
        exact W.iret C at_371 (by simp) rfl (by decide) (by decide) rfl
      · skip
        refine W.iconst C (1 : Int32) at_354 rfl ?_
        refine W.goto C 359 at_355 rfl ?_
        refine W.icmp_ne C 366 at_359 rfl (fun b6 => absurd ((own_same0 _ _ _).resolve_left b4) b6) (fun b6 => ?_)
        refine W.iconst C (1 : Int32) at_362 rfl ?_
        refine W.goto C 367 at_363 rfl ?_
        refine W.istore C #[.val (.int p0), .val (.long p1), .second, .val (.long p2), .second, .val (.long p3), .second, .val (.int p4), .val (.int sel), .val (.int half), .val (.int cnt), .val (.long mk), .second, .val (.long p1), .second, .val (.long f2), .second, .val (.int mode), .val (.long g), .second, .val (.ref ob1), .val (.int (1 : Int32))] at_367 rfl ?_
        refine W.iload C at_369 rfl ?_
        exact W.iret C at_371 (by simp) rfl (by decide) (by decide) rfl
    · skip
      refine W.iconst C (1 : Int32) at_250 rfl ?_
      refine W.goto C 255 at_251 rfl ?_
      refine W.icmp_ne C 262 at_255 rfl (fun b7 => absurd ((own_same0 _ _ _).resolve_left b1) b7) (fun b7 => ?_)
      refine W.iconst C (1 : Int32) at_258 rfl ?_
      refine W.goto C 263 at_259 rfl ?_
      refine W.istore C #[.val (.int p0), .val (.long p1), .second, .val (.long p2), .second, .val (.long p3), .second, .val (.int p4), .val (.int sel), .val (.int half), .val (.int cnt), .val (.long mk), .second, .val (.long p1), .second, .val (.long f2), .second, .val (.int mode), .val (.long g), .second, .val (.ref ob1), .val (.int (1 : Int32))] at_263 rfl ?_
      refine W.aload C at_265 rfl rfl ?_
      refine W.lload C at_267 rfl ?_
      refine W.callV C (y' := y9) at_269 (tkw hw 45 rfl) (tkw hw 46 rfl) (tkw hw 48 rfl) (tkw hw 47 rfl) (tkw hw 5 rfl) (tkw hw 49 rfl) (by decide) Aob1 (argsL := [(.long f2)]) (rest := []) rfl (lenOf pd_6 rfl) (con_9 l Z a0 hw hp4 n0 ob1 f2 ab mk (own_ad (List.replicate N (0 : Int64)) (own_ix k p1) (p1 &&& mk)) (own_ix k f2) (own_ixv hk2 hm f2) (by simp only [own_ad, List.length_set, List.length_replicate]; rw [hN]; exact own_ixlt hk1 _) Fob1_bits Fob1_mask La ge_ab Z0) 0 2 514 rfl rfl rfl (by decide) (by decide) (by decide) (by decide) rfl ?_
      rintro _ hp6 ⟨rfl, Kc, La_⟩
      replace Z0 := Nat.le_trans Z0 Kc.1
      replace Aob1 := Aob1.keep Kc
      replace Fob1_bits := Fob1_bits.keep Kc (ninS ne_ob1_ab nin0)
      replace Fob1_mask := Fob1_mask.keep Kc (ninS ne_ob1_ab nin0)
      replace La := La_
      refine W.iload C at_272 rfl ?_
      refine W.if_eq C 292 at_274 rfl (fun b => absurd b (by decide)) (fun _ => ?_)
      refine W.aload C at_277 rfl rfl ?_
      refine W.lload C at_279 rfl ?_
      refine W.callV C (y' := y8) at_281 (tkw hw 40 rfl) (tkw hw 41 rfl) (tkw hw 43 rfl) (tkw hw 42 rfl) (tkw hw 5 rfl) (tkw hw 44 rfl) (by decide) Aob1 (argsL := [(.long p1)]) (rest := []) rfl (lenOf pd_1 rfl) (con_8 l Z a0 hw hp6 n0 ob1 p1 ab mk (own_ad (own_ad (List.replicate N (0 : Int64)) (own_ix k p1) (p1 &&& mk)) (own_ix k f2) (f2 &&& mk)) (own_ix k p1) (own_ixv hk2 hm p1) (by simp only [own_ad, List.length_set, List.length_replicate]; rw [hN]; exact own_ixlt hk1 _) Fob1_bits Fob1_mask La Z0) 0 2 514 rfl rfl rfl (by decide) (by decide) (by decide) (by decide) rfl ?_
      rintro _ _ ⟨rfl, rfl⟩
      rw [own_pv2 hk1 hm hN]
      rw [own_self, if_neg (by decide)]
      refine W.iconst C (1 : Int32) at_284 rfl ?_
      refine W.icmp_ne C 292 at_285 rfl (fun b => absurd b (by decide)) (fun _ => ?_)
      refine W.iconst C (1 : Int32) at_288 rfl ?_
      refine W.goto C 293 at_289 rfl ?_
      refine W.istore C #[.val (.int p0), .val (.long p1), .second, .val (.long p2), .second, .val (.long p3), .second, .val (.int p4), .val (.int sel), .val (.int half), .val (.int cnt), .val (.long mk), .second, .val (.long p1), .second, .val (.long f2), .second, .val (.int mode), .val (.long g), .second, .val (.ref ob1), .val (.int (1 : Int32))] at_293 rfl ?_
      refine W.iload C at_295 rfl ?_
      refine W.if_eq C 315 at_297 rfl (fun b => absurd b (by decide)) (fun _ => ?_)
      refine W.aload C at_300 rfl rfl ?_
      refine W.lload C at_302 rfl ?_
      refine W.callV C (y' := y8) at_304 (tkw hw 40 rfl) (tkw hw 41 rfl) (tkw hw 43 rfl) (tkw hw 42 rfl) (tkw hw 5 rfl) (tkw hw 44 rfl) (by decide) Aob1 (argsL := [(.long f2)]) (rest := []) rfl (lenOf pd_1 rfl) (con_8 l Z a0 hw hp6 n0 ob1 f2 ab mk (own_ad (own_ad (List.replicate N (0 : Int64)) (own_ix k p1) (p1 &&& mk)) (own_ix k f2) (f2 &&& mk)) (own_ix k f2) (own_ixv hk2 hm f2) (by simp only [own_ad, List.length_set, List.length_replicate]; rw [hN]; exact own_ixlt hk1 _) Fob1_bits Fob1_mask La Z0) 0 2 514 rfl rfl rfl (by decide) (by decide) (by decide) (by decide) rfl ?_
      rintro _ _ ⟨rfl, rfl⟩
      rw [own_pv2 hk1 hm hN]
      rw [own_self, show (if own_same f2 p1 mk = 0 then (1 : Int32) else 1) = 1 from by split <;> rfl]
      refine W.iconst C (1 : Int32) at_307 rfl ?_
      refine W.icmp_ne C 315 at_308 rfl (fun b => absurd b (by decide)) (fun _ => ?_)
      refine W.iconst C (1 : Int32) at_311 rfl ?_
      refine W.goto C 316 at_312 rfl ?_
      refine W.istore C #[.val (.int p0), .val (.long p1), .second, .val (.long p2), .second, .val (.long p3), .second, .val (.int p4), .val (.int sel), .val (.int half), .val (.int cnt), .val (.long mk), .second, .val (.long p1), .second, .val (.long f2), .second, .val (.int mode), .val (.long g), .second, .val (.ref ob1), .val (.int (1 : Int32))] at_316 rfl ?_
      refine W.iload C at_318 rfl ?_
      refine W.if_eq C 366 at_320 rfl (fun b => absurd b (by decide)) (fun _ => ?_)
      refine W.aload C at_323 rfl rfl ?_
      refine W.lload C at_325 rfl ?_
      refine W.callV C (y' := y8) at_327 (tkw hw 40 rfl) (tkw hw 41 rfl) (tkw hw 43 rfl) (tkw hw 42 rfl) (tkw hw 5 rfl) (tkw hw 44 rfl) (by decide) Aob1 (argsL := [(.long g)]) (rest := []) rfl (lenOf pd_1 rfl) (con_8 l Z a0 hw hp6 n0 ob1 g ab mk (own_ad (own_ad (List.replicate N (0 : Int64)) (own_ix k p1) (p1 &&& mk)) (own_ix k f2) (f2 &&& mk)) (own_ix k g) (own_ixv hk2 hm g) (by simp only [own_ad, List.length_set, List.length_replicate]; rw [hN]; exact own_ixlt hk1 _) Fob1_bits Fob1_mask La Z0) 0 2 514 rfl rfl rfl (by decide) (by decide) (by decide) (by decide) rfl ?_
      rintro _ _ ⟨rfl, rfl⟩
      rw [own_pv2 hk1 hm hN]
      rw [if_neg b1]
      refine W.lload C at_330 rfl ?_
      refine W.lload C at_332 rfl ?_
      refine W.lload C at_334 rfl ?_
      refine W.callS C (y' := y10) at_336 (tkw hw 50 rfl) (tkw hw 51 rfl) (tkw hw 52 rfl) (tkw hw 53 rfl) (by decide) (argsL := [(.long g), (.long p1), (.long mk)]) (rest := [(.int (1 : Int32))]) rfl (lenOf pd_7 rfl) (con_10 l Z a0 hw hp6 n0 g p1 mk) 1 2 514 rfl rfl rfl (by decide) (by decide) (by decide) (by decide) rfl ?_
      rintro _ _ ⟨rfl, rfl⟩
      refine W.if_ne C 354 at_339 rfl (fun b8 => ?_) (fun b8 => absurd b8 b1)
      refine W.iconst C (1 : Int32) at_354 rfl ?_
      refine W.goto C 359 at_355 rfl ?_
      refine W.icmp_ne C 366 at_359 rfl (fun b9 => absurd rfl b9) (fun b9 => ?_)
      refine W.iconst C (1 : Int32) at_362 rfl ?_
      refine W.goto C 367 at_363 rfl ?_
      refine W.istore C #[.val (.int p0), .val (.long p1), .second, .val (.long p2), .second, .val (.long p3), .second, .val (.int p4), .val (.int sel), .val (.int half), .val (.int cnt), .val (.long mk), .second, .val (.long p1), .second, .val (.long f2), .second, .val (.int mode), .val (.long g), .second, .val (.ref ob1), .val (.int (1 : Int32))] at_367 rfl ?_
      refine W.iload C at_369 rfl ?_
      exact W.iret C at_371 (by simp) rfl (by decide) (by decide) rfl
  refine W.iloadN C at_0 rfl ?_
  refine W.iconst C (3 : Int32) at_1 rfl ?_
  refine W.iand C at_2 ?_
  rcases own_sel p0 with q | q | q | q
  · rw [q]
    have J89 : ∀ (cnt : Int32) (f2 : Int64), own_max (64 : Int64) (own_hob (((2 : Int64) * ((cnt).toInt64)) - (1 : Int64))) = 64 → W p l e room_1 s m #[(.int p0), (.long p1), (.long p2), (.long p3), (.int p4)] below meth c n0 (fun v _ => v = some (.int 1)) room_1.cells room_1.slots 0 0 h0 89 #[.val (.int p0), .val (.long p1), .second, .val (.long p2), .second, .val (.long p3), .second, .val (.int p4), .val (.int (0 : Int32)), .val (.int (32 : Int32)), .val (.int cnt), .val (.long (4095 : Int64)), .second, .val (.long p1), .second, .val (.long f2), .second, .unset, .unset, .unset, .unset, .unset] [] := by
      intro cnt f2 hc
      refine W.iload C at_89 rfl ?_
      refine W.iconst C (3 : Int32) at_91 rfl ?_
      refine W.iand C at_92 ?_
      refine W.istore C #[.val (.int p0), .val (.long p1), .second, .val (.long p2), .second, .val (.long p3), .second, .val (.int p4), .val (.int (0 : Int32)), .val (.int (32 : Int32)), .val (.int cnt), .val (.long (4095 : Int64)), .second, .val (.long p1), .second, .val (.long f2), .second, .val (.int (p4 &&& (3 : Int32))), .unset, .unset, .unset, .unset] at_93 rfl ?_
      refine W.iload C at_95 rfl ?_
      refine W.if_ne C 107 at_97 rfl (fun b10 => ?_) (fun b10 => ?_)
      · skip
        refine W.iload C at_107 rfl ?_
        refine W.iconst C (1 : Int32) at_109 rfl ?_
        refine W.icmp_ne C 130 at_110 rfl (fun b11 => ?_) (fun b11 => ?_)
        · skip
          refine W.iload C at_130 rfl ?_
          refine W.iconst C (2 : Int32) at_132 rfl ?_
          refine W.icmp_ne C 153 at_133 rfl (fun b12 => ?_) (fun b12 => ?_)
          · skip
            refine W.lload C at_153 rfl ?_
            refine W.ldc2J C (v := (-64 : Int64)) at_155 (tkw hw 1 rfl) ?_
            refine W.land C at_158 ?_
            refine W.lload C at_159 rfl ?_
            refine W.ldc2J C (v := (63 : Int64)) at_161 (tkw hw 2 rfl) ?_
            refine W.land C at_164 ?_
            refine W.lor C at_165 ?_
            refine W.lstore C #[.val (.int p0), .val (.long p1), .second, .val (.long p2), .second, .val (.long p3), .second, .val (.int p4), .val (.int (0 : Int32)), .val (.int (32 : Int32)), .val (.int cnt), .val (.long (4095 : Int64)), .second, .val (.long p1), .second, .val (.long f2), .second, .val (.int (p4 &&& (3 : Int32))), .val (.long ((p1 &&& (-64 : Int64)) ||| (p3 &&& (63 : Int64)))), .second, .unset, .unset] at_166 rfl ?_
            exact J168 _ _ cnt (p4 &&& (3 : Int32)) (4095 : Int64) f2 ((p1 &&& (-64 : Int64)) ||| (p3 &&& (63 : Int64))) 64 12 64 (by decide) (by decide) rfl rfl hc (by decide) (by decide)
          · skip
            refine W.lload C at_136 rfl ?_
            refine W.lload C at_138 rfl ?_
            refine W.lload C at_140 rfl ?_
            refine W.ldc2J C (v := (-1 : Int64)) at_142 (tkw hw 54 rfl) ?_
            refine W.lxorV C (-4096 : Int64) at_145 (by decide) ?_
            refine W.land C at_146 ?_
            refine W.lxor C at_147 ?_
            refine W.lstore C #[.val (.int p0), .val (.long p1), .second, .val (.long p2), .second, .val (.long p3), .second, .val (.int p4), .val (.int (0 : Int32)), .val (.int (32 : Int32)), .val (.int cnt), .val (.long (4095 : Int64)), .second, .val (.long p1), .second, .val (.long f2), .second, .val (.int (p4 &&& (3 : Int32))), .val (.long (f2 ^^^ (p3 &&& (-4096 : Int64)))), .second, .unset, .unset] at_148 rfl ?_
            refine W.goto C 168 at_150 rfl ?_
            exact J168 _ _ cnt (p4 &&& (3 : Int32)) (4095 : Int64) f2 (f2 ^^^ (p3 &&& (-4096 : Int64))) 64 12 64 (by decide) (by decide) rfl rfl hc (by decide) (by decide)
        · skip
          refine W.lload C at_113 rfl ?_
          refine W.lload C at_115 rfl ?_
          refine W.lload C at_117 rfl ?_
          refine W.ldc2J C (v := (-1 : Int64)) at_119 (tkw hw 54 rfl) ?_
          refine W.lxorV C (-4096 : Int64) at_122 (by decide) ?_
          refine W.land C at_123 ?_
          refine W.lxor C at_124 ?_
          refine W.lstore C #[.val (.int p0), .val (.long p1), .second, .val (.long p2), .second, .val (.long p3), .second, .val (.int p4), .val (.int (0 : Int32)), .val (.int (32 : Int32)), .val (.int cnt), .val (.long (4095 : Int64)), .second, .val (.long p1), .second, .val (.long f2), .second, .val (.int (p4 &&& (3 : Int32))), .val (.long (p1 ^^^ (p3 &&& (-4096 : Int64)))), .second, .unset, .unset] at_125 rfl ?_
          refine W.goto C 168 at_127 rfl ?_
          exact J168 _ _ cnt (p4 &&& (3 : Int32)) (4095 : Int64) f2 (p1 ^^^ (p3 &&& (-4096 : Int64))) 64 12 64 (by decide) (by decide) rfl rfl hc (by decide) (by decide)
      · skip
        refine W.lload C at_100 rfl ?_
        refine W.lstore C #[.val (.int p0), .val (.long p1), .second, .val (.long p2), .second, .val (.long p3), .second, .val (.int p4), .val (.int (0 : Int32)), .val (.int (32 : Int32)), .val (.int cnt), .val (.long (4095 : Int64)), .second, .val (.long p1), .second, .val (.long f2), .second, .val (.int (p4 &&& (3 : Int32))), .val (.long p3), .second, .unset, .unset] at_102 rfl ?_
        refine W.goto C 168 at_104 rfl ?_
        exact J168 _ _ cnt (p4 &&& (3 : Int32)) (4095 : Int64) f2 p3 64 12 64 (by decide) (by decide) rfl rfl hc (by decide) (by decide)
    refine W.istore C #[.val (.int p0), .val (.long p1), .second, .val (.long p2), .second, .val (.long p3), .second, .val (.int p4), .val (.int (0 : Int32)), .unset, .unset, .unset, .unset, .unset, .unset, .unset, .unset, .unset, .unset, .unset, .unset, .unset] at_3 rfl ?_
    refine W.iconst C (1 : Int32) at_5 rfl ?_
    refine W.iconst C (5 : Int32) at_6 rfl ?_
    refine W.iload C at_7 rfl ?_
    refine W.iaddV C (5 : Int32) at_9 (by decide) ?_
    refine W.ishlV C (32 : Int32) at_10 (by decide) ?_
    refine W.istore C #[.val (.int p0), .val (.long p1), .second, .val (.long p2), .second, .val (.long p3), .second, .val (.int p4), .val (.int (0 : Int32)), .val (.int (32 : Int32)), .unset, .unset, .unset, .unset, .unset, .unset, .unset, .unset, .unset, .unset, .unset, .unset] at_11 rfl ?_
    refine W.iload C at_13 rfl ?_
    refine W.iconst C (1 : Int32) at_15 rfl ?_
    refine W.iaddV C (33 : Int32) at_16 (by decide) ?_
    refine W.iloadN C at_17 rfl ?_
    refine W.iconst C (2 : Int32) at_18 rfl ?_
    refine W.iushr C at_19 ?_
    refine W.iload C at_20 rfl ?_
    refine W.iconst C (1 : Int32) at_22 rfl ?_
    refine W.isubV C (31 : Int32) at_23 (by decide) ?_
    refine W.iand C at_24 ?_
    refine W.iadd C at_25 ?_
    refine W.istore C #[.val (.int p0), .val (.long p1), .second, .val (.long p2), .second, .val (.long p3), .second, .val (.int p4), .val (.int (0 : Int32)), .val (.int (32 : Int32)), .val (.int ((33 : Int32) + (((p0).toUInt32 >>> ((2 : Int32) &&& 31).toUInt32).toInt32 &&& (31 : Int32)))), .unset, .unset, .unset, .unset, .unset, .unset, .unset, .unset, .unset, .unset, .unset] at_26 rfl ?_
    refine W.iload C at_28 rfl ?_
    refine W.if_ne C 50 at_30 rfl (fun b => absurd b (by decide)) (fun _ => ?_)
    refine W.iload C at_33 rfl ?_
    refine W.iconst C (3 : Int32) at_35 rfl ?_
    refine W.iushr C at_36 ?_
    refine W.iconst C (1 : Int32) at_37 rfl ?_
    refine W.iand C at_38 ?_
    refine W.if_eq C 50 at_39 rfl (fun b13 => ?_) (fun b13 => ?_)
    · skip
      refine W.ldc2J C (v := (4096 : Int64)) at_50 (tkw hw 0 rfl) ?_
      refine W.iload C at_53 rfl ?_
      refine W.lshlV C (4096 : Int64) at_55 (by decide) ?_
      refine W.lconst C (1 : Int64) at_56 rfl ?_
      refine W.lsubV C (4095 : Int64) at_57 (by decide) ?_
      refine W.lstore C #[.val (.int p0), .val (.long p1), .second, .val (.long p2), .second, .val (.long p3), .second, .val (.int p4), .val (.int (0 : Int32)), .val (.int (32 : Int32)), .val (.int ((33 : Int32) + (((p0).toUInt32 >>> ((2 : Int32) &&& 31).toUInt32).toInt32 &&& (31 : Int32)))), .val (.long (4095 : Int64)), .second, .unset, .unset, .unset, .unset, .unset, .unset, .unset, .unset, .unset] at_58 rfl ?_
      refine W.lloadN C at_60 rfl ?_
      refine W.lstore C #[.val (.int p0), .val (.long p1), .second, .val (.long p2), .second, .val (.long p3), .second, .val (.int p4), .val (.int (0 : Int32)), .val (.int (32 : Int32)), .val (.int ((33 : Int32) + (((p0).toUInt32 >>> ((2 : Int32) &&& 31).toUInt32).toInt32 &&& (31 : Int32)))), .val (.long (4095 : Int64)), .second, .val (.long p1), .second, .unset, .unset, .unset, .unset, .unset, .unset, .unset] at_61 rfl ?_
      refine W.iload C at_63 rfl ?_
      refine W.iconst C (2 : Int32) at_65 rfl ?_
      refine W.iushr C at_66 ?_
      refine W.iconst C (1 : Int32) at_67 rfl ?_
      refine W.iand C at_68 ?_
      refine W.if_eq C 86 at_69 rfl (fun b14 => ?_) (fun b14 => ?_)
      · skip
        refine W.lloadN C at_86 rfl ?_
        refine W.lstore C #[.val (.int p0), .val (.long p1), .second, .val (.long p2), .second, .val (.long p3), .second, .val (.int p4), .val (.int (0 : Int32)), .val (.int (32 : Int32)), .val (.int ((33 : Int32) + (((p0).toUInt32 >>> ((2 : Int32) &&& 31).toUInt32).toInt32 &&& (31 : Int32)))), .val (.long (4095 : Int64)), .second, .val (.long p1), .second, .val (.long p2), .second, .unset, .unset, .unset, .unset, .unset] at_87 rfl ?_
        exact J89 ((33 : Int32) + (((p0).toUInt32 >>> ((2 : Int32) &&& 31).toUInt32).toInt32 &&& (31 : Int32))) p2 (own_c0 p0)
      · skip
        refine W.lloadN C at_72 rfl ?_
        refine W.ldc2J C (v := (-64 : Int64)) at_73 (tkw hw 1 rfl) ?_
        refine W.land C at_76 ?_
        refine W.lloadN C at_77 rfl ?_
        refine W.ldc2J C (v := (63 : Int64)) at_78 (tkw hw 2 rfl) ?_
        refine W.land C at_81 ?_
        refine W.lor C at_82 ?_
        refine W.goto C 87 at_83 rfl ?_
        refine W.lstore C #[.val (.int p0), .val (.long p1), .second, .val (.long p2), .second, .val (.long p3), .second, .val (.int p4), .val (.int (0 : Int32)), .val (.int (32 : Int32)), .val (.int ((33 : Int32) + (((p0).toUInt32 >>> ((2 : Int32) &&& 31).toUInt32).toInt32 &&& (31 : Int32)))), .val (.long (4095 : Int64)), .second, .val (.long p1), .second, .val (.long ((p1 &&& (-64 : Int64)) ||| (p2 &&& (63 : Int64)))), .second, .unset, .unset, .unset, .unset, .unset] at_87 rfl ?_
        exact J89 ((33 : Int32) + (((p0).toUInt32 >>> ((2 : Int32) &&& 31).toUInt32).toInt32 &&& (31 : Int32))) ((p1 &&& (-64 : Int64)) ||| (p2 &&& (63 : Int64))) (own_c0 p0)
    · skip
      refine W.iloadN C at_42 rfl ?_
      refine W.iconst C (2 : Int32) at_43 rfl ?_
      refine W.ishr C at_44 ?_
      refine W.bipush C (33 : Int32) at_45 rfl ?_
      refine W.irem C at_47 (by decide) ?_
      refine W.istore C #[.val (.int p0), .val (.long p1), .second, .val (.long p2), .second, .val (.long p3), .second, .val (.int p4), .val (.int (0 : Int32)), .val (.int (32 : Int32)), .val (.int ((p0 >>> ((2 : Int32) &&& 31)) % (33 : Int32))), .unset, .unset, .unset, .unset, .unset, .unset, .unset, .unset, .unset, .unset, .unset] at_48 rfl ?_
      refine W.ldc2J C (v := (4096 : Int64)) at_50 (tkw hw 0 rfl) ?_
      refine W.iload C at_53 rfl ?_
      refine W.lshlV C (4096 : Int64) at_55 (by decide) ?_
      refine W.lconst C (1 : Int64) at_56 rfl ?_
      refine W.lsubV C (4095 : Int64) at_57 (by decide) ?_
      refine W.lstore C #[.val (.int p0), .val (.long p1), .second, .val (.long p2), .second, .val (.long p3), .second, .val (.int p4), .val (.int (0 : Int32)), .val (.int (32 : Int32)), .val (.int ((p0 >>> ((2 : Int32) &&& 31)) % (33 : Int32))), .val (.long (4095 : Int64)), .second, .unset, .unset, .unset, .unset, .unset, .unset, .unset, .unset, .unset] at_58 rfl ?_
      refine W.lloadN C at_60 rfl ?_
      refine W.lstore C #[.val (.int p0), .val (.long p1), .second, .val (.long p2), .second, .val (.long p3), .second, .val (.int p4), .val (.int (0 : Int32)), .val (.int (32 : Int32)), .val (.int ((p0 >>> ((2 : Int32) &&& 31)) % (33 : Int32))), .val (.long (4095 : Int64)), .second, .val (.long p1), .second, .unset, .unset, .unset, .unset, .unset, .unset, .unset] at_61 rfl ?_
      refine W.iload C at_63 rfl ?_
      refine W.iconst C (2 : Int32) at_65 rfl ?_
      refine W.iushr C at_66 ?_
      refine W.iconst C (1 : Int32) at_67 rfl ?_
      refine W.iand C at_68 ?_
      refine W.if_eq C 86 at_69 rfl (fun b15 => ?_) (fun b15 => ?_)
      · skip
        refine W.lloadN C at_86 rfl ?_
        refine W.lstore C #[.val (.int p0), .val (.long p1), .second, .val (.long p2), .second, .val (.long p3), .second, .val (.int p4), .val (.int (0 : Int32)), .val (.int (32 : Int32)), .val (.int ((p0 >>> ((2 : Int32) &&& 31)) % (33 : Int32))), .val (.long (4095 : Int64)), .second, .val (.long p1), .second, .val (.long p2), .second, .unset, .unset, .unset, .unset, .unset] at_87 rfl ?_
        exact J89 ((p0 >>> ((2 : Int32) &&& 31)) % (33 : Int32)) p2 (own_cz p0)
      · skip
        refine W.lloadN C at_72 rfl ?_
        refine W.ldc2J C (v := (-64 : Int64)) at_73 (tkw hw 1 rfl) ?_
        refine W.land C at_76 ?_
        refine W.lloadN C at_77 rfl ?_
        refine W.ldc2J C (v := (63 : Int64)) at_78 (tkw hw 2 rfl) ?_
        refine W.land C at_81 ?_
        refine W.lor C at_82 ?_
        refine W.goto C 87 at_83 rfl ?_
        refine W.lstore C #[.val (.int p0), .val (.long p1), .second, .val (.long p2), .second, .val (.long p3), .second, .val (.int p4), .val (.int (0 : Int32)), .val (.int (32 : Int32)), .val (.int ((p0 >>> ((2 : Int32) &&& 31)) % (33 : Int32))), .val (.long (4095 : Int64)), .second, .val (.long p1), .second, .val (.long ((p1 &&& (-64 : Int64)) ||| (p2 &&& (63 : Int64)))), .second, .unset, .unset, .unset, .unset, .unset] at_87 rfl ?_
        exact J89 ((p0 >>> ((2 : Int32) &&& 31)) % (33 : Int32)) ((p1 &&& (-64 : Int64)) ||| (p2 &&& (63 : Int64))) (own_cz p0)
  · rw [q]
    have J89 : ∀ (cnt : Int32) (f2 : Int64), own_max (64 : Int64) (own_hob (((2 : Int64) * ((cnt).toInt64)) - (1 : Int64))) = 128 → W p l e room_1 s m #[(.int p0), (.long p1), (.long p2), (.long p3), (.int p4)] below meth c n0 (fun v _ => v = some (.int 1)) room_1.cells room_1.slots 0 0 h0 89 #[.val (.int p0), .val (.long p1), .second, .val (.long p2), .second, .val (.long p3), .second, .val (.int p4), .val (.int (1 : Int32)), .val (.int (64 : Int32)), .val (.int cnt), .val (.long (8191 : Int64)), .second, .val (.long p1), .second, .val (.long f2), .second, .unset, .unset, .unset, .unset, .unset] [] := by
      intro cnt f2 hc
      refine W.iload C at_89 rfl ?_
      refine W.iconst C (3 : Int32) at_91 rfl ?_
      refine W.iand C at_92 ?_
      refine W.istore C #[.val (.int p0), .val (.long p1), .second, .val (.long p2), .second, .val (.long p3), .second, .val (.int p4), .val (.int (1 : Int32)), .val (.int (64 : Int32)), .val (.int cnt), .val (.long (8191 : Int64)), .second, .val (.long p1), .second, .val (.long f2), .second, .val (.int (p4 &&& (3 : Int32))), .unset, .unset, .unset, .unset] at_93 rfl ?_
      refine W.iload C at_95 rfl ?_
      refine W.if_ne C 107 at_97 rfl (fun b16 => ?_) (fun b16 => ?_)
      · skip
        refine W.iload C at_107 rfl ?_
        refine W.iconst C (1 : Int32) at_109 rfl ?_
        refine W.icmp_ne C 130 at_110 rfl (fun b17 => ?_) (fun b17 => ?_)
        · skip
          refine W.iload C at_130 rfl ?_
          refine W.iconst C (2 : Int32) at_132 rfl ?_
          refine W.icmp_ne C 153 at_133 rfl (fun b18 => ?_) (fun b18 => ?_)
          · skip
            refine W.lload C at_153 rfl ?_
            refine W.ldc2J C (v := (-64 : Int64)) at_155 (tkw hw 1 rfl) ?_
            refine W.land C at_158 ?_
            refine W.lload C at_159 rfl ?_
            refine W.ldc2J C (v := (63 : Int64)) at_161 (tkw hw 2 rfl) ?_
            refine W.land C at_164 ?_
            refine W.lor C at_165 ?_
            refine W.lstore C #[.val (.int p0), .val (.long p1), .second, .val (.long p2), .second, .val (.long p3), .second, .val (.int p4), .val (.int (1 : Int32)), .val (.int (64 : Int32)), .val (.int cnt), .val (.long (8191 : Int64)), .second, .val (.long p1), .second, .val (.long f2), .second, .val (.int (p4 &&& (3 : Int32))), .val (.long ((p1 &&& (-64 : Int64)) ||| (p3 &&& (63 : Int64)))), .second, .unset, .unset] at_166 rfl ?_
            exact J168 _ _ cnt (p4 &&& (3 : Int32)) (8191 : Int64) f2 ((p1 &&& (-64 : Int64)) ||| (p3 &&& (63 : Int64))) 128 13 128 (by decide) (by decide) rfl rfl hc (by decide) (by decide)
          · skip
            refine W.lload C at_136 rfl ?_
            refine W.lload C at_138 rfl ?_
            refine W.lload C at_140 rfl ?_
            refine W.ldc2J C (v := (-1 : Int64)) at_142 (tkw hw 54 rfl) ?_
            refine W.lxorV C (-8192 : Int64) at_145 (by decide) ?_
            refine W.land C at_146 ?_
            refine W.lxor C at_147 ?_
            refine W.lstore C #[.val (.int p0), .val (.long p1), .second, .val (.long p2), .second, .val (.long p3), .second, .val (.int p4), .val (.int (1 : Int32)), .val (.int (64 : Int32)), .val (.int cnt), .val (.long (8191 : Int64)), .second, .val (.long p1), .second, .val (.long f2), .second, .val (.int (p4 &&& (3 : Int32))), .val (.long (f2 ^^^ (p3 &&& (-8192 : Int64)))), .second, .unset, .unset] at_148 rfl ?_
            refine W.goto C 168 at_150 rfl ?_
            exact J168 _ _ cnt (p4 &&& (3 : Int32)) (8191 : Int64) f2 (f2 ^^^ (p3 &&& (-8192 : Int64))) 128 13 128 (by decide) (by decide) rfl rfl hc (by decide) (by decide)
        · skip
          refine W.lload C at_113 rfl ?_
          refine W.lload C at_115 rfl ?_
          refine W.lload C at_117 rfl ?_
          refine W.ldc2J C (v := (-1 : Int64)) at_119 (tkw hw 54 rfl) ?_
          refine W.lxorV C (-8192 : Int64) at_122 (by decide) ?_
          refine W.land C at_123 ?_
          refine W.lxor C at_124 ?_
          refine W.lstore C #[.val (.int p0), .val (.long p1), .second, .val (.long p2), .second, .val (.long p3), .second, .val (.int p4), .val (.int (1 : Int32)), .val (.int (64 : Int32)), .val (.int cnt), .val (.long (8191 : Int64)), .second, .val (.long p1), .second, .val (.long f2), .second, .val (.int (p4 &&& (3 : Int32))), .val (.long (p1 ^^^ (p3 &&& (-8192 : Int64)))), .second, .unset, .unset] at_125 rfl ?_
          refine W.goto C 168 at_127 rfl ?_
          exact J168 _ _ cnt (p4 &&& (3 : Int32)) (8191 : Int64) f2 (p1 ^^^ (p3 &&& (-8192 : Int64))) 128 13 128 (by decide) (by decide) rfl rfl hc (by decide) (by decide)
      · skip
        refine W.lload C at_100 rfl ?_
        refine W.lstore C #[.val (.int p0), .val (.long p1), .second, .val (.long p2), .second, .val (.long p3), .second, .val (.int p4), .val (.int (1 : Int32)), .val (.int (64 : Int32)), .val (.int cnt), .val (.long (8191 : Int64)), .second, .val (.long p1), .second, .val (.long f2), .second, .val (.int (p4 &&& (3 : Int32))), .val (.long p3), .second, .unset, .unset] at_102 rfl ?_
        refine W.goto C 168 at_104 rfl ?_
        exact J168 _ _ cnt (p4 &&& (3 : Int32)) (8191 : Int64) f2 p3 128 13 128 (by decide) (by decide) rfl rfl hc (by decide) (by decide)
    refine W.istore C #[.val (.int p0), .val (.long p1), .second, .val (.long p2), .second, .val (.long p3), .second, .val (.int p4), .val (.int (1 : Int32)), .unset, .unset, .unset, .unset, .unset, .unset, .unset, .unset, .unset, .unset, .unset, .unset, .unset] at_3 rfl ?_
    refine W.iconst C (1 : Int32) at_5 rfl ?_
    refine W.iconst C (5 : Int32) at_6 rfl ?_
    refine W.iload C at_7 rfl ?_
    refine W.iaddV C (6 : Int32) at_9 (by decide) ?_
    refine W.ishlV C (64 : Int32) at_10 (by decide) ?_
    refine W.istore C #[.val (.int p0), .val (.long p1), .second, .val (.long p2), .second, .val (.long p3), .second, .val (.int p4), .val (.int (1 : Int32)), .val (.int (64 : Int32)), .unset, .unset, .unset, .unset, .unset, .unset, .unset, .unset, .unset, .unset, .unset, .unset] at_11 rfl ?_
    refine W.iload C at_13 rfl ?_
    refine W.iconst C (1 : Int32) at_15 rfl ?_
    refine W.iaddV C (65 : Int32) at_16 (by decide) ?_
    refine W.iloadN C at_17 rfl ?_
    refine W.iconst C (2 : Int32) at_18 rfl ?_
    refine W.iushr C at_19 ?_
    refine W.iload C at_20 rfl ?_
    refine W.iconst C (1 : Int32) at_22 rfl ?_
    refine W.isubV C (63 : Int32) at_23 (by decide) ?_
    refine W.iand C at_24 ?_
    refine W.iadd C at_25 ?_
    refine W.istore C #[.val (.int p0), .val (.long p1), .second, .val (.long p2), .second, .val (.long p3), .second, .val (.int p4), .val (.int (1 : Int32)), .val (.int (64 : Int32)), .val (.int ((65 : Int32) + (((p0).toUInt32 >>> ((2 : Int32) &&& 31).toUInt32).toInt32 &&& (63 : Int32)))), .unset, .unset, .unset, .unset, .unset, .unset, .unset, .unset, .unset, .unset, .unset] at_26 rfl ?_
    refine W.iload C at_28 rfl ?_
    refine W.if_ne C 50 at_30 rfl (fun _ => ?_) (fun b => absurd b (by decide))
    refine W.ldc2J C (v := (4096 : Int64)) at_50 (tkw hw 0 rfl) ?_
    refine W.iload C at_53 rfl ?_
    refine W.lshlV C (8192 : Int64) at_55 (by decide) ?_
    refine W.lconst C (1 : Int64) at_56 rfl ?_
    refine W.lsubV C (8191 : Int64) at_57 (by decide) ?_
    refine W.lstore C #[.val (.int p0), .val (.long p1), .second, .val (.long p2), .second, .val (.long p3), .second, .val (.int p4), .val (.int (1 : Int32)), .val (.int (64 : Int32)), .val (.int ((65 : Int32) + (((p0).toUInt32 >>> ((2 : Int32) &&& 31).toUInt32).toInt32 &&& (63 : Int32)))), .val (.long (8191 : Int64)), .second, .unset, .unset, .unset, .unset, .unset, .unset, .unset, .unset, .unset] at_58 rfl ?_
    refine W.lloadN C at_60 rfl ?_
    refine W.lstore C #[.val (.int p0), .val (.long p1), .second, .val (.long p2), .second, .val (.long p3), .second, .val (.int p4), .val (.int (1 : Int32)), .val (.int (64 : Int32)), .val (.int ((65 : Int32) + (((p0).toUInt32 >>> ((2 : Int32) &&& 31).toUInt32).toInt32 &&& (63 : Int32)))), .val (.long (8191 : Int64)), .second, .val (.long p1), .second, .unset, .unset, .unset, .unset, .unset, .unset, .unset] at_61 rfl ?_
    refine W.iload C at_63 rfl ?_
    refine W.iconst C (2 : Int32) at_65 rfl ?_
    refine W.iushr C at_66 ?_
    refine W.iconst C (1 : Int32) at_67 rfl ?_
    refine W.iand C at_68 ?_
    refine W.if_eq C 86 at_69 rfl (fun b19 => ?_) (fun b19 => ?_)
    · skip
      refine W.lloadN C at_86 rfl ?_
      refine W.lstore C #[.val (.int p0), .val (.long p1), .second, .val (.long p2), .second, .val (.long p3), .second, .val (.int p4), .val (.int (1 : Int32)), .val (.int (64 : Int32)), .val (.int ((65 : Int32) + (((p0).toUInt32 >>> ((2 : Int32) &&& 31).toUInt32).toInt32 &&& (63 : Int32)))), .val (.long (8191 : Int64)), .second, .val (.long p1), .second, .val (.long p2), .second, .unset, .unset, .unset, .unset, .unset] at_87 rfl ?_
      exact J89 ((65 : Int32) + (((p0).toUInt32 >>> ((2 : Int32) &&& 31).toUInt32).toInt32 &&& (63 : Int32))) p2 (own_c1 p0)
    · skip
      refine W.lloadN C at_72 rfl ?_
      refine W.ldc2J C (v := (-64 : Int64)) at_73 (tkw hw 1 rfl) ?_
      refine W.land C at_76 ?_
      refine W.lloadN C at_77 rfl ?_
      refine W.ldc2J C (v := (63 : Int64)) at_78 (tkw hw 2 rfl) ?_
      refine W.land C at_81 ?_
      refine W.lor C at_82 ?_
      refine W.goto C 87 at_83 rfl ?_
      refine W.lstore C #[.val (.int p0), .val (.long p1), .second, .val (.long p2), .second, .val (.long p3), .second, .val (.int p4), .val (.int (1 : Int32)), .val (.int (64 : Int32)), .val (.int ((65 : Int32) + (((p0).toUInt32 >>> ((2 : Int32) &&& 31).toUInt32).toInt32 &&& (63 : Int32)))), .val (.long (8191 : Int64)), .second, .val (.long p1), .second, .val (.long ((p1 &&& (-64 : Int64)) ||| (p2 &&& (63 : Int64)))), .second, .unset, .unset, .unset, .unset, .unset] at_87 rfl ?_
      exact J89 ((65 : Int32) + (((p0).toUInt32 >>> ((2 : Int32) &&& 31).toUInt32).toInt32 &&& (63 : Int32))) ((p1 &&& (-64 : Int64)) ||| (p2 &&& (63 : Int64))) (own_c1 p0)
  · rw [q]
    have J89 : ∀ (cnt : Int32) (f2 : Int64), own_max (64 : Int64) (own_hob (((2 : Int64) * ((cnt).toInt64)) - (1 : Int64))) = 256 → W p l e room_1 s m #[(.int p0), (.long p1), (.long p2), (.long p3), (.int p4)] below meth c n0 (fun v _ => v = some (.int 1)) room_1.cells room_1.slots 0 0 h0 89 #[.val (.int p0), .val (.long p1), .second, .val (.long p2), .second, .val (.long p3), .second, .val (.int p4), .val (.int (2 : Int32)), .val (.int (128 : Int32)), .val (.int cnt), .val (.long (16383 : Int64)), .second, .val (.long p1), .second, .val (.long f2), .second, .unset, .unset, .unset, .unset, .unset] [] := by
      intro cnt f2 hc
      refine W.iload C at_89 rfl ?_
      refine W.iconst C (3 : Int32) at_91 rfl ?_
      refine W.iand C at_92 ?_
      refine W.istore C #[.val (.int p0), .val (.long p1), .second, .val (.long p2), .second, .val (.long p3), .second, .val (.int p4), .val (.int (2 : Int32)), .val (.int (128 : Int32)), .val (.int cnt), .val (.long (16383 : Int64)), .second, .val (.long p1), .second, .val (.long f2), .second, .val (.int (p4 &&& (3 : Int32))), .unset, .unset, .unset, .unset] at_93 rfl ?_
      refine W.iload C at_95 rfl ?_
      refine W.if_ne C 107 at_97 rfl (fun b20 => ?_) (fun b20 => ?_)
      · skip
        refine W.iload C at_107 rfl ?_
        refine W.iconst C (1 : Int32) at_109 rfl ?_
        refine W.icmp_ne C 130 at_110 rfl (fun b21 => ?_) (fun b21 => ?_)
        · skip
          refine W.iload C at_130 rfl ?_
          refine W.iconst C (2 : Int32) at_132 rfl ?_
          refine W.icmp_ne C 153 at_133 rfl (fun b22 => ?_) (fun b22 => ?_)
          · skip
            refine W.lload C at_153 rfl ?_
            refine W.ldc2J C (v := (-64 : Int64)) at_155 (tkw hw 1 rfl) ?_
            refine W.land C at_158 ?_
            refine W.lload C at_159 rfl ?_
            refine W.ldc2J C (v := (63 : Int64)) at_161 (tkw hw 2 rfl) ?_
            refine W.land C at_164 ?_
            refine W.lor C at_165 ?_
            refine W.lstore C #[.val (.int p0), .val (.long p1), .second, .val (.long p2), .second, .val (.long p3), .second, .val (.int p4), .val (.int (2 : Int32)), .val (.int (128 : Int32)), .val (.int cnt), .val (.long (16383 : Int64)), .second, .val (.long p1), .second, .val (.long f2), .second, .val (.int (p4 &&& (3 : Int32))), .val (.long ((p1 &&& (-64 : Int64)) ||| (p3 &&& (63 : Int64)))), .second, .unset, .unset] at_166 rfl ?_
            exact J168 _ _ cnt (p4 &&& (3 : Int32)) (16383 : Int64) f2 ((p1 &&& (-64 : Int64)) ||| (p3 &&& (63 : Int64))) 256 14 256 (by decide) (by decide) rfl rfl hc (by decide) (by decide)
          · skip
            refine W.lload C at_136 rfl ?_
            refine W.lload C at_138 rfl ?_
            refine W.lload C at_140 rfl ?_
            refine W.ldc2J C (v := (-1 : Int64)) at_142 (tkw hw 54 rfl) ?_
            refine W.lxorV C (-16384 : Int64) at_145 (by decide) ?_
            refine W.land C at_146 ?_
            refine W.lxor C at_147 ?_
            refine W.lstore C #[.val (.int p0), .val (.long p1), .second, .val (.long p2), .second, .val (.long p3), .second, .val (.int p4), .val (.int (2 : Int32)), .val (.int (128 : Int32)), .val (.int cnt), .val (.long (16383 : Int64)), .second, .val (.long p1), .second, .val (.long f2), .second, .val (.int (p4 &&& (3 : Int32))), .val (.long (f2 ^^^ (p3 &&& (-16384 : Int64)))), .second, .unset, .unset] at_148 rfl ?_
            refine W.goto C 168 at_150 rfl ?_
            exact J168 _ _ cnt (p4 &&& (3 : Int32)) (16383 : Int64) f2 (f2 ^^^ (p3 &&& (-16384 : Int64))) 256 14 256 (by decide) (by decide) rfl rfl hc (by decide) (by decide)
        · skip
          refine W.lload C at_113 rfl ?_
          refine W.lload C at_115 rfl ?_
          refine W.lload C at_117 rfl ?_
          refine W.ldc2J C (v := (-1 : Int64)) at_119 (tkw hw 54 rfl) ?_
          refine W.lxorV C (-16384 : Int64) at_122 (by decide) ?_
          refine W.land C at_123 ?_
          refine W.lxor C at_124 ?_
          refine W.lstore C #[.val (.int p0), .val (.long p1), .second, .val (.long p2), .second, .val (.long p3), .second, .val (.int p4), .val (.int (2 : Int32)), .val (.int (128 : Int32)), .val (.int cnt), .val (.long (16383 : Int64)), .second, .val (.long p1), .second, .val (.long f2), .second, .val (.int (p4 &&& (3 : Int32))), .val (.long (p1 ^^^ (p3 &&& (-16384 : Int64)))), .second, .unset, .unset] at_125 rfl ?_
          refine W.goto C 168 at_127 rfl ?_
          exact J168 _ _ cnt (p4 &&& (3 : Int32)) (16383 : Int64) f2 (p1 ^^^ (p3 &&& (-16384 : Int64))) 256 14 256 (by decide) (by decide) rfl rfl hc (by decide) (by decide)
      · skip
        refine W.lload C at_100 rfl ?_
        refine W.lstore C #[.val (.int p0), .val (.long p1), .second, .val (.long p2), .second, .val (.long p3), .second, .val (.int p4), .val (.int (2 : Int32)), .val (.int (128 : Int32)), .val (.int cnt), .val (.long (16383 : Int64)), .second, .val (.long p1), .second, .val (.long f2), .second, .val (.int (p4 &&& (3 : Int32))), .val (.long p3), .second, .unset, .unset] at_102 rfl ?_
        refine W.goto C 168 at_104 rfl ?_
        exact J168 _ _ cnt (p4 &&& (3 : Int32)) (16383 : Int64) f2 p3 256 14 256 (by decide) (by decide) rfl rfl hc (by decide) (by decide)
    refine W.istore C #[.val (.int p0), .val (.long p1), .second, .val (.long p2), .second, .val (.long p3), .second, .val (.int p4), .val (.int (2 : Int32)), .unset, .unset, .unset, .unset, .unset, .unset, .unset, .unset, .unset, .unset, .unset, .unset, .unset] at_3 rfl ?_
    refine W.iconst C (1 : Int32) at_5 rfl ?_
    refine W.iconst C (5 : Int32) at_6 rfl ?_
    refine W.iload C at_7 rfl ?_
    refine W.iaddV C (7 : Int32) at_9 (by decide) ?_
    refine W.ishlV C (128 : Int32) at_10 (by decide) ?_
    refine W.istore C #[.val (.int p0), .val (.long p1), .second, .val (.long p2), .second, .val (.long p3), .second, .val (.int p4), .val (.int (2 : Int32)), .val (.int (128 : Int32)), .unset, .unset, .unset, .unset, .unset, .unset, .unset, .unset, .unset, .unset, .unset, .unset] at_11 rfl ?_
    refine W.iload C at_13 rfl ?_
    refine W.iconst C (1 : Int32) at_15 rfl ?_
    refine W.iaddV C (129 : Int32) at_16 (by decide) ?_
    refine W.iloadN C at_17 rfl ?_
    refine W.iconst C (2 : Int32) at_18 rfl ?_
    refine W.iushr C at_19 ?_
    refine W.iload C at_20 rfl ?_
    refine W.iconst C (1 : Int32) at_22 rfl ?_
    refine W.isubV C (127 : Int32) at_23 (by decide) ?_
    refine W.iand C at_24 ?_
    refine W.iadd C at_25 ?_
    refine W.istore C #[.val (.int p0), .val (.long p1), .second, .val (.long p2), .second, .val (.long p3), .second, .val (.int p4), .val (.int (2 : Int32)), .val (.int (128 : Int32)), .val (.int ((129 : Int32) + (((p0).toUInt32 >>> ((2 : Int32) &&& 31).toUInt32).toInt32 &&& (127 : Int32)))), .unset, .unset, .unset, .unset, .unset, .unset, .unset, .unset, .unset, .unset, .unset] at_26 rfl ?_
    refine W.iload C at_28 rfl ?_
    refine W.if_ne C 50 at_30 rfl (fun _ => ?_) (fun b => absurd b (by decide))
    refine W.ldc2J C (v := (4096 : Int64)) at_50 (tkw hw 0 rfl) ?_
    refine W.iload C at_53 rfl ?_
    refine W.lshlV C (16384 : Int64) at_55 (by decide) ?_
    refine W.lconst C (1 : Int64) at_56 rfl ?_
    refine W.lsubV C (16383 : Int64) at_57 (by decide) ?_
    refine W.lstore C #[.val (.int p0), .val (.long p1), .second, .val (.long p2), .second, .val (.long p3), .second, .val (.int p4), .val (.int (2 : Int32)), .val (.int (128 : Int32)), .val (.int ((129 : Int32) + (((p0).toUInt32 >>> ((2 : Int32) &&& 31).toUInt32).toInt32 &&& (127 : Int32)))), .val (.long (16383 : Int64)), .second, .unset, .unset, .unset, .unset, .unset, .unset, .unset, .unset, .unset] at_58 rfl ?_
    refine W.lloadN C at_60 rfl ?_
    refine W.lstore C #[.val (.int p0), .val (.long p1), .second, .val (.long p2), .second, .val (.long p3), .second, .val (.int p4), .val (.int (2 : Int32)), .val (.int (128 : Int32)), .val (.int ((129 : Int32) + (((p0).toUInt32 >>> ((2 : Int32) &&& 31).toUInt32).toInt32 &&& (127 : Int32)))), .val (.long (16383 : Int64)), .second, .val (.long p1), .second, .unset, .unset, .unset, .unset, .unset, .unset, .unset] at_61 rfl ?_
    refine W.iload C at_63 rfl ?_
    refine W.iconst C (2 : Int32) at_65 rfl ?_
    refine W.iushr C at_66 ?_
    refine W.iconst C (1 : Int32) at_67 rfl ?_
    refine W.iand C at_68 ?_
    refine W.if_eq C 86 at_69 rfl (fun b23 => ?_) (fun b23 => ?_)
    · skip
      refine W.lloadN C at_86 rfl ?_
      refine W.lstore C #[.val (.int p0), .val (.long p1), .second, .val (.long p2), .second, .val (.long p3), .second, .val (.int p4), .val (.int (2 : Int32)), .val (.int (128 : Int32)), .val (.int ((129 : Int32) + (((p0).toUInt32 >>> ((2 : Int32) &&& 31).toUInt32).toInt32 &&& (127 : Int32)))), .val (.long (16383 : Int64)), .second, .val (.long p1), .second, .val (.long p2), .second, .unset, .unset, .unset, .unset, .unset] at_87 rfl ?_
      exact J89 ((129 : Int32) + (((p0).toUInt32 >>> ((2 : Int32) &&& 31).toUInt32).toInt32 &&& (127 : Int32))) p2 (own_c2 p0)
    · skip
      refine W.lloadN C at_72 rfl ?_
      refine W.ldc2J C (v := (-64 : Int64)) at_73 (tkw hw 1 rfl) ?_
      refine W.land C at_76 ?_
      refine W.lloadN C at_77 rfl ?_
      refine W.ldc2J C (v := (63 : Int64)) at_78 (tkw hw 2 rfl) ?_
      refine W.land C at_81 ?_
      refine W.lor C at_82 ?_
      refine W.goto C 87 at_83 rfl ?_
      refine W.lstore C #[.val (.int p0), .val (.long p1), .second, .val (.long p2), .second, .val (.long p3), .second, .val (.int p4), .val (.int (2 : Int32)), .val (.int (128 : Int32)), .val (.int ((129 : Int32) + (((p0).toUInt32 >>> ((2 : Int32) &&& 31).toUInt32).toInt32 &&& (127 : Int32)))), .val (.long (16383 : Int64)), .second, .val (.long p1), .second, .val (.long ((p1 &&& (-64 : Int64)) ||| (p2 &&& (63 : Int64)))), .second, .unset, .unset, .unset, .unset, .unset] at_87 rfl ?_
      exact J89 ((129 : Int32) + (((p0).toUInt32 >>> ((2 : Int32) &&& 31).toUInt32).toInt32 &&& (127 : Int32))) ((p1 &&& (-64 : Int64)) ||| (p2 &&& (63 : Int64))) (own_c2 p0)
  · rw [q]
    have J89 : ∀ (cnt : Int32) (f2 : Int64), own_max (64 : Int64) (own_hob (((2 : Int64) * ((cnt).toInt64)) - (1 : Int64))) = 512 → W p l e room_1 s m #[(.int p0), (.long p1), (.long p2), (.long p3), (.int p4)] below meth c n0 (fun v _ => v = some (.int 1)) room_1.cells room_1.slots 0 0 h0 89 #[.val (.int p0), .val (.long p1), .second, .val (.long p2), .second, .val (.long p3), .second, .val (.int p4), .val (.int (3 : Int32)), .val (.int (256 : Int32)), .val (.int cnt), .val (.long (32767 : Int64)), .second, .val (.long p1), .second, .val (.long f2), .second, .unset, .unset, .unset, .unset, .unset] [] := by
      intro cnt f2 hc
      refine W.iload C at_89 rfl ?_
      refine W.iconst C (3 : Int32) at_91 rfl ?_
      refine W.iand C at_92 ?_
      refine W.istore C #[.val (.int p0), .val (.long p1), .second, .val (.long p2), .second, .val (.long p3), .second, .val (.int p4), .val (.int (3 : Int32)), .val (.int (256 : Int32)), .val (.int cnt), .val (.long (32767 : Int64)), .second, .val (.long p1), .second, .val (.long f2), .second, .val (.int (p4 &&& (3 : Int32))), .unset, .unset, .unset, .unset] at_93 rfl ?_
      refine W.iload C at_95 rfl ?_
      refine W.if_ne C 107 at_97 rfl (fun b24 => ?_) (fun b24 => ?_)
      · skip
        refine W.iload C at_107 rfl ?_
        refine W.iconst C (1 : Int32) at_109 rfl ?_
        refine W.icmp_ne C 130 at_110 rfl (fun b25 => ?_) (fun b25 => ?_)
        · skip
          refine W.iload C at_130 rfl ?_
          refine W.iconst C (2 : Int32) at_132 rfl ?_
          refine W.icmp_ne C 153 at_133 rfl (fun b26 => ?_) (fun b26 => ?_)
          · skip
            refine W.lload C at_153 rfl ?_
            refine W.ldc2J C (v := (-64 : Int64)) at_155 (tkw hw 1 rfl) ?_
            refine W.land C at_158 ?_
            refine W.lload C at_159 rfl ?_
            refine W.ldc2J C (v := (63 : Int64)) at_161 (tkw hw 2 rfl) ?_
            refine W.land C at_164 ?_
            refine W.lor C at_165 ?_
            refine W.lstore C #[.val (.int p0), .val (.long p1), .second, .val (.long p2), .second, .val (.long p3), .second, .val (.int p4), .val (.int (3 : Int32)), .val (.int (256 : Int32)), .val (.int cnt), .val (.long (32767 : Int64)), .second, .val (.long p1), .second, .val (.long f2), .second, .val (.int (p4 &&& (3 : Int32))), .val (.long ((p1 &&& (-64 : Int64)) ||| (p3 &&& (63 : Int64)))), .second, .unset, .unset] at_166 rfl ?_
            exact J168 _ _ cnt (p4 &&& (3 : Int32)) (32767 : Int64) f2 ((p1 &&& (-64 : Int64)) ||| (p3 &&& (63 : Int64))) 512 15 512 (by decide) (by decide) rfl rfl hc (by decide) (by decide)
          · skip
            refine W.lload C at_136 rfl ?_
            refine W.lload C at_138 rfl ?_
            refine W.lload C at_140 rfl ?_
            refine W.ldc2J C (v := (-1 : Int64)) at_142 (tkw hw 54 rfl) ?_
            refine W.lxorV C (-32768 : Int64) at_145 (by decide) ?_
            refine W.land C at_146 ?_
            refine W.lxor C at_147 ?_
            refine W.lstore C #[.val (.int p0), .val (.long p1), .second, .val (.long p2), .second, .val (.long p3), .second, .val (.int p4), .val (.int (3 : Int32)), .val (.int (256 : Int32)), .val (.int cnt), .val (.long (32767 : Int64)), .second, .val (.long p1), .second, .val (.long f2), .second, .val (.int (p4 &&& (3 : Int32))), .val (.long (f2 ^^^ (p3 &&& (-32768 : Int64)))), .second, .unset, .unset] at_148 rfl ?_
            refine W.goto C 168 at_150 rfl ?_
            exact J168 _ _ cnt (p4 &&& (3 : Int32)) (32767 : Int64) f2 (f2 ^^^ (p3 &&& (-32768 : Int64))) 512 15 512 (by decide) (by decide) rfl rfl hc (by decide) (by decide)
        · skip
          refine W.lload C at_113 rfl ?_
          refine W.lload C at_115 rfl ?_
          refine W.lload C at_117 rfl ?_
          refine W.ldc2J C (v := (-1 : Int64)) at_119 (tkw hw 54 rfl) ?_
          refine W.lxorV C (-32768 : Int64) at_122 (by decide) ?_
          refine W.land C at_123 ?_
          refine W.lxor C at_124 ?_
          refine W.lstore C #[.val (.int p0), .val (.long p1), .second, .val (.long p2), .second, .val (.long p3), .second, .val (.int p4), .val (.int (3 : Int32)), .val (.int (256 : Int32)), .val (.int cnt), .val (.long (32767 : Int64)), .second, .val (.long p1), .second, .val (.long f2), .second, .val (.int (p4 &&& (3 : Int32))), .val (.long (p1 ^^^ (p3 &&& (-32768 : Int64)))), .second, .unset, .unset] at_125 rfl ?_
          refine W.goto C 168 at_127 rfl ?_
          exact J168 _ _ cnt (p4 &&& (3 : Int32)) (32767 : Int64) f2 (p1 ^^^ (p3 &&& (-32768 : Int64))) 512 15 512 (by decide) (by decide) rfl rfl hc (by decide) (by decide)
      · skip
        refine W.lload C at_100 rfl ?_
        refine W.lstore C #[.val (.int p0), .val (.long p1), .second, .val (.long p2), .second, .val (.long p3), .second, .val (.int p4), .val (.int (3 : Int32)), .val (.int (256 : Int32)), .val (.int cnt), .val (.long (32767 : Int64)), .second, .val (.long p1), .second, .val (.long f2), .second, .val (.int (p4 &&& (3 : Int32))), .val (.long p3), .second, .unset, .unset] at_102 rfl ?_
        refine W.goto C 168 at_104 rfl ?_
        exact J168 _ _ cnt (p4 &&& (3 : Int32)) (32767 : Int64) f2 p3 512 15 512 (by decide) (by decide) rfl rfl hc (by decide) (by decide)
    refine W.istore C #[.val (.int p0), .val (.long p1), .second, .val (.long p2), .second, .val (.long p3), .second, .val (.int p4), .val (.int (3 : Int32)), .unset, .unset, .unset, .unset, .unset, .unset, .unset, .unset, .unset, .unset, .unset, .unset, .unset] at_3 rfl ?_
    refine W.iconst C (1 : Int32) at_5 rfl ?_
    refine W.iconst C (5 : Int32) at_6 rfl ?_
    refine W.iload C at_7 rfl ?_
    refine W.iaddV C (8 : Int32) at_9 (by decide) ?_
    refine W.ishlV C (256 : Int32) at_10 (by decide) ?_
    refine W.istore C #[.val (.int p0), .val (.long p1), .second, .val (.long p2), .second, .val (.long p3), .second, .val (.int p4), .val (.int (3 : Int32)), .val (.int (256 : Int32)), .unset, .unset, .unset, .unset, .unset, .unset, .unset, .unset, .unset, .unset, .unset, .unset] at_11 rfl ?_
    refine W.iload C at_13 rfl ?_
    refine W.iconst C (1 : Int32) at_15 rfl ?_
    refine W.iaddV C (257 : Int32) at_16 (by decide) ?_
    refine W.iloadN C at_17 rfl ?_
    refine W.iconst C (2 : Int32) at_18 rfl ?_
    refine W.iushr C at_19 ?_
    refine W.iload C at_20 rfl ?_
    refine W.iconst C (1 : Int32) at_22 rfl ?_
    refine W.isubV C (255 : Int32) at_23 (by decide) ?_
    refine W.iand C at_24 ?_
    refine W.iadd C at_25 ?_
    refine W.istore C #[.val (.int p0), .val (.long p1), .second, .val (.long p2), .second, .val (.long p3), .second, .val (.int p4), .val (.int (3 : Int32)), .val (.int (256 : Int32)), .val (.int ((257 : Int32) + (((p0).toUInt32 >>> ((2 : Int32) &&& 31).toUInt32).toInt32 &&& (255 : Int32)))), .unset, .unset, .unset, .unset, .unset, .unset, .unset, .unset, .unset, .unset, .unset] at_26 rfl ?_
    refine W.iload C at_28 rfl ?_
    refine W.if_ne C 50 at_30 rfl (fun _ => ?_) (fun b => absurd b (by decide))
    refine W.ldc2J C (v := (4096 : Int64)) at_50 (tkw hw 0 rfl) ?_
    refine W.iload C at_53 rfl ?_
    refine W.lshlV C (32768 : Int64) at_55 (by decide) ?_
    refine W.lconst C (1 : Int64) at_56 rfl ?_
    refine W.lsubV C (32767 : Int64) at_57 (by decide) ?_
    refine W.lstore C #[.val (.int p0), .val (.long p1), .second, .val (.long p2), .second, .val (.long p3), .second, .val (.int p4), .val (.int (3 : Int32)), .val (.int (256 : Int32)), .val (.int ((257 : Int32) + (((p0).toUInt32 >>> ((2 : Int32) &&& 31).toUInt32).toInt32 &&& (255 : Int32)))), .val (.long (32767 : Int64)), .second, .unset, .unset, .unset, .unset, .unset, .unset, .unset, .unset, .unset] at_58 rfl ?_
    refine W.lloadN C at_60 rfl ?_
    refine W.lstore C #[.val (.int p0), .val (.long p1), .second, .val (.long p2), .second, .val (.long p3), .second, .val (.int p4), .val (.int (3 : Int32)), .val (.int (256 : Int32)), .val (.int ((257 : Int32) + (((p0).toUInt32 >>> ((2 : Int32) &&& 31).toUInt32).toInt32 &&& (255 : Int32)))), .val (.long (32767 : Int64)), .second, .val (.long p1), .second, .unset, .unset, .unset, .unset, .unset, .unset, .unset] at_61 rfl ?_
    refine W.iload C at_63 rfl ?_
    refine W.iconst C (2 : Int32) at_65 rfl ?_
    refine W.iushr C at_66 ?_
    refine W.iconst C (1 : Int32) at_67 rfl ?_
    refine W.iand C at_68 ?_
    refine W.if_eq C 86 at_69 rfl (fun b27 => ?_) (fun b27 => ?_)
    · skip
      refine W.lloadN C at_86 rfl ?_
      refine W.lstore C #[.val (.int p0), .val (.long p1), .second, .val (.long p2), .second, .val (.long p3), .second, .val (.int p4), .val (.int (3 : Int32)), .val (.int (256 : Int32)), .val (.int ((257 : Int32) + (((p0).toUInt32 >>> ((2 : Int32) &&& 31).toUInt32).toInt32 &&& (255 : Int32)))), .val (.long (32767 : Int64)), .second, .val (.long p1), .second, .val (.long p2), .second, .unset, .unset, .unset, .unset, .unset] at_87 rfl ?_
      exact J89 ((257 : Int32) + (((p0).toUInt32 >>> ((2 : Int32) &&& 31).toUInt32).toInt32 &&& (255 : Int32))) p2 (own_c3 p0)
    · skip
      refine W.lloadN C at_72 rfl ?_
      refine W.ldc2J C (v := (-64 : Int64)) at_73 (tkw hw 1 rfl) ?_
      refine W.land C at_76 ?_
      refine W.lloadN C at_77 rfl ?_
      refine W.ldc2J C (v := (63 : Int64)) at_78 (tkw hw 2 rfl) ?_
      refine W.land C at_81 ?_
      refine W.lor C at_82 ?_
      refine W.goto C 87 at_83 rfl ?_
      refine W.lstore C #[.val (.int p0), .val (.long p1), .second, .val (.long p2), .second, .val (.long p3), .second, .val (.int p4), .val (.int (3 : Int32)), .val (.int (256 : Int32)), .val (.int ((257 : Int32) + (((p0).toUInt32 >>> ((2 : Int32) &&& 31).toUInt32).toInt32 &&& (255 : Int32)))), .val (.long (32767 : Int64)), .second, .val (.long p1), .second, .val (.long ((p1 &&& (-64 : Int64)) ||| (p2 &&& (63 : Int64)))), .second, .unset, .unset, .unset, .unset, .unset] at_87 rfl ?_
      exact J89 ((257 : Int32) + (((p0).toUInt32 >>> ((2 : Int32) &&& 31).toUInt32).toInt32 &&& (255 : Int32))) ((p1 &&& (-64 : Int64)) ||| (p2 &&& (63 : Int64))) (own_c3 p0)

set_option maxRecDepth 65536 in
set_option maxHeartbeats 40000000 in
theorem comes_1 {Post : Tables → Env → Array Value → State → Outcome → State → Prop} (hpost : ∀ tb e args s v u, (limb_1_1.after args s (.returned v) u = true ∧ limb_1_2.after args s (.returned v) u = true ∧ True) → FrameEnd s (.returned v) u (Jvm.fieldLocs frame_1_writes args s ++ Jvm.arrayLocs frame_1_arrays args s ++ Jvm.staticLocs frame_1_statics s) 16 1152 → Post tb e args s (.returned v) u) :
    ArmFor flags0 classFile x code maxLocals ret World_1 tables_1 room_1 Calls_1 rest_1 Pre_1 Post := by
  intro l hfl _ _ p e ha hc hk s m args below hf hA hF happ hP
  obtain ⟨hcalls, hrest, hpre⟩ := hP
  obtain ⟨-, -, -, hnamed, -, -, -, hat⟩ := (Spec.applies_iff hf).mp happ
  obtain ⟨hg, hn⟩ := and_e (Cond.before_iff.mp (show (Jvm.Cond.and given_1 narrow_1).before args s = true from hpre))
  obtain ⟨gc, g0⟩ := and_e hg
  obtain ⟨i0h, g1⟩ := and_e g0
  obtain ⟨i1h, g2⟩ := and_e g1
  obtain ⟨i2h, g3⟩ := and_e g2
  obtain ⟨i3h, g4⟩ := and_e g3
  obtain ⟨w0, w1, w2, w3, w4, rfl⟩ : ∃ w0 w1 w2 w3 w4 : Value, args = #[w0, w1, w2, w3, w4] := by
    have hs : args.size = 5 := by simpa [Cond.value, given_1] using gc
    obtain ⟨L⟩ := args
    match L, hs with
    | [w0, w1, w2, w3, w4], _ => exact ⟨w0, w1, w2, w3, w4, rfl⟩
  have hw := fun d (hd : d ∈ tables_1) => atoms_spec (ws := Jvm.Cond.code x code maxLocals ret :: tables_1) hat d (List.mem_cons_of_mem _ hd)
  have hfit : Fit s := fun {y c} hc i hi => by
    obtain ⟨ha, rfl⟩ := Array.getElem?_eq_some_iff.mp hc
    have q := List.all_eq_true.mp ((Array.all_eq_true_iff_forall_mem.mp hF) _ (Array.getElem_mem ha)) i (List.mem_range.mpr hi)
    simpa [Array.getElem?_eq_getElem hi] using q
  obtain ⟨i0, ei0⟩ := is_v i0h
  obtain rfl : w0 = (.int i0) := Option.some.inj ei0
  obtain ⟨i1, ei1⟩ := isL_v i1h
  obtain rfl : w1 = (.long i1) := Option.some.inj ei1
  obtain ⟨i2, ei2⟩ := isL_v i2h
  obtain rfl : w2 = (.long i2) := Option.some.inj ei2
  obtain ⟨i3, ei3⟩ := isL_v i3h
  obtain rfl : w3 = (.long i3) := Option.some.inj ei3
  obtain ⟨i4, ei4⟩ := is_v g4
  obtain rfl : w4 = (.int i4) := Option.some.inj ei4
  obtain ⟨n, o, h1, h2, h3, _, L, rfl, ⟨rfl, N⟩, hq⟩ := (con_0 l s _ hw s.heap s.heap.size i0 i1 i2 i3 i4 (Nat.le_refl _)) tables_1 p e ha hc hk s m _ below hf ((Spec.applies_iff_loose hf).mp happ).1 ⟨rfl, State.Warmed39.refl s, rfl⟩ trivial
  refine ⟨n, _, h1, h2, h3, hpost _ _ _ _ _ _ ⟨Cond.after_iff.mpr rfl, Cond.after_iff.mpr (eq_i res_at (Term.int_eval (1)) rfl), trivial⟩ ⟨hq.1, hq.2.1, (hq.2.2.sift fun y hy => Or.inr (N y hy)).mono (by decide) (by decide)⟩⟩
theorem main_1_1 : Claimed_1_1 := comes_1 fun _ _ _ _ _ _ h hF => ⟨h.1, hF⟩
theorem main_1_2 : Claimed_1_2 := comes_1 fun _ _ _ _ _ _ h hF => ⟨h.2.1, hF⟩
end Jvm.Pilot.@@N@@
namespace Jvm.Pilot.@@N@@
open Jvm Jvm.ClassFile Sem Op Lib Jvm.Free Jvm.Stand Jvm.Pilot.@@N@@.Jvm.D
/-! MADE BY PROGRAM (witnessworld.py) out of the Statement's table words and the real class files: 18 classes; the members and pool entries that the words name. The judged class is class 1, her method 2. -/
namespace start1
open Jvm.ClassFile
def u (s : String) : CpInfo := .utf8 (stringToUtf16 s)
/-- a pool by its gaps: so many unusable entries, then the entry; so many at the end -/
def gap : Nat → List CpInfo → List CpInfo
  | 0, r => r
  | n + 1, r => .unusable :: gap n r
def poolList (es : List (Nat × CpInfo)) (last : Nat) : List CpInfo := es.foldr (fun e r => gap e.1 (e.2 :: r)) (gap last [])
def pool (es : List (Nat × CpInfo)) (last : Nat) : Array CpInfo := ⟨poolList es last⟩
def fileOf (pool : Array CpInfo) (this : Nat) (attrs : Array Attribute := #[]) (ms : Array MethodInfo := #[]) (fl : Nat := 33) (sup : Nat := 0) (ifs : Array Nat := #[]) (fds : Array FieldInfo := #[]) : ClassFile where
  minorVersion := 0
  majorVersion := 65
  constantPool := pool
  accessFlags := fl
  thisClass := this
  superClass := sup
  interfaces := ifs
  fields := fds
  methods := ms
  attributes := attrs
def plain (name : String) (sup : Option ClassId) : Class where
  name := name
  kind := .ordinary
  loader := none
  accessFlags := 33
  super := sup
  interfaces := #[]
  cf := none
  fields := #[]
  methods := #[]
  instanceTypes := #[]
  staticTypes := #[]
  resolved := #[]
  callSites := []
  init := .initialized
  statics := none
  mirror := none

def pool0 : Array CpInfo := pool [(5, u "<init>"), (0, u "()V"), (1, .class_ 10), (1, u "java/lang/Object")] 113

def k0c0 : Code := { maxStack := 0, maxLocals := 1, code := object_method_1_code, exceptionTable := #[], attributes := #[] }
def k0m0 : Method := { name := "<init>", desc := "()V", sig := { parameters := [], returnType := none }, accessFlags := 1, code := some k0c0 }
/-- java/lang/Object -/
def k0 : Class := { plain "java/lang/Object" none with
  accessFlags := 33
  interfaces := #[]
  cf := some (fileOf pool0 8 #[] #[{ accessFlags := 1, nameIndex := 5, descriptorIndex := 6, attributes := #[] }] 33 0 #[] #[])
  fields := #[]
  methods := #[k0m0]
  instanceTypes := #[]
  staticTypes := #[]
  resolved := Array.replicate 124 none
  statics := none }

def pool1 : Array CpInfo := pool [(2, .class_ 4), (1, u "java/lang/Object"), (0, u "<init>"), (0, u "()V"), (0, .long 4096), (1, .long 18446744073709551552), (1, .long 63), (1, .long 18446744073709551615), (1, .class_ 16), (0, u "rollfind/Filter"), (0, .methodref 15 18), (0, .nameAndType 5 19), (0, u "(I)V"), (0, .methodref 15 21), (0, .nameAndType 22 23), (0, u "passes"), (0, u "(J)I"), (0, .methodref 15 25), (0, .nameAndType 26 27), (0, u "add"), (0, u "(J)V"), (0, .methodref 29 30), (0, .class_ 31), (0, .nameAndType 32 33), (0, u "rollfind/FilterAddPinLaw"), (0, u "same"), (0, u "(JJJ)Z"), (3, u "law"), (0, u "(IJJJI)Z")] 2

def k1m0 : Method := { name := "<init>", desc := "()V", sig := { parameters := [], returnType := none }, accessFlags := 1, code := none }
def k1c1 : Code := { maxStack := 6, maxLocals := 6, code := method_2_code, exceptionTable := #[], attributes := #[] }
def k1m1 : Method := { name := "same", desc := "(JJJ)Z", sig := { parameters := [.long, .long, .long], returnType := some .boolean }, accessFlags := 10, code := some k1c1 }
def k1c2 : Code := { maxStack := 8, maxLocals := 22, code := code, exceptionTable := #[], attributes := #[] }
def k1m2 : Method := { name := "law", desc := "(IJJJI)Z", sig := { parameters := [.int, .long, .long, .long, .int], returnType := some .boolean }, accessFlags := 9, code := some k1c2 }
/-- rollfind/FilterAddPinLaw -/
def k1 : Class := { plain "rollfind/FilterAddPinLaw" (some 0) with
  accessFlags := 49
  interfaces := #[]
  cf := some (fileOf pool1 29 #[] #[{ accessFlags := 1, nameIndex := 5, descriptorIndex := 6, attributes := #[] }, { accessFlags := 10, nameIndex := 32, descriptorIndex := 33, attributes := #[] }, { accessFlags := 9, nameIndex := 37, descriptorIndex := 38, attributes := #[] }] 49 2 #[] #[])
  fields := #[]
  methods := #[k1m0, k1m1, k1m2]
  instanceTypes := #[]
  staticTypes := #[]
  resolved := Array.replicate 41 none
  statics := none }

def pool2 : Array CpInfo := pool [(1, .methodref 2 3), (0, .class_ 4), (0, .nameAndType 5 6), (0, u "java/lang/Object"), (0, u "<init>"), (0, u "()V"), (0, .class_ 8), (0, u "rollfind/Filter"), (0, .class_ 10), (0, u "java/lang/Long"), (0, .long 64), (1, .long 2), (1, .methodref 9 16), (0, .nameAndType 17 18), (0, u "highestOneBit"), (0, u "(J)J"), (0, .methodref 20 21), (0, .class_ 22), (0, .nameAndType 23 24), (0, u "java/lang/Math"), (0, u "max"), (0, u "(JJ)J"), (2, .long 2147483647), (1, .methodref 20 30), (0, .nameAndType 31 24), (0, u "min"), (0, .fieldref 7 33), (0, .nameAndType 34 35), (0, u "bits"), (0, u "[J"), (0, .fieldref 7 37), (0, .nameAndType 38 39), (0, u "mask"), (0, u "J"), (0, u "MIN_BITS"), (0, u "I"), (2, u "(I)V"), (2, u "add"), (0, u "(J)V"), (0, u "passes"), (0, u "(J)I")] 2

def k2c0 : Code := { maxStack := 6, maxLocals := 4, code := prog_7_method_1_code, exceptionTable := #[], attributes := #[] }
def k2m0 : Method := { name := "<init>", desc := "(I)V", sig := { parameters := [.int], returnType := none }, accessFlags := 0, code := some k2c0 }
def k2c1 : Code := { maxStack := 8, maxLocals := 5, code := prog_7_method_2_code, exceptionTable := #[], attributes := #[] }
def k2m1 : Method := { name := "add", desc := "(J)V", sig := { parameters := [.long], returnType := none }, accessFlags := 0, code := some k2c1 }
def k2c2 : Code := { maxStack := 5, maxLocals := 3, code := prog_7_method_3_code, exceptionTable := #[], attributes := #[] }
def k2m2 : Method := { name := "passes", desc := "(J)I", sig := { parameters := [.long], returnType := some .int }, accessFlags := 0, code := some k2c2 }
/-- rollfind/Filter -/
def k2 : Class := { plain "rollfind/Filter" (some 0) with
  accessFlags := 48
  interfaces := #[]
  cf := some (fileOf pool2 7 #[] #[{ accessFlags := 0, nameIndex := 5, descriptorIndex := 44, attributes := #[] }, { accessFlags := 0, nameIndex := 47, descriptorIndex := 48, attributes := #[] }, { accessFlags := 0, nameIndex := 49, descriptorIndex := 50, attributes := #[] }] 48 2 #[] #[{ accessFlags := 26, nameIndex := 40, descriptorIndex := 41, attributes := #[] }, { accessFlags := 18, nameIndex := 34, descriptorIndex := 35, attributes := #[] }, { accessFlags := 18, nameIndex := 38, descriptorIndex := 39, attributes := #[] }])
  fields := #[{ name := "MIN_BITS", type := .int, accessFlags := 26, slot := 0, constantValue := 0 }, { name := "bits", type := (.array .long), accessFlags := 18, slot := 0, constantValue := 0 }, { name := "mask", type := .long, accessFlags := 18, slot := 1, constantValue := 0 }]
  methods := #[k2m0, k2m1, k2m2]
  instanceTypes := #[(.array .long), .long]
  staticTypes := #[.int]
  resolved := Array.replicate 53 none
  statics := none }

def pool3 : Array CpInfo := pool [(1, .class_ 2), (0, u "java/io/Serializable"), (0, .class_ 4), (0, u "java/lang/Object")] 2

/-- java/io/Serializable -/
def k3 : Class := { plain "java/io/Serializable" (some 0) with
  accessFlags := 1537
  interfaces := #[]
  cf := some (fileOf pool3 1 #[] #[] 1537 3 #[] #[])
  fields := #[]
  methods := #[]
  instanceTypes := #[]
  staticTypes := #[]
  resolved := Array.replicate 7 none
  statics := none }

def pool4 : Array CpInfo := pool [(2, .class_ 4), (1, u "java/lang/Object"), (0, u "<init>"), (0, u "()V"), (1, .class_ 10), (1, u "java/lang/Number"), (2, .class_ 14), (0, u "java/io/Serializable"), (0, u "serialVersionUID"), (0, u "J")] 20

def k4m0 : Method := { name := "<init>", desc := "()V", sig := { parameters := [], returnType := none }, accessFlags := 1, code := none }
/-- java/lang/Number -/
def k4 : Class := { plain "java/lang/Number" (some 0) with
  accessFlags := 1057
  interfaces := #[3]
  cf := some (fileOf pool4 8 #[] #[{ accessFlags := 1, nameIndex := 5, descriptorIndex := 6, attributes := #[] }] 1057 2 #[13] #[{ accessFlags := 26, nameIndex := 15, descriptorIndex := 16, attributes := #[] }])
  fields := #[{ name := "serialVersionUID", type := .long, accessFlags := 26, slot := 0, constantValue := 0 }]
  methods := #[k4m0]
  instanceTypes := #[]
  staticTypes := #[.long]
  resolved := Array.replicate 37 none
  statics := none }

def pool5 : Array CpInfo := pool [(1, .class_ 2), (0, u "java/lang/Comparable"), (0, .class_ 4), (0, u "java/lang/Object")] 7

/-- java/lang/Comparable -/
def k5 : Class := { plain "java/lang/Comparable" (some 0) with
  accessFlags := 1537
  interfaces := #[]
  cf := some (fileOf pool5 1 #[] #[] 1537 3 #[] #[])
  fields := #[]
  methods := #[]
  instanceTypes := #[]
  staticTypes := #[]
  resolved := Array.replicate 12 none
  statics := none }

def pool6 : Array CpInfo := pool [(1, .class_ 2), (0, u "java/lang/constant/Constable"), (0, .class_ 4), (0, u "java/lang/Object")] 6

/-- java/lang/constant/Constable -/
def k6 : Class := { plain "java/lang/constant/Constable" (some 0) with
  accessFlags := 1537
  interfaces := #[]
  cf := some (fileOf pool6 1 #[] #[] 1537 3 #[] #[])
  fields := #[]
  methods := #[]
  instanceTypes := #[]
  staticTypes := #[]
  resolved := Array.replicate 11 none
  statics := none }

def pool7 : Array CpInfo := pool [(1, .class_ 2), (0, u "java/lang/constant/ConstantDesc"), (0, .class_ 4), (0, u "java/lang/Object")] 32

/-- java/lang/constant/ConstantDesc -/
def k7 : Class := { plain "java/lang/constant/ConstantDesc" (some 0) with
  accessFlags := 1537
  interfaces := #[]
  cf := some (fileOf pool7 1 #[] #[] 1537 3 #[] #[])
  fields := #[]
  methods := #[]
  instanceTypes := #[]
  staticTypes := #[]
  resolved := Array.replicate 37 none
  statics := none }

def pool8 : Array CpInfo := pool [(1, .class_ 2), (0, u "java/lang/Long"), (15, .class_ 20), (1, u "java/lang/Integer"), (77, .methodref 1 99), (0, .nameAndType 100 101), (0, u "numberOfLeadingZeros"), (0, u "(J)I"), (66, .long 9223372036854775808), (66, .class_ 237), (1, u "java/lang/Long$LongCache"), (33, .class_ 272), (0, u "java/lang/Number"), (2, u "value"), (0, u "J"), (31, .methodref 18 309), (0, .nameAndType 100 310), (0, u "(I)I"), (12, u "(J)J"), (37, u "TYPE"), (0, u "Ljava/lang/Class;"), (0, .class_ 364), (0, u "java/lang/Comparable"), (0, .class_ 366), (0, u "java/lang/constant/Constable"), (0, .class_ 368), (0, u "java/lang/constant/ConstantDesc"), (0, u "MIN_VALUE"), (1, u "MAX_VALUE"), (4, u "SIZE"), (0, u "I"), (1, u "BYTES"), (1, u "serialVersionUID"), (92, u "highestOneBit")] 49

def k8c0 : Code := { maxStack := 6, maxLocals := 2, code := jdk_35_method_46_code, exceptionTable := #[], attributes := #[] }
def k8m0 : Method := { name := "highestOneBit", desc := "(J)J", sig := { parameters := [.long], returnType := some .long }, accessFlags := 9, code := some k8c0 }
def k8c1 : Code := { maxStack := 3, maxLocals := 3, code := jdk_35_method_48_code, exceptionTable := #[], attributes := #[] }
def k8m1 : Method := { name := "numberOfLeadingZeros", desc := "(J)I", sig := { parameters := [.long], returnType := some .int }, accessFlags := 9, code := some k8c1 }
/-- java/lang/Long -/
def k8 : Class := { plain "java/lang/Long" (some 4) with
  accessFlags := 49
  interfaces := #[5, 6, 7]
  cf := some (fileOf pool8 1 #[.nestMembers #[235]] #[{ accessFlags := 9, nameIndex := 474, descriptorIndex := 323, attributes := #[] }, { accessFlags := 9, nameIndex := 100, descriptorIndex := 101, attributes := #[] }] 49 271 #[363, 365, 367] #[{ accessFlags := 25, nameIndex := 369, descriptorIndex := 276, attributes := #[] }, { accessFlags := 25, nameIndex := 371, descriptorIndex := 276, attributes := #[] }, { accessFlags := 25, nameIndex := 361, descriptorIndex := 362, attributes := #[] }, { accessFlags := 18, nameIndex := 275, descriptorIndex := 276, attributes := #[] }, { accessFlags := 25, nameIndex := 376, descriptorIndex := 377, attributes := #[] }, { accessFlags := 25, nameIndex := 379, descriptorIndex := 377, attributes := #[] }, { accessFlags := 26, nameIndex := 381, descriptorIndex := 276, attributes := #[] }])
  fields := #[{ name := "MIN_VALUE", type := .long, accessFlags := 25, slot := 0, constantValue := 0 }, { name := "MAX_VALUE", type := .long, accessFlags := 25, slot := 1, constantValue := 0 }, { name := "TYPE", type := (.object "java/lang/Class"), accessFlags := 25, slot := 2, constantValue := 0 }, { name := "value", type := .long, accessFlags := 18, slot := 0, constantValue := 0 }, { name := "SIZE", type := .int, accessFlags := 25, slot := 3, constantValue := 0 }, { name := "BYTES", type := .int, accessFlags := 25, slot := 4, constantValue := 0 }, { name := "serialVersionUID", type := .long, accessFlags := 26, slot := 5, constantValue := 0 }]
  methods := #[k8m0, k8m1]
  instanceTypes := #[.long]
  staticTypes := #[.long, .long, (.object "java/lang/Class"), .int, .int, .long]
  resolved := Array.replicate 524 none
  statics := none }

def pool9 : Array CpInfo := pool [(1, .class_ 2), (0, u "java/lang/Integer"), (16, u "digits"), (0, u "[C"), (32, u "numberOfLeadingZeros"), (0, u "(I)I"), (30, u "DigitOnes"), (0, u "[B"), (2, u "DigitTens"), (99, .class_ 190), (0, u "java/lang/Integer$IntegerCache"), (3, u "I"), (8, .class_ 204), (0, u "java/lang/Number"), (2, u "value"), (56, .integer 65536), (37, u "TYPE"), (0, u "Ljava/lang/Class;"), (0, .class_ 305), (0, u "java/lang/Comparable"), (0, .class_ 307), (0, u "java/lang/constant/Constable"), (0, .class_ 309), (0, u "java/lang/constant/ConstantDesc"), (0, u "MIN_VALUE"), (1, u "MAX_VALUE"), (3, u "SIZE"), (1, u "BYTES"), (1, u "serialVersionUID"), (0, u "J")] 131

def k9c0 : Code := { maxStack := 3, maxLocals := 2, code := jdk_33_method_47_code, exceptionTable := #[], attributes := #[] }
def k9m0 : Method := { name := "numberOfLeadingZeros", desc := "(I)I", sig := { parameters := [.int], returnType := some .int }, accessFlags := 9, code := some k9c0 }
/-- java/lang/Integer -/
def k9 : Class := { plain "java/lang/Integer" (some 4) with
  accessFlags := 49
  interfaces := #[5, 6, 7]
  cf := some (fileOf pool9 1 #[.nestMembers #[189]] #[{ accessFlags := 9, nameIndex := 53, descriptorIndex := 54, attributes := #[] }] 49 203 #[304, 306, 308] #[{ accessFlags := 25, nameIndex := 310, descriptorIndex := 194, attributes := #[] }, { accessFlags := 25, nameIndex := 312, descriptorIndex := 194, attributes := #[] }, { accessFlags := 25, nameIndex := 302, descriptorIndex := 303, attributes := #[] }, { accessFlags := 24, nameIndex := 19, descriptorIndex := 20, attributes := #[] }, { accessFlags := 24, nameIndex := 89, descriptorIndex := 86, attributes := #[] }, { accessFlags := 24, nameIndex := 85, descriptorIndex := 86, attributes := #[] }, { accessFlags := 18, nameIndex := 207, descriptorIndex := 194, attributes := #[] }, { accessFlags := 25, nameIndex := 316, descriptorIndex := 194, attributes := #[] }, { accessFlags := 25, nameIndex := 318, descriptorIndex := 194, attributes := #[] }, { accessFlags := 26, nameIndex := 320, descriptorIndex := 321, attributes := #[] }])
  fields := #[{ name := "MIN_VALUE", type := .int, accessFlags := 25, slot := 0, constantValue := 0 }, { name := "MAX_VALUE", type := .int, accessFlags := 25, slot := 1, constantValue := 0 }, { name := "TYPE", type := (.object "java/lang/Class"), accessFlags := 25, slot := 2, constantValue := 0 }, { name := "digits", type := (.array .char), accessFlags := 24, slot := 3, constantValue := 0 }, { name := "DigitTens", type := (.array .byte), accessFlags := 24, slot := 4, constantValue := 0 }, { name := "DigitOnes", type := (.array .byte), accessFlags := 24, slot := 5, constantValue := 0 }, { name := "value", type := .int, accessFlags := 18, slot := 0, constantValue := 0 }, { name := "SIZE", type := .int, accessFlags := 25, slot := 6, constantValue := 0 }, { name := "BYTES", type := .int, accessFlags := 25, slot := 7, constantValue := 0 }, { name := "serialVersionUID", type := .long, accessFlags := 26, slot := 8, constantValue := 0 }]
  methods := #[k9m0]
  instanceTypes := #[.int]
  staticTypes := #[.int, .int, (.object "java/lang/Class"), (.array .char), (.array .byte), (.array .byte), .int, .int, .long]
  resolved := Array.replicate 453 none
  statics := none }

def pool10 : Array CpInfo := pool [(1, .class_ 2), (0, u "java/lang/Math"), (1, .class_ 6), (1, u "java/lang/Object"), (0, u "<init>"), (0, u "()V"), (89, .class_ 100), (1, u "java/lang/Math$RandomNumberGeneratorHolder"), (20, u "(JJ)J"), (50, u "negativeZeroFloatBits"), (0, u "J"), (2, u "negativeZeroDoubleBits"), (21, u "max"), (2, u "min"), (43, u "$assertionsDisabled"), (0, u "Z"), (91, u "twoToTheDoubleScaleDown"), (0, u "D"), (4, u "twoToTheDoubleScaleUp"), (9, u "E"), (3, u "PI"), (2, u "TAU"), (2, u "DEGREES_TO_RADIANS"), (0, u "RADIANS_TO_DEGREES")] 94

def k10m0 : Method := { name := "<init>", desc := "()V", sig := { parameters := [], returnType := none }, accessFlags := 2, code := none }
def k10c1 : Code := { maxStack := 4, maxLocals := 4, code := jdk_29_method_66_code, exceptionTable := #[], attributes := #[] }
def k10m1 : Method := { name := "max", desc := "(JJ)J", sig := { parameters := [.long, .long], returnType := some .long }, accessFlags := 9, code := some k10c1 }
def k10c2 : Code := { maxStack := 4, maxLocals := 4, code := jdk_29_method_70_code, exceptionTable := #[], attributes := #[] }
def k10m2 : Method := { name := "min", desc := "(JJ)J", sig := { parameters := [.long, .long], returnType := some .long }, accessFlags := 9, code := some k10c2 }
/-- java/lang/Math -/
def k10 : Class := { plain "java/lang/Math" (some 0) with
  accessFlags := 49
  interfaces := #[]
  cf := some (fileOf pool10 1 #[.nestMembers #[98]] #[{ accessFlags := 2, nameIndex := 7, descriptorIndex := 8, attributes := #[] }, { accessFlags := 9, nameIndex := 198, descriptorIndex := 121, attributes := #[] }, { accessFlags := 9, nameIndex := 201, descriptorIndex := 121, attributes := #[] }] 49 4 #[] #[{ accessFlags := 25, nameIndex := 354, descriptorIndex := 339, attributes := #[] }, { accessFlags := 25, nameIndex := 358, descriptorIndex := 339, attributes := #[] }, { accessFlags := 25, nameIndex := 361, descriptorIndex := 339, attributes := #[] }, { accessFlags := 26, nameIndex := 364, descriptorIndex := 339, attributes := #[] }, { accessFlags := 26, nameIndex := 365, descriptorIndex := 339, attributes := #[] }, { accessFlags := 26, nameIndex := 172, descriptorIndex := 173, attributes := #[] }, { accessFlags := 26, nameIndex := 176, descriptorIndex := 173, attributes := #[] }, { accessFlags := 8, nameIndex := 344, descriptorIndex := 339, attributes := #[] }, { accessFlags := 8, nameIndex := 338, descriptorIndex := 339, attributes := #[] }, { accessFlags := 4120, nameIndex := 245, descriptorIndex := 246, attributes := #[] }])
  fields := #[{ name := "E", type := .double, accessFlags := 25, slot := 0, constantValue := 0 }, { name := "PI", type := .double, accessFlags := 25, slot := 1, constantValue := 0 }, { name := "TAU", type := .double, accessFlags := 25, slot := 2, constantValue := 0 }, { name := "DEGREES_TO_RADIANS", type := .double, accessFlags := 26, slot := 3, constantValue := 0 }, { name := "RADIANS_TO_DEGREES", type := .double, accessFlags := 26, slot := 4, constantValue := 0 }, { name := "negativeZeroFloatBits", type := .long, accessFlags := 26, slot := 5, constantValue := 0 }, { name := "negativeZeroDoubleBits", type := .long, accessFlags := 26, slot := 6, constantValue := 0 }, { name := "twoToTheDoubleScaleUp", type := .double, accessFlags := 8, slot := 7, constantValue := 0 }, { name := "twoToTheDoubleScaleDown", type := .double, accessFlags := 8, slot := 8, constantValue := 0 }, { name := "$assertionsDisabled", type := .boolean, accessFlags := 4120, slot := 9, constantValue := 0 }]
  methods := #[k10m0, k10m1, k10m2]
  instanceTypes := #[]
  staticTypes := #[.double, .double, .double, .double, .double, .long, .long, .double, .double, .boolean]
  resolved := Array.replicate 460 none
  statics := none }

def pool11 : Array CpInfo := pool [(1, u "java/lang/Cloneable"), (0, .class_ 1), (0, u "java/lang/Object"), (0, .class_ 3)] 3

/-- java/lang/Cloneable -/
def k11 : Class := { plain "java/lang/Cloneable" (some 0) with
  accessFlags := 1537
  interfaces := #[]
  cf := some (fileOf pool11 2 #[] #[] 1537 4 #[] #[])
  fields := #[]
  methods := #[]
  instanceTypes := #[]
  staticTypes := #[]
  resolved := Array.replicate 8 none
  statics := none }

/-- the primitive byte -/
def k12 : Class := { plain "byte" none with kind := .primitive 'B', accessFlags := 0x411 }
/-- [B -/
def k13 : Class := { plain "[B" (some 0) with kind := .array 12 .byte, interfaces := #[11, 3], accessFlags := 1041 }

/-- the primitive int -/
def k14 : Class := { plain "int" none with kind := .primitive 'I', accessFlags := 0x411 }
/-- [I -/
def k15 : Class := { plain "[I" (some 0) with kind := .array 14 .int, interfaces := #[11, 3], accessFlags := 1041 }

/-- the primitive long -/
def k16 : Class := { plain "long" none with kind := .primitive 'J', accessFlags := 0x411 }
/-- [J -/
def k17 : Class := { plain "[J" (some 0) with kind := .array 16 .long, interfaces := #[11, 3], accessFlags := 1041 }

def heap : Heap := #[]
def classes : Array Class := #[k0, k1, k2, k3, k4, k5, k6, k7, k8, k9, k10, k11, k12, k13, k14, k15, k16, k17]
def interned : List (Array UInt16 × Addr) := []
def slotsUsed : Nat := 0
def theMethod : MethodId := ⟨1, 2⟩
def args0 : Array Value := #[.int 5, .long 3, .long 7, .long 1, .int 2]
def aboutOver (below : List Frame) : State where
  vm := { classes := classes, interned := interned.toArray }
  heap := heap
  slotsUsed := slotsUsed
  threads := #[{ frames := .invoking theMethod args0 :: below }]
def below0 : List Frame := [.native { method := ⟨0, 0⟩, args := #[] }]
def about1 : State := aboutOver below0
def p0 : Program := .bare "" "" ""
def e0 : Env := launch0.env 0 0 0
theorem w_frames : about1.frames = Frame.invoking theMethod args0 :: below0 := rfl
set_option maxRecDepth 65536 in
theorem w_args : argsFit about1.vm theMethod args0 = true := by decide +kernel
set_option maxRecDepth 65536 in
theorem w_heap : heapFits about1 = true := by decide +kernel
set_option maxRecDepth 65536 in
theorem w_runnable : about1.curStatus? = some .runnable := by decide +kernel
set_option maxRecDepth 65536 in
theorem w_alone : about1.alone = true := by decide +kernel
set_option maxRecDepth 65536 in
theorem w_named : about1.methodNamed? x = some theMethod := by decide +kernel
set_option maxRecDepth 65536 in
theorem w_hears : about1.hears theMethod below0 = true := by decide +kernel
set_option maxRecDepth 65536 in
theorem w_ripe : about1.ripe theMethod args0 below0 = true := by decide +kernel
theorem w_running : about1.status = .running := rfl
set_option maxRecDepth 65536 in
theorem w_room : about1.hasRoom e0.platform room_1 = true :=
  launch0.hasRoom_least _ room_1 (by decide +kernel) (by decide +kernel) (by decide +kernel) (by decide +kernel) (by decide +kernel) (by decide +kernel)
theorem allAtoms_all (ts : List Jvm.Cond) (a : Array Jvm.Value) (st : Jvm.State) : (allAtoms ts).before a st = ts.all (fun c => c.before a st) := by
  induction ts with
  | nil => rfl
  | cons c t ih =>
    show (Jvm.Cond.and c (allAtoms t)).before a st = _
    rw [Jvm.Cond.before_and, ih, List.all_cons]
def words1 : List Jvm.Cond := Jvm.Cond.code x code maxLocals ret :: tables_1
/-- a 'code' word, met by the world's own term for the bytes: nothing is compared byte by byte -/
theorem code_word {y : MethodName} {bytes : ByteArray} {mx : Nat} {rt : Option FieldType} {a : Array Value} {s : State} {m : MethodId} {meth : Method} {c : Code} (h1 : s.methodNamed? y = some m) (h2 : s.vm.method? m = some meth) (h3 : meth.code = some c) (h4 : c.code = bytes)
    (h5 : (c.maxLocals == mx && c.exceptionTable.isEmpty && decide (c.maxStack ≤ mostOperands) && decide (meth.sig.returnType = rt) && !meth.locks && decide (parseMethodDescriptor y.desc = some meth.sig)) = true) : (Jvm.Cond.code y bytes mx rt).before a s = true := by
  simp only [Bool.and_eq_true, beq_iff_eq, Bool.not_eq_true', decide_eq_true_eq] at h5
  obtain ⟨⟨⟨⟨⟨g1, g2⟩, g3⟩, g4⟩, g5⟩, g6⟩ := h5
  simp [Cond.before, Cond.holds, Cond.value, h1, h2, h3, h4, g1, g2, g3, g4, g5, g6]
def isCode : Jvm.Cond → Bool
  | .code _ _ _ _ => true
  | _ => false
theorem all_split {L : List Jvm.Cond} {P : Jvm.Cond → Bool} (h1 : L.all (fun c => isCode c || P c) = true) (h2 : ∀ c ∈ L.filter isCode, P c = true) : L.all P = true := by
  refine List.all_eq_true.mpr fun c hc => ?_
  have h := List.all_eq_true.mp h1 c hc
  rcases Bool.eq_false_or_eq_true (isCode c) with hi | hi
  · exact h2 c (List.mem_filter.mpr ⟨hc, hi⟩)
  · simpa [hi] using h
set_option maxRecDepth 65536 in
theorem w_c0 : (Jvm.Cond.code x code maxLocals ret).before args0 about1 = true := code_word (m := ⟨1, 2⟩) (meth := k1m2) (c := k1c2) (by decide +kernel) rfl rfl rfl (by decide +kernel)
set_option maxRecDepth 65536 in
theorem w_c1 : (Jvm.Cond.code ({ cls := "rollfind/Filter", name := "<init>", desc := "(I)V" } : Jvm.MethodName) prog_7_method_1_code (4 : Nat) (Option.none : Option Jvm.ClassFile.FieldType)).before args0 about1 = true := code_word (m := ⟨2, 0⟩) (meth := k2m0) (c := k2c0) (by decide +kernel) rfl rfl rfl (by decide +kernel)
set_option maxRecDepth 65536 in
theorem w_c2 : (Jvm.Cond.code ({ cls := "java/lang/Object", name := "<init>", desc := "()V" } : Jvm.MethodName) object_method_1_code (1 : Nat) (Option.none : Option Jvm.ClassFile.FieldType)).before args0 about1 = true := code_word (m := ⟨0, 0⟩) (meth := k0m0) (c := k0c0) (by decide +kernel) rfl rfl rfl (by decide +kernel)
set_option maxRecDepth 65536 in
theorem w_c3 : (Jvm.Cond.code ({ cls := "java/lang/Long", name := "highestOneBit", desc := "(J)J" } : Jvm.MethodName) jdk_35_method_46_code (2 : Nat) (Option.some Jvm.ClassFile.FieldType.long)).before args0 about1 = true := code_word (m := ⟨8, 0⟩) (meth := k8m0) (c := k8c0) (by decide +kernel) rfl rfl rfl (by decide +kernel)
set_option maxRecDepth 65536 in
theorem w_c4 : (Jvm.Cond.code ({ cls := "java/lang/Long", name := "numberOfLeadingZeros", desc := "(J)I" } : Jvm.MethodName) jdk_35_method_48_code (3 : Nat) (Option.some Jvm.ClassFile.FieldType.int)).before args0 about1 = true := code_word (m := ⟨8, 1⟩) (meth := k8m1) (c := k8c1) (by decide +kernel) rfl rfl rfl (by decide +kernel)
set_option maxRecDepth 65536 in
theorem w_c5 : (Jvm.Cond.code ({ cls := "java/lang/Integer", name := "numberOfLeadingZeros", desc := "(I)I" } : Jvm.MethodName) jdk_33_method_47_code (2 : Nat) (Option.some Jvm.ClassFile.FieldType.int)).before args0 about1 = true := code_word (m := ⟨9, 0⟩) (meth := k9m0) (c := k9c0) (by decide +kernel) rfl rfl rfl (by decide +kernel)
set_option maxRecDepth 65536 in
theorem w_c6 : (Jvm.Cond.code ({ cls := "java/lang/Math", name := "max", desc := "(JJ)J" } : Jvm.MethodName) jdk_29_method_66_code (4 : Nat) (Option.some Jvm.ClassFile.FieldType.long)).before args0 about1 = true := code_word (m := ⟨10, 1⟩) (meth := k10m1) (c := k10c1) (by decide +kernel) rfl rfl rfl (by decide +kernel)
set_option maxRecDepth 65536 in
theorem w_c7 : (Jvm.Cond.code ({ cls := "java/lang/Math", name := "min", desc := "(JJ)J" } : Jvm.MethodName) jdk_29_method_70_code (4 : Nat) (Option.some Jvm.ClassFile.FieldType.long)).before args0 about1 = true := code_word (m := ⟨10, 2⟩) (meth := k10m2) (c := k10c2) (by decide +kernel) rfl rfl rfl (by decide +kernel)
set_option maxRecDepth 65536 in
theorem w_c8 : (Jvm.Cond.code ({ cls := "rollfind/Filter", name := "passes", desc := "(J)I" } : Jvm.MethodName) prog_7_method_3_code (3 : Nat) (Option.some Jvm.ClassFile.FieldType.int)).before args0 about1 = true := code_word (m := ⟨2, 2⟩) (meth := k2m2) (c := k2c2) (by decide +kernel) rfl rfl rfl (by decide +kernel)
set_option maxRecDepth 65536 in
theorem w_c9 : (Jvm.Cond.code ({ cls := "rollfind/Filter", name := "add", desc := "(J)V" } : Jvm.MethodName) prog_7_method_2_code (5 : Nat) (Option.none : Option Jvm.ClassFile.FieldType)).before args0 about1 = true := code_word (m := ⟨2, 1⟩) (meth := k2m1) (c := k2c1) (by decide +kernel) rfl rfl rfl (by decide +kernel)
set_option maxRecDepth 65536 in
theorem w_c10 : (Jvm.Cond.code ({ cls := "rollfind/FilterAddPinLaw", name := "same", desc := "(JJJ)Z" } : Jvm.MethodName) method_2_code (6 : Nat) (Option.some Jvm.ClassFile.FieldType.boolean)).before args0 about1 = true := code_word (m := ⟨1, 1⟩) (meth := k1m1) (c := k1c1) (by decide +kernel) rfl rfl rfl (by decide +kernel)
def codes1 : List Jvm.Cond := [Jvm.Cond.code x code maxLocals ret, Jvm.Cond.code ({ cls := "rollfind/Filter", name := "<init>", desc := "(I)V" } : Jvm.MethodName) prog_7_method_1_code (4 : Nat) (Option.none : Option Jvm.ClassFile.FieldType), Jvm.Cond.code ({ cls := "java/lang/Object", name := "<init>", desc := "()V" } : Jvm.MethodName) object_method_1_code (1 : Nat) (Option.none : Option Jvm.ClassFile.FieldType), Jvm.Cond.code ({ cls := "java/lang/Long", name := "highestOneBit", desc := "(J)J" } : Jvm.MethodName) jdk_35_method_46_code (2 : Nat) (Option.some Jvm.ClassFile.FieldType.long), Jvm.Cond.code ({ cls := "java/lang/Long", name := "numberOfLeadingZeros", desc := "(J)I" } : Jvm.MethodName) jdk_35_method_48_code (3 : Nat) (Option.some Jvm.ClassFile.FieldType.int), Jvm.Cond.code ({ cls := "java/lang/Integer", name := "numberOfLeadingZeros", desc := "(I)I" } : Jvm.MethodName) jdk_33_method_47_code (2 : Nat) (Option.some Jvm.ClassFile.FieldType.int), Jvm.Cond.code ({ cls := "java/lang/Math", name := "max", desc := "(JJ)J" } : Jvm.MethodName) jdk_29_method_66_code (4 : Nat) (Option.some Jvm.ClassFile.FieldType.long), Jvm.Cond.code ({ cls := "java/lang/Math", name := "min", desc := "(JJ)J" } : Jvm.MethodName) jdk_29_method_70_code (4 : Nat) (Option.some Jvm.ClassFile.FieldType.long), Jvm.Cond.code ({ cls := "rollfind/Filter", name := "passes", desc := "(J)I" } : Jvm.MethodName) prog_7_method_3_code (3 : Nat) (Option.some Jvm.ClassFile.FieldType.int), Jvm.Cond.code ({ cls := "rollfind/Filter", name := "add", desc := "(J)V" } : Jvm.MethodName) prog_7_method_2_code (5 : Nat) (Option.none : Option Jvm.ClassFile.FieldType), Jvm.Cond.code ({ cls := "rollfind/FilterAddPinLaw", name := "same", desc := "(JJJ)Z" } : Jvm.MethodName) method_2_code (6 : Nat) (Option.some Jvm.ClassFile.FieldType.boolean)]
set_option maxRecDepth 65536 in
theorem codes_eq : words1.filter isCode = codes1 := rfl
theorem w_codes : ∀ c ∈ words1.filter isCode, c.before args0 about1 = true := by
  rw [codes_eq]
  intro c hc
  simp only [codes1, List.mem_cons, List.not_mem_nil, or_false] at hc
  rcases hc with rfl | rfl | rfl | rfl | rfl | rfl | rfl | rfl | rfl | rfl | rfl
  · exact w_c0
  · exact w_c1
  · exact w_c2
  · exact w_c3
  · exact w_c4
  · exact w_c5
  · exact w_c6
  · exact w_c7
  · exact w_c8
  · exact w_c9
  · exact w_c10
set_option maxRecDepth 65536 in
theorem w_t1 : (words1.take 24).all (fun c => isCode c || c.before args0 about1) = true := by decide +kernel
set_option maxRecDepth 65536 in
theorem w_t2 : ((words1.drop 24).take 24).all (fun c => isCode c || c.before args0 about1) = true := by decide +kernel
set_option maxRecDepth 65536 in
theorem w_t3 : ((words1.drop 24).drop 24).all (fun c => isCode c || c.before args0 about1) = true := by decide +kernel
theorem w_tables : (allAtoms (Jvm.Cond.code x code maxLocals ret :: tables_1)).before args0 about1 = true := by
  rw [allAtoms_all]
  show words1.all (fun c => c.before args0 about1) = true
  refine all_split ?_ w_codes
  rw [← List.take_append_drop 24 words1, List.all_append, w_t1, ← List.take_append_drop 24 (words1.drop 24), List.all_append, w_t2, w_t3]
  rfl
set_option maxRecDepth 65536 in
theorem w_case : (Jvm.Cond.and given_1 narrow_1).before args0 about1 = true := by decide +kernel
theorem w_applies : (headSpec (Jvm.Cond.code x code maxLocals ret :: tables_1) room_1).applies x e0.platform about1 = true :=
  (Spec.applies_iff w_frames).mpr ⟨w_running, w_runnable, w_alone, w_named, w_hears, w_ripe, w_room, w_tables⟩
theorem atStart : AtStart classFile x code maxLocals ret World_1 tables_1 room_1 Calls_1 rest_1 Pre_1 launch0 p0 e0 about1 theMethod args0 below0 :=
  ⟨lists_1, trivial, launch0.admits_env _ _ _, launch0.least_env, fairChoices_fair.cas, fairChoices_fair.clock, w_frames, w_args, w_heap, w_applies, trivial, trivial, w_case⟩
end start1
theorem witness_1 : WitnessClaimed_1 := ⟨start1.p0, start1.e0, start1.about1, start1.theMethod, start1.args0, start1.below0, start1.atStart⟩
end Jvm.Pilot.@@N@@
