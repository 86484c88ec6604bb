import JvmDerived
import JvmDerived.Pilot.@@N@@Statement
import JvmDerived.Pilot.@@N@@Code
set_option linter.unusedVariables false
set_option linter.unusedSimpArgs false
namespace Jvm.OwnKit
open Sem ClassFile Op Lib Jvm.Stand Jvm.Free Jvm.LawKit Jvm.RoadKit
section OwnKit
set_option maxHeartbeats 4000000
variable {p : Program} {l : Launch} {e : Env} {R : Room} {s : State} {m : MethodId} {args : Array Value} {below : List Frame} {meth : Method} {c : Code} {Z : State} {own : String} {bytes : ByteArray} {maxL : Nat} {ret : Option FieldType} {n0 : Nat} {s₀ : State} {h : Heap} {k j pc : Nat} {L : Array Slot} {S : List Value} {a0 : Array Value}
/-- where a walk stands -/
def Go (p : Program) (l : Launch) (e : Env) (R : Room) (s : State) (m : MethodId) (args : Array Value) (below : List Frame) (meth : Method) (c : Code) (Z : State) (own : String) (bytes : ByteArray) (maxL : Nat) (ret : Option FieldType) (n0 : Nat) (s₀ : State) (h : Heap) (k j pc : Nat) (L : Array Slot) (S : List Value) : Prop :=
  (p.tables.exec = Jvm.exec ∧ c.code = bytes ∧ c.maxLocals = maxL ∧ Z.Warmed39 s.vm ∧ s.vm.findClass own = some m.cls ∧ meth.sig.returnType = ret ∧ meth.locks = false ∧ n0 ≤ s.heap.size) ∧
  ∃ (T : State) (locs : List Loc), Stand p l e R s m args below meth c T locs k j ∧ T.heap = h ∧ Fr n0 locs ∧ ∀ t, Steps p.tables e below (T.setTop (mkF m pc L S)) t → Steps p.tables e below s₀ t
/-- how a walk ends -/
def Fini (p : Program) (e : Env) (below : List Frame) (s s₀ : State) (n0 kc js : Nat) (Q : Option Value → Heap → Prop) : Prop :=
  ∃ s₂ o, Steps p.tables e below s₀ s₂ ∧ s₂.status = .running ∧ Ended s₂ below o ∧ ∃ v L, o = .returned v ∧ (Q v s₂.heap ∧ Fr n0 L) ∧ FrameEnd s o s₂ L kc js
/-- a body's contract at one heap and these arguments -/
def Con (l : Launch) (y : MethodName) (bytes : ByteArray) (maxL : Nat) (ret : Option FieldType) (ws : List Cond) (rm : Room) (kc js : Nat) (Z : State) (as' : Array Value) (h0 : Heap) (n0 : Nat) (Q : Option Value → Heap → Prop) : Prop :=
  MetFree l y (head1 (Cond.code y bytes maxL ret :: ws) rm) (fun a U => a = as' ∧ Z.Warmed39 U.vm ∧ U.heap = h0) (fun _ _ _ _ _ => True) (fun _ U o U' => ∃ v L, o = .returned v ∧ (Q v U'.heap ∧ Fr n0 L) ∧ FrameEnd U o U' L kc js)
theorem Con.of {y : MethodName} {ws : List Cond} {rm : Room} {kc js : Nat} {as' : Array Value} {h0 : Heap} {L0 : Array Slot} {Q : Option Value → Heap → Prop} (hpl : plainFor y = true) (hn : n0 ≤ h0.size) (hef : ∀ m, entryFrame m as' maxL = mkF m 0 L0 [])
    (body : ∀ (p : Program) (e : Env) (s : State) (m : MethodId) (below : List Frame) (meth : Method) (c : Code) (s₀ : State), meth.name = y.name → Go p l e rm s m as' below meth c Z y.cls bytes maxL ret n0 s₀ h0 0 0 0 L0 [] → Fini p e below s s₀ n0 kc js Q) : Con l y bytes maxL ret ws rm kc js Z as' h0 n0 Q := by
  refine MetFree.of_bodySF hpl hisR ?_
  intro p e s m args below meth c s₁ Bd hml0 hP hK
  obtain ⟨rfl, hZ, hh⟩ := hP
  have hx := Bd.exec
  have X0 : Stand p l e rm s m args below meth c s₁ [] 0 0 := Stand.of_body Bd
  exact body p e s m below meth c _ (name_of_methodNamed Bd.named Bd.method).1 ⟨⟨hx, Bd.bytes, hml0, hZ, findClass_of_methodNamed Bd.named, Bd.returns, Bd.notSynchronized, by rw [hh]; exact hn⟩, s₁, [], X0, by rw [← hh, Bd.state]; rfl, Fr.nil n0, fun t k => castTop (hef m) k⟩
/-- the same contract with a weaker word -/
theorem Fini.mono {kc js : Nat} {Q Q' : Option Value → Heap → Prop} (F : Fini p e below s s₀ n0 kc js Q) (hq : ∀ v h, Q v h → Q' v h) : Fini p e below s s₀ n0 kc js Q' := by
  obtain ⟨s₂, o, a1, a2, a3, v, L, a4, ⟨a5, a6⟩, a7⟩ := F
  exact ⟨s₂, o, a1, a2, a3, v, L, a4, ⟨hq _ _ a5, a6⟩, a7⟩
theorem Go.step {pc' : Nat} {L' : Array Slot} {S' : List Value} (G : Go p l e R s m args below meth c Z own bytes maxL ret n0 s₀ h k j pc L S) (f : ∀ T locs, Stand p l e R s m args below meth c T locs k j → T.heap = h → p.tables.exec = Jvm.exec → c.code = bytes → ∀ t, Steps p.tables e below (T.setTop (mkF m pc' L' S')) t → Steps p.tables e below (T.setTop (mkF m pc L S)) t) : Go p l e R s m args below meth c Z own bytes maxL ret n0 s₀ h k j pc' L' S' := by
  obtain ⟨⟨hx, hb, r⟩, T, locs, X, eT, N, st⟩ := G
  exact ⟨⟨hx, hb, r⟩, T, locs, X, eT, N, fun t q => st t (f T locs X eT hx hb t q)⟩
theorem Go.size (G : Go p l e R s m args below meth c Z own bytes maxL ret n0 s₀ h k j pc L S) : n0 ≤ h.size := by
  obtain ⟨⟨_, _, _, _, _, _, _, hn⟩, T, locs, X, eT, N, st⟩ := G
  have q : s.heap.size ≤ T.heap.size := X.same.2.1
  rw [← eT]; exact Nat.le_trans hn q
theorem Go.iadd {x y : Int32} (G : Go p l e R s m args below meth c Z own bytes maxL ret n0 s₀ h k j pc L (.int y :: .int x :: S)) (hd : decode bytes pc = .ok (.iadd, 1))  {pc' : Nat} (hp : pc + 1 = pc' := by rfl) : Go p l e R s m args below meth c Z own bytes maxL ret n0 s₀ h k j pc' L (.int (x + y) :: S) := by
  subst hp; exact G.step fun T locs X eT hx hb t q => XS.iadd X.here hx rfl (Jvm.hb hb hd) rfl  q
theorem Go.isub {x y : Int32} (G : Go p l e R s m args below meth c Z own bytes maxL ret n0 s₀ h k j pc L (.int y :: .int x :: S)) (hd : decode bytes pc = .ok (.isub, 1))  {pc' : Nat} (hp : pc + 1 = pc' := by rfl) : Go p l e R s m args below meth c Z own bytes maxL ret n0 s₀ h k j pc' L (.int (x - y) :: S) := by
  subst hp; exact G.step fun T locs X eT hx hb t q => XS.isub X.here hx rfl (Jvm.hb hb hd) rfl  q
theorem Go.imul {x y : Int32} (G : Go p l e R s m args below meth c Z own bytes maxL ret n0 s₀ h k j pc L (.int y :: .int x :: S)) (hd : decode bytes pc = .ok (.imul, 1))  {pc' : Nat} (hp : pc + 1 = pc' := by rfl) : Go p l e R s m args below meth c Z own bytes maxL ret n0 s₀ h k j pc' L (.int (x * y) :: S) := by
  subst hp; exact G.step fun T locs X eT hx hb t q => XS.imul X.here hx rfl (Jvm.hb hb hd) rfl  q
theorem Go.iand {x y : Int32} (G : Go p l e R s m args below meth c Z own bytes maxL ret n0 s₀ h k j pc L (.int y :: .int x :: S)) (hd : decode bytes pc = .ok (.iand, 1))  {pc' : Nat} (hp : pc + 1 = pc' := by rfl) : Go p l e R s m args below meth c Z own bytes maxL ret n0 s₀ h k j pc' L (.int (x &&& y) :: S) := by
  subst hp; exact G.step fun T locs X eT hx hb t q => XS.iand X.here hx rfl (Jvm.hb hb hd) rfl  q
theorem Go.ior {x y : Int32} (G : Go p l e R s m args below meth c Z own bytes maxL ret n0 s₀ h k j pc L (.int y :: .int x :: S)) (hd : decode bytes pc = .ok (.ior, 1))  {pc' : Nat} (hp : pc + 1 = pc' := by rfl) : Go p l e R s m args below meth c Z own bytes maxL ret n0 s₀ h k j pc' L (.int (x ||| y) :: S) := by
  subst hp; exact G.step fun T locs X eT hx hb t q => XS.ior X.here hx rfl (Jvm.hb hb hd) rfl  q
theorem Go.ixor {x y : Int32} (G : Go p l e R s m args below meth c Z own bytes maxL ret n0 s₀ h k j pc L (.int y :: .int x :: S)) (hd : decode bytes pc = .ok (.ixor, 1))  {pc' : Nat} (hp : pc + 1 = pc' := by rfl) : Go p l e R s m args below meth c Z own bytes maxL ret n0 s₀ h k j pc' L (.int (x ^^^ y) :: S) := by
  subst hp; exact G.step fun T locs X eT hx hb t q => XS.ixor X.here hx rfl (Jvm.hb hb hd) rfl  q
theorem Go.ishl {x y : Int32} (G : Go p l e R s m args below meth c Z own bytes maxL ret n0 s₀ h k j pc L (.int y :: .int x :: S)) (hd : decode bytes pc = .ok (.ishl, 1))  {pc' : Nat} (hp : pc + 1 = pc' := by rfl) : Go p l e R s m args below meth c Z own bytes maxL ret n0 s₀ h k j pc' L (.int (x <<< (y &&& 31)) :: S) := by
  subst hp; exact G.step fun T locs X eT hx hb t q => XS.ishl X.here hx rfl (Jvm.hb hb hd) rfl  q
theorem Go.ishr {x y : Int32} (G : Go p l e R s m args below meth c Z own bytes maxL ret n0 s₀ h k j pc L (.int y :: .int x :: S)) (hd : decode bytes pc = .ok (.ishr, 1))  {pc' : Nat} (hp : pc + 1 = pc' := by rfl) : Go p l e R s m args below meth c Z own bytes maxL ret n0 s₀ h k j pc' L (.int (x >>> (y &&& 31)) :: S) := by
  subst hp; exact G.step fun T locs X eT hx hb t q => XS.ishr X.here hx rfl (Jvm.hb hb hd) rfl  q
theorem Go.iushr {x y : Int32} (G : Go p l e R s m args below meth c Z own bytes maxL ret n0 s₀ h k j pc L (.int y :: .int x :: S)) (hd : decode bytes pc = .ok (.iushr, 1))  {pc' : Nat} (hp : pc + 1 = pc' := by rfl) : Go p l e R s m args below meth c Z own bytes maxL ret n0 s₀ h k j pc' L (.int ((x.toUInt32 >>> (y &&& 31).toUInt32).toInt32) :: S) := by
  subst hp; exact G.step fun T locs X eT hx hb t q => XS.iushr X.here hx rfl (Jvm.hb hb hd) rfl  q
theorem Go.ladd {x y : Int64} (G : Go p l e R s m args below meth c Z own bytes maxL ret n0 s₀ h k j pc L (.long y :: .long x :: S)) (hd : decode bytes pc = .ok (.ladd, 1))  {pc' : Nat} (hp : pc + 1 = pc' := by rfl) : Go p l e R s m args below meth c Z own bytes maxL ret n0 s₀ h k j pc' L (.long (x + y) :: S) := by
  subst hp; exact G.step fun T locs X eT hx hb t q => XS.ladd X.here hx rfl (Jvm.hb hb hd) rfl  q
theorem Go.lsub {x y : Int64} (G : Go p l e R s m args below meth c Z own bytes maxL ret n0 s₀ h k j pc L (.long y :: .long x :: S)) (hd : decode bytes pc = .ok (.lsub, 1))  {pc' : Nat} (hp : pc + 1 = pc' := by rfl) : Go p l e R s m args below meth c Z own bytes maxL ret n0 s₀ h k j pc' L (.long (x - y) :: S) := by
  subst hp; exact G.step fun T locs X eT hx hb t q => XS.lsub X.here hx rfl (Jvm.hb hb hd) rfl  q
theorem Go.lmul {x y : Int64} (G : Go p l e R s m args below meth c Z own bytes maxL ret n0 s₀ h k j pc L (.long y :: .long x :: S)) (hd : decode bytes pc = .ok (.lmul, 1))  {pc' : Nat} (hp : pc + 1 = pc' := by rfl) : Go p l e R s m args below meth c Z own bytes maxL ret n0 s₀ h k j pc' L (.long (x * y) :: S) := by
  subst hp; exact G.step fun T locs X eT hx hb t q => XS.lmul X.here hx rfl (Jvm.hb hb hd) rfl  q
theorem Go.land {x y : Int64} (G : Go p l e R s m args below meth c Z own bytes maxL ret n0 s₀ h k j pc L (.long y :: .long x :: S)) (hd : decode bytes pc = .ok (.land, 1))  {pc' : Nat} (hp : pc + 1 = pc' := by rfl) : Go p l e R s m args below meth c Z own bytes maxL ret n0 s₀ h k j pc' L (.long (x &&& y) :: S) := by
  subst hp; exact G.step fun T locs X eT hx hb t q => XS.land X.here hx rfl (Jvm.hb hb hd) rfl  q
theorem Go.lor {x y : Int64} (G : Go p l e R s m args below meth c Z own bytes maxL ret n0 s₀ h k j pc L (.long y :: .long x :: S)) (hd : decode bytes pc = .ok (.lor, 1))  {pc' : Nat} (hp : pc + 1 = pc' := by rfl) : Go p l e R s m args below meth c Z own bytes maxL ret n0 s₀ h k j pc' L (.long (x ||| y) :: S) := by
  subst hp; exact G.step fun T locs X eT hx hb t q => XS.lor X.here hx rfl (Jvm.hb hb hd) rfl  q
theorem Go.lxor {x y : Int64} (G : Go p l e R s m args below meth c Z own bytes maxL ret n0 s₀ h k j pc L (.long y :: .long x :: S)) (hd : decode bytes pc = .ok (.lxor, 1))  {pc' : Nat} (hp : pc + 1 = pc' := by rfl) : Go p l e R s m args below meth c Z own bytes maxL ret n0 s₀ h k j pc' L (.long (x ^^^ y) :: S) := by
  subst hp; exact G.step fun T locs X eT hx hb t q => XS.lxor X.here hx rfl (Jvm.hb hb hd) rfl  q
theorem Go.lshl {x : Int64} {y : Int32} (G : Go p l e R s m args below meth c Z own bytes maxL ret n0 s₀ h k j pc L (.int y :: .long x :: S)) (hd : decode bytes pc = .ok (.lshl, 1))  {pc' : Nat} (hp : pc + 1 = pc' := by rfl) : Go p l e R s m args below meth c Z own bytes maxL ret n0 s₀ h k j pc' L (.long (x <<< (y &&& 0x3f).toInt64) :: S) := by
  subst hp; exact G.step fun T locs X eT hx hb t q => XS.lshl X.here hx rfl (Jvm.hb hb hd) rfl  q
theorem Go.lshr {x : Int64} {y : Int32} (G : Go p l e R s m args below meth c Z own bytes maxL ret n0 s₀ h k j pc L (.int y :: .long x :: S)) (hd : decode bytes pc = .ok (.lshr, 1))  {pc' : Nat} (hp : pc + 1 = pc' := by rfl) : Go p l e R s m args below meth c Z own bytes maxL ret n0 s₀ h k j pc' L (.long (x >>> (y &&& 0x3f).toInt64) :: S) := by
  subst hp; exact G.step fun T locs X eT hx hb t q => XS.lshr X.here hx rfl (Jvm.hb hb hd) rfl  q
theorem Go.lushr {x : Int64} {y : Int32} (G : Go p l e R s m args below meth c Z own bytes maxL ret n0 s₀ h k j pc L (.int y :: .long x :: S)) (hd : decode bytes pc = .ok (.lushr, 1))  {pc' : Nat} (hp : pc + 1 = pc' := by rfl) : Go p l e R s m args below meth c Z own bytes maxL ret n0 s₀ h k j pc' L (.long ((x.toUInt64 >>> (y &&& 0x3f).toInt64.toUInt64).toInt64) :: S) := by
  subst hp; exact G.step fun T locs X eT hx hb t q => XS.lushr X.here hx rfl (Jvm.hb hb hd) rfl  q
theorem Go.ineg {x : Int32} (G : Go p l e R s m args below meth c Z own bytes maxL ret n0 s₀ h k j pc L (.int x :: S)) (hd : decode bytes pc = .ok (.ineg, 1))  {pc' : Nat} (hp : pc + 1 = pc' := by rfl) : Go p l e R s m args below meth c Z own bytes maxL ret n0 s₀ h k j pc' L (.int (-x) :: S) := by
  subst hp; exact G.step fun T locs X eT hx hb t q => XS.ineg X.here hx rfl (Jvm.hb hb hd) rfl  q
theorem Go.lneg {x : Int64} (G : Go p l e R s m args below meth c Z own bytes maxL ret n0 s₀ h k j pc L (.long x :: S)) (hd : decode bytes pc = .ok (.lneg, 1))  {pc' : Nat} (hp : pc + 1 = pc' := by rfl) : Go p l e R s m args below meth c Z own bytes maxL ret n0 s₀ h k j pc' L (.long (-x) :: S) := by
  subst hp; exact G.step fun T locs X eT hx hb t q => XS.lneg X.here hx rfl (Jvm.hb hb hd) rfl  q
theorem Go.i2l {x : Int32} (G : Go p l e R s m args below meth c Z own bytes maxL ret n0 s₀ h k j pc L (.int x :: S)) (hd : decode bytes pc = .ok (.i2l, 1))  {pc' : Nat} (hp : pc + 1 = pc' := by rfl) : Go p l e R s m args below meth c Z own bytes maxL ret n0 s₀ h k j pc' L (.long (x.toInt64) :: S) := by
  subst hp; exact G.step fun T locs X eT hx hb t q => XS.i2l X.here hx rfl (Jvm.hb hb hd) rfl  q
theorem Go.l2i {x : Int64} (G : Go p l e R s m args below meth c Z own bytes maxL ret n0 s₀ h k j pc L (.long x :: S)) (hd : decode bytes pc = .ok (.l2i, 1))  {pc' : Nat} (hp : pc + 1 = pc' := by rfl) : Go p l e R s m args below meth c Z own bytes maxL ret n0 s₀ h k j pc' L (.int (x.toInt32) :: S) := by
  subst hp; exact G.step fun T locs X eT hx hb t q => XS.l2i X.here hx rfl (Jvm.hb hb hd) rfl  q
theorem Go.i2b {x : Int32} (G : Go p l e R s m args below meth c Z own bytes maxL ret n0 s₀ h k j pc L (.int x :: S)) (hd : decode bytes pc = .ok (.i2b, 1))  {pc' : Nat} (hp : pc + 1 = pc' := by rfl) : Go p l e R s m args below meth c Z own bytes maxL ret n0 s₀ h k j pc' L (.int (x.toInt8.toInt32) :: S) := by
  subst hp; exact G.step fun T locs X eT hx hb t q => XS.i2b X.here hx rfl (Jvm.hb hb hd) rfl  q
theorem Go.i2s {x : Int32} (G : Go p l e R s m args below meth c Z own bytes maxL ret n0 s₀ h k j pc L (.int x :: S)) (hd : decode bytes pc = .ok (.i2s, 1))  {pc' : Nat} (hp : pc + 1 = pc' := by rfl) : Go p l e R s m args below meth c Z own bytes maxL ret n0 s₀ h k j pc' L (.int (x.toInt16.toInt32) :: S) := by
  subst hp; exact G.step fun T locs X eT hx hb t q => XS.i2s X.here hx rfl (Jvm.hb hb hd) rfl  q
theorem Go.i2c {x : Int32} (G : Go p l e R s m args below meth c Z own bytes maxL ret n0 s₀ h k j pc L (.int x :: S)) (hd : decode bytes pc = .ok (.i2c, 1))  {pc' : Nat} (hp : pc + 1 = pc' := by rfl) : Go p l e R s m args below meth c Z own bytes maxL ret n0 s₀ h k j pc' L (.int (x.toUInt32.toUInt16.toUInt32.toInt32) :: S) := by
  subst hp; exact G.step fun T locs X eT hx hb t q => XS.i2c X.here hx rfl (Jvm.hb hb hd) rfl  q
theorem Go.lcmp {x y : Int64} (G : Go p l e R s m args below meth c Z own bytes maxL ret n0 s₀ h k j pc L (.long y :: .long x :: S)) (hd : decode bytes pc = .ok (.lcmp, 1))  {pc' : Nat} (hp : pc + 1 = pc' := by rfl) : Go p l e R s m args below meth c Z own bytes maxL ret n0 s₀ h k j pc' L (.int (Jvm.Free.XT.cmpL x y) :: S) := by
  subst hp; exact G.step fun T locs X eT hx hb t q => Jvm.Free.XT.lcmp X.here hx rfl (Jvm.hb hb hd) rfl  q
theorem Go.idiv {x y : Int32} (G : Go p l e R s m args below meth c Z own bytes maxL ret n0 s₀ h k j pc L (.int y :: .int x :: S)) (hd : decode bytes pc = .ok (.idiv, 1)) (hy : y ≠ 0) {pc' : Nat} (hp : pc + 1 = pc' := by rfl) : Go p l e R s m args below meth c Z own bytes maxL ret n0 s₀ h k j pc' L (.int (x / y) :: S) := by
  subst hp; exact G.step fun T locs X eT hx hb t q => XS.idiv X.here hx rfl (Jvm.hb hb hd) rfl hy q
theorem Go.irem {x y : Int32} (G : Go p l e R s m args below meth c Z own bytes maxL ret n0 s₀ h k j pc L (.int y :: .int x :: S)) (hd : decode bytes pc = .ok (.irem, 1)) (hy : y ≠ 0) {pc' : Nat} (hp : pc + 1 = pc' := by rfl) : Go p l e R s m args below meth c Z own bytes maxL ret n0 s₀ h k j pc' L (.int (x % y) :: S) := by
  subst hp; exact G.step fun T locs X eT hx hb t q => iremM X hx rfl (Jvm.hb hb hd) rfl hy q
theorem Go.lrem {x y : Int64} (G : Go p l e R s m args below meth c Z own bytes maxL ret n0 s₀ h k j pc L (.long y :: .long x :: S)) (hd : decode bytes pc = .ok (.lrem, 1)) (hy : y ≠ 0) {pc' : Nat} (hp : pc + 1 = pc' := by rfl) : Go p l e R s m args below meth c Z own bytes maxL ret n0 s₀ h k j pc' L (.long (x % y) :: S) := by
  subst hp; exact G.step fun T locs X eT hx hb t q => XS.lrem X.here hx rfl (Jvm.hb hb hd) rfl hy (by rw [lrem_mod]; exact q)
theorem Go.iconst {i : Int} (v : Int32) (G : Go p l e R s m args below meth c Z own bytes maxL ret n0 s₀ h k j pc L S) (hd : decode bytes pc = .ok (.iconst i, 1)) (hv : Int32.ofInt i = v := by decide) {pc' : Nat} (hp : pc + 1 = pc' := by rfl) : Go p l e R s m args below meth c Z own bytes maxL ret n0 s₀ h k j pc' L (.int v :: S) := by
  subst hp; exact G.step fun T locs X eT hx hb t q => Jvm.Free.XT.iconstV X.here hx rfl v (Jvm.hb hb hd) hv q
theorem Go.bipush {i : Int} (v : Int32) (G : Go p l e R s m args below meth c Z own bytes maxL ret n0 s₀ h k j pc L S) (hd : decode bytes pc = .ok (.bipush i, 2)) (hv : (Int8.ofInt i).toInt32 = v := by decide) {pc' : Nat} (hp : pc + 2 = pc' := by rfl) : Go p l e R s m args below meth c Z own bytes maxL ret n0 s₀ h k j pc' L (.int v :: S) := by
  subst hp; exact G.step fun T locs X eT hx hb t q => Jvm.Free.XT.bipushV X.here hx rfl v (Jvm.hb hb hd) hv q
theorem Go.sipush {i : Int} (v : Int32) (G : Go p l e R s m args below meth c Z own bytes maxL ret n0 s₀ h k j pc L S) (hd : decode bytes pc = .ok (.sipush i, 3)) (hv : (Int16.ofInt i).toInt32 = v := by decide) {pc' : Nat} (hp : pc + 3 = pc' := by rfl) : Go p l e R s m args below meth c Z own bytes maxL ret n0 s₀ h k j pc' L (.int v :: S) := by
  subst hp; exact G.step fun T locs X eT hx hb t q => Jvm.Free.XT.sipushV X.here hx rfl v (Jvm.hb hb hd) hv q
theorem Go.lconst {i : Fin 2} (v : Int64) (G : Go p l e R s m args below meth c Z own bytes maxL ret n0 s₀ h k j pc L S) (hd : decode bytes pc = .ok (.lconst i, 1)) (hv : Int64.ofNat i = v := by decide) {pc' : Nat} (hp : pc + 1 = pc' := by rfl) : Go p l e R s m args below meth c Z own bytes maxL ret n0 s₀ h k j pc' L (.long v :: S) := by
  subst hp; exact G.step fun T locs X eT hx hb t q => Jvm.Free.XT.lconstV X.here hx rfl v (Jvm.hb hb hd) hv q
theorem Go.aconstNull (G : Go p l e R s m args below meth c Z own bytes maxL ret n0 s₀ h k j pc L S) (hd : decode bytes pc = .ok (.aconst_null, 1)) {pc' : Nat} (hp : pc + 1 = pc' := by rfl) : Go p l e R s m args below meth c Z own bytes maxL ret n0 s₀ h k j pc' L (.null :: S) := by
  subst hp; exact G.step fun T locs X eT hx hb t q => XS.aconstNull X.here hx rfl (Jvm.hb hb hd) q
theorem Go.ldc {i : Nat} {v : Int32} (G : Go p l e R s m args below meth c Z own bytes maxL ret n0 s₀ h k j pc L S) (w : (Cond.constant own i v).before a0 Z = true) (hd : decode bytes pc = .ok (.ldc i, 2)) {pc' : Nat} (hp : pc + 2 = pc' := by rfl) : Go p l e R s m args below meth c Z own bytes maxL ret n0 s₀ h k j pc' L (.int v :: S) := by
  subst hp
  obtain ⟨⟨hx, hb, hm, hZ, ho, r⟩, T, locs, X, eT, N, st⟩ := G
  exact ⟨⟨hx, hb, hm, hZ, ho, r⟩, T, locs, X, eT, N, fun t q => st t (X.ldcInt hx ho (mvT hZ w) (g := mkF m pc L S) rfl (Jvm.hb hb hd) t q)⟩
theorem Go.ldc2 {i : Nat} {v : Int64} (G : Go p l e R s m args below meth c Z own bytes maxL ret n0 s₀ h k j pc L S) (w : (Cond.constantLong own i v).before a0 Z = true) (hd : decode bytes pc = .ok (.ldc2_w i, 3)) {pc' : Nat} (hp : pc + 3 = pc' := by rfl) : Go p l e R s m args below meth c Z own bytes maxL ret n0 s₀ h k j pc' L (.long v :: S) := by
  subst hp
  obtain ⟨⟨hx, hb, hm, hZ, ho, r⟩, T, locs, X, eT, N, st⟩ := G
  exact ⟨⟨hx, hb, hm, hZ, ho, r⟩, T, locs, X, eT, N, fun t q => st t (X.ldc2Long hx ho (mvT hZ w) (g := mkF m pc L S) rfl (Jvm.hb hb hd) t q)⟩
theorem Go.iloadN {i : Fin 4} {v : Int32} (G : Go p l e R s m args below meth c Z own bytes maxL ret n0 s₀ h k j pc L S) (hd : decode bytes pc = .ok (.iload_n i, 1)) (hl : L[i.val]? = some (.val (.int v))) {pc' : Nat} (hp : pc + 1 = pc' := by rfl) : Go p l e R s m args below meth c Z own bytes maxL ret n0 s₀ h k j pc' L (.int v :: S) := by
  subst hp; exact G.step fun T locs X eT hx hb t q => XS.iloadN X.here hx rfl (Jvm.hb hb hd) hl q
theorem Go.iload {i : Nat} {v : Int32} (G : Go p l e R s m args below meth c Z own bytes maxL ret n0 s₀ h k j pc L S) (hd : decode bytes pc = .ok (.iload i, 2)) (hl : L[i]? = some (.val (.int v))) {pc' : Nat} (hp : pc + 2 = pc' := by rfl) : Go p l e R s m args below meth c Z own bytes maxL ret n0 s₀ h k j pc' L (.int v :: S) := by
  subst hp; exact G.step fun T locs X eT hx hb t q => XS.iload X.here hx rfl (Jvm.hb hb hd) hl q
theorem Go.lloadN {i : Fin 4} {v : Int64} (G : Go p l e R s m args below meth c Z own bytes maxL ret n0 s₀ h k j pc L S) (hd : decode bytes pc = .ok (.lload_n i, 1)) (hl : L[i.val]? = some (.val (.long v))) {pc' : Nat} (hp : pc + 1 = pc' := by rfl) : Go p l e R s m args below meth c Z own bytes maxL ret n0 s₀ h k j pc' L (.long v :: S) := by
  subst hp; exact G.step fun T locs X eT hx hb t q => XS.lloadN X.here hx rfl (Jvm.hb hb hd) hl q
theorem Go.lload {i : Nat} {v : Int64} (G : Go p l e R s m args below meth c Z own bytes maxL ret n0 s₀ h k j pc L S) (hd : decode bytes pc = .ok (.lload i, 2)) (hl : L[i]? = some (.val (.long v))) {pc' : Nat} (hp : pc + 2 = pc' := by rfl) : Go p l e R s m args below meth c Z own bytes maxL ret n0 s₀ h k j pc' L (.long v :: S) := by
  subst hp; exact G.step fun T locs X eT hx hb t q => XS.lload X.here hx rfl (Jvm.hb hb hd) hl q
theorem Go.aloadN {i : Fin 4} {v : Value} (G : Go p l e R s m args below meth c Z own bytes maxL ret n0 s₀ h k j pc L S) (hd : decode bytes pc = .ok (.aload_n i, 1)) (hl : L[i.val]? = some (.val v)) (hv : v.isRef = true := by rfl) {pc' : Nat} (hp : pc + 1 = pc' := by rfl) : Go p l e R s m args below meth c Z own bytes maxL ret n0 s₀ h k j pc' L (v :: S) := by
  subst hp; exact G.step fun T locs X eT hx hb t q => XS.aloadN X.here hx rfl (Jvm.hb hb hd) hl hv q
theorem Go.aload {i : Nat} {v : Value} (G : Go p l e R s m args below meth c Z own bytes maxL ret n0 s₀ h k j pc L S) (hd : decode bytes pc = .ok (.aload i, 2)) (hl : L[i]? = some (.val v)) (hv : v.isRef = true := by rfl) {pc' : Nat} (hp : pc + 2 = pc' := by rfl) : Go p l e R s m args below meth c Z own bytes maxL ret n0 s₀ h k j pc' L (v :: S) := by
  subst hp; exact G.step fun T locs X eT hx hb t q => XS.aload X.here hx rfl (Jvm.hb hb hd) hl hv q
theorem Go.istoreN {i : Fin 4} {x : Int32} {L' : Array Slot} (G : Go p l e R s m args below meth c Z own bytes maxL ret n0 s₀ h k j pc L (.int x :: S)) (hd : decode bytes pc = .ok (.istore_n i, 1)) (hl : storeLocals L i.val (.int x) = some L') {pc' : Nat} (hp : pc + 1 = pc' := by rfl) : Go p l e R s m args below meth c Z own bytes maxL ret n0 s₀ h k j pc' L' S := by
  subst hp; exact G.step fun T locs X eT hx hb t q => XS.istoreN X.here hx rfl (Jvm.hb hb hd) rfl hl q
theorem Go.istore {i : Nat} {x : Int32} {L' : Array Slot} (G : Go p l e R s m args below meth c Z own bytes maxL ret n0 s₀ h k j pc L (.int x :: S)) (hd : decode bytes pc = .ok (.istore i, 2)) (hl : storeLocals L i (.int x) = some L') {pc' : Nat} (hp : pc + 2 = pc' := by rfl) : Go p l e R s m args below meth c Z own bytes maxL ret n0 s₀ h k j pc' L' S := by
  subst hp; exact G.step fun T locs X eT hx hb t q => XS.istore X.here hx rfl (Jvm.hb hb hd) rfl hl q
theorem Go.lstoreN {i : Fin 4} {x : Int64} {L' : Array Slot} (G : Go p l e R s m args below meth c Z own bytes maxL ret n0 s₀ h k j pc L (.long x :: S)) (hd : decode bytes pc = .ok (.lstore_n i, 1)) (hl : storeLocals L i.val (.long x) = some L') {pc' : Nat} (hp : pc + 1 = pc' := by rfl) : Go p l e R s m args below meth c Z own bytes maxL ret n0 s₀ h k j pc' L' S := by
  subst hp; exact G.step fun T locs X eT hx hb t q => XS.lstoreN X.here hx rfl (Jvm.hb hb hd) rfl hl q
theorem Go.lstore {i : Nat} {x : Int64} {L' : Array Slot} (G : Go p l e R s m args below meth c Z own bytes maxL ret n0 s₀ h k j pc L (.long x :: S)) (hd : decode bytes pc = .ok (.lstore i, 2)) (hl : storeLocals L i (.long x) = some L') {pc' : Nat} (hp : pc + 2 = pc' := by rfl) : Go p l e R s m args below meth c Z own bytes maxL ret n0 s₀ h k j pc' L' S := by
  subst hp; exact G.step fun T locs X eT hx hb t q => XS.lstore X.here hx rfl (Jvm.hb hb hd) rfl hl q
theorem Go.astoreN {i : Fin 4} {x : Value} {L' : Array Slot} (G : Go p l e R s m args below meth c Z own bytes maxL ret n0 s₀ h k j pc L (x :: S)) (hd : decode bytes pc = .ok (.astore_n i, 1)) (hl : storeLocals L i.val x = some L') (hv : x.isRef = true := by rfl) {pc' : Nat} (hp : pc + 1 = pc' := by rfl) : Go p l e R s m args below meth c Z own bytes maxL ret n0 s₀ h k j pc' L' S := by
  subst hp; exact G.step fun T locs X eT hx hb t q => XS.astoreN X.here hx rfl (Jvm.hb hb hd) rfl hv hl q
theorem Go.astore {i : Nat} {x : Value} {L' : Array Slot} (G : Go p l e R s m args below meth c Z own bytes maxL ret n0 s₀ h k j pc L (x :: S)) (hd : decode bytes pc = .ok (.astore i, 2)) (hl : storeLocals L i x = some L') (hv : x.isRef = true := by rfl) {pc' : Nat} (hp : pc + 2 = pc' := by rfl) : Go p l e R s m args below meth c Z own bytes maxL ret n0 s₀ h k j pc' L' S := by
  subst hp; exact G.step fun T locs X eT hx hb t q => XS.astore X.here hx rfl (Jvm.hb hb hd) rfl hv hl q
theorem Go.iinc {i : Nat} {cst : Int} {x : Int32} {L' : Array Slot} (v : Int32) (G : Go p l e R s m args below meth c Z own bytes maxL ret n0 s₀ h k j pc L S) (hd : decode bytes pc = .ok (.iinc i cst, 3)) (hl : L[i]? = some (.val (.int x))) (hl' : storeLocals L i (.int (x + v)) = some L') (hv : Int32.ofInt cst = v := by decide) {pc' : Nat} (hp : pc + 3 = pc' := by rfl) : Go p l e R s m args below meth c Z own bytes maxL ret n0 s₀ h k j pc' L' S := by
  subst hp; exact G.step fun T locs X eT hx hb t q => Jvm.Free.XT.iincV X.here hx rfl v (Jvm.hb hb hd) hv hl hl' q
theorem Go.dup {x : Value} (G : Go p l e R s m args below meth c Z own bytes maxL ret n0 s₀ h k j pc L (x :: S)) (hd : decode bytes pc = .ok (.dup, 1)) (hc : x.category = 1 := by rfl) {pc' : Nat} (hp : pc + 1 = pc' := by rfl) : Go p l e R s m args below meth c Z own bytes maxL ret n0 s₀ h k j pc' L (x :: x :: S) := by
  subst hp; exact G.step fun T locs X eT hx hb t q => XS.dup X.here hx rfl (Jvm.hb hb hd) rfl hc q
theorem Go.pop {x : Value} (G : Go p l e R s m args below meth c Z own bytes maxL ret n0 s₀ h k j pc L (x :: S)) (hd : decode bytes pc = .ok (.pop, 1)) (hc : x.category = 1 := by rfl) {pc' : Nat} (hp : pc + 1 = pc' := by rfl) : Go p l e R s m args below meth c Z own bytes maxL ret n0 s₀ h k j pc' L S := by
  subst hp; exact G.step fun T locs X eT hx hb t q => XS.pop X.here hx rfl (Jvm.hb hb hd) rfl hc q
theorem Go.dupX1 {x y : Value} (G : Go p l e R s m args below meth c Z own bytes maxL ret n0 s₀ h k j pc L (x :: y :: S)) (hd : decode bytes pc = .ok (.dup_x1, 1)) (hc : x.category = 1 := by rfl) (hc2 : y.category = 1 := by rfl) {pc' : Nat} (hp : pc + 1 = pc' := by rfl) : Go p l e R s m args below meth c Z own bytes maxL ret n0 s₀ h k j pc' L (x :: y :: x :: S) := by
  subst hp; exact G.step fun T locs X eT hx hb t q => XS.dupX1 X.here hx rfl (Jvm.hb hb hd) rfl hc hc2 q
theorem Go.dup2 {x y : Value} (G : Go p l e R s m args below meth c Z own bytes maxL ret n0 s₀ h k j pc L (x :: y :: S)) (hd : decode bytes pc = .ok (.dup2, 1)) (hc : x.category = 1 := by rfl) (hc2 : y.category = 1 := by rfl) {pc' : Nat} (hp : pc + 1 = pc' := by rfl) : Go p l e R s m args below meth c Z own bytes maxL ret n0 s₀ h k j pc' L (x :: y :: x :: y :: S) := by
  subst hp; exact G.step fun T locs X eT hx hb t q => Jvm.Free.XT.dup2 X.here hx rfl (Jvm.hb hb hd) rfl hc hc2 q
theorem Go.goto {o : Int} (G : Go p l e R s m args below meth c Z own bytes maxL ret n0 s₀ h k j pc L S) (hd : decode bytes pc = .ok (.goto o, 3)) (pc' : Nat) (ho : 0 ≤ (pc : Int) + o := by decide) (hp : ((pc : Int) + o).toNat = pc' := by decide) : Go p l e R s m args below meth c Z own bytes maxL ret n0 s₀ h k j pc' L S := by
  exact G.step fun T locs X eT hx hb t q => XS.goto X.here hx rfl (pc0 := pc) (pc' := pc') rfl (Jvm.hb hb hd) ho hp q
theorem Go.ifY {cd : ClassFile.Cond} {o : Int} {x : Int32} (G : Go p l e R s m args below meth c Z own bytes maxL ret n0 s₀ h k j pc L (.int x :: S)) (hd : decode bytes pc = .ok (.ifCond cd o, 3)) (pc' : Nat) (hc : ifCond.holds cd x = true) (ho : 0 ≤ (pc : Int) + o := by decide) (hp : ((pc : Int) + o).toNat = pc' := by decide) : Go p l e R s m args below meth c Z own bytes maxL ret n0 s₀ h k j pc' L S := by
  exact G.step fun T locs X eT hx hb t q => XS.ifYes X.here hx rfl (pc0 := pc) (pc' := pc') rfl (Jvm.hb hb hd) rfl hc ho hp q
theorem Go.ifN {cd : ClassFile.Cond} {o : Int} {x : Int32} (G : Go p l e R s m args below meth c Z own bytes maxL ret n0 s₀ h k j pc L (.int x :: S)) (hd : decode bytes pc = .ok (.ifCond cd o, 3)) (pc' : Nat) (hc : ifCond.holds cd x = false) (hp : pc + 3 = pc' := by rfl) : Go p l e R s m args below meth c Z own bytes maxL ret n0 s₀ h k j pc' L S := by
  subst hp; exact G.step fun T locs X eT hx hb t q => XS.ifNo X.here hx rfl (Jvm.hb hb hd) rfl hc q
theorem Go.icmpY {cd : ClassFile.Cond} {o : Int} {x y : Int32} (G : Go p l e R s m args below meth c Z own bytes maxL ret n0 s₀ h k j pc L (.int y :: .int x :: S)) (hd : decode bytes pc = .ok (.if_icmp cd o, 3)) (pc' : Nat) (hc : if_icmp.holds cd x y = true) (ho : 0 ≤ (pc : Int) + o := by decide) (hp : ((pc : Int) + o).toNat = pc' := by decide) : Go p l e R s m args below meth c Z own bytes maxL ret n0 s₀ h k j pc' L S := by
  exact G.step fun T locs X eT hx hb t q => XS.icmpYes X.here hx rfl (pc0 := pc) (pc' := pc') rfl (Jvm.hb hb hd) rfl hc ho hp q
theorem Go.icmpN {cd : ClassFile.Cond} {o : Int} {x y : Int32} (G : Go p l e R s m args below meth c Z own bytes maxL ret n0 s₀ h k j pc L (.int y :: .int x :: S)) (hd : decode bytes pc = .ok (.if_icmp cd o, 3)) (pc' : Nat) (hc : if_icmp.holds cd x y = false) (hp : pc + 3 = pc' := by rfl) : Go p l e R s m args below meth c Z own bytes maxL ret n0 s₀ h k j pc' L S := by
  subst hp; exact G.step fun T locs X eT hx hb t q => XS.icmpNo X.here hx rfl (Jvm.hb hb hd) rfl hc q
theorem Go.ifnullY {o : Int} (G : Go p l e R s m args below meth c Z own bytes maxL ret n0 s₀ h k j pc L (.null :: S)) (hd : decode bytes pc = .ok (.ifnull o, 3)) (pc' : Nat) (ho : 0 ≤ (pc : Int) + o := by decide) (hp : ((pc : Int) + o).toNat = pc' := by decide) : Go p l e R s m args below meth c Z own bytes maxL ret n0 s₀ h k j pc' L S := by
  exact G.step fun T locs X eT hx hb t q => XS.ifnullYes X.here hx rfl (pc0 := pc) (pc' := pc') rfl (Jvm.hb hb hd) rfl ho hp q
theorem Go.ifnullN {o : Int} {b : Addr} (G : Go p l e R s m args below meth c Z own bytes maxL ret n0 s₀ h k j pc L (.ref b :: S)) (hd : decode bytes pc = .ok (.ifnull o, 3)) (pc' : Nat) (hp : pc + 3 = pc' := by rfl) : Go p l e R s m args below meth c Z own bytes maxL ret n0 s₀ h k j pc' L S := by
  subst hp; exact G.step fun T locs X eT hx hb t q => XS.ifnullNo X.here hx rfl (Jvm.hb hb hd) rfl q
theorem Go.ifnonnullY {o : Int} {b : Addr} (G : Go p l e R s m args below meth c Z own bytes maxL ret n0 s₀ h k j pc L (.ref b :: S)) (hd : decode bytes pc = .ok (.ifnonnull o, 3)) (pc' : Nat) (ho : 0 ≤ (pc : Int) + o := by decide) (hp : ((pc : Int) + o).toNat = pc' := by decide) : Go p l e R s m args below meth c Z own bytes maxL ret n0 s₀ h k j pc' L S := by
  exact G.step fun T locs X eT hx hb t q => XS.ifnonnullYes X.here hx rfl (pc0 := pc) (pc' := pc') rfl (Jvm.hb hb hd) rfl ho hp q
theorem Go.ifnonnullN {o : Int} (G : Go p l e R s m args below meth c Z own bytes maxL ret n0 s₀ h k j pc L (.null :: S)) (hd : decode bytes pc = .ok (.ifnonnull o, 3)) (pc' : Nat) (hp : pc + 3 = pc' := by rfl) : Go p l e R s m args below meth c Z own bytes maxL ret n0 s₀ h k j pc' L S := by
  subst hp; exact G.step fun T locs X eT hx hb t q => XS.ifnonnullNo X.here hx rfl (Jvm.hb hb hd) rfl q
theorem Go.out {w : Value} {t : FieldType} {i : Instr} {kc js : Nat} {Q : Option Value → Heap → Prop} (G : Go p l e R s m args below meth c Z own bytes maxL ret n0 s₀ h k j pc L (w :: S)) (hr : ret = some t) (hn : narrow t w = w)
    (hi : (i = .ireturn ∧ (t = .int ∨ t = .boolean ∨ t = .byte ∨ t = .char ∨ t = .short) ∧ ∃ z, w = .int z) ∨ (i = .lreturn ∧ t = .long ∧ ∃ z, w = .long z) ∨ (i = .dreturn ∧ t = .double ∧ ∃ z, w = .double z) ∨ (i = .freturn ∧ t = .float ∧ ∃ z, w = .float z) ∨ (i = .areturn ∧ t.isReference = true ∧ w.isRef = true))
    (hd : decode bytes pc = .ok (i, 1)) (hQ : Q (some w) h) (hk : k ≤ kc) (hj : j ≤ js) : Fini p e below s s₀ n0 kc js Q := by
  obtain ⟨⟨hx, hb, hm, hZ, ho, hret, hlk, hn0⟩, T, locs, X, eT, N, st⟩ := G
  subst hr
  obtain ⟨fs, hr, hrun, hended, hW, hsame⟩ := X.leave (v := some w) (fun h => by rw [hret] at h; cases h) hlk
  exact ⟨_, _, st _ (retOut X hx hret hn hi (Jvm.hb hb hd) hr), hrun, hended, _, _, rfl, ⟨by show Q _ T.heap; rw [eT]; exact hQ, N⟩, ⟨_, rfl⟩, hW, hsame.mono hk hj⟩
theorem Go.retI {z : Int32} {kc js : Nat} {Q : Option Value → Heap → Prop} (G : Go p l e R s m args below meth c Z own bytes maxL ret n0 s₀ h k j pc L (.int z :: S)) (hd : decode bytes pc = .ok (.ireturn, 1)) (hr : ret = some .int) (hQ : Q (some (.int z)) h) (hk : k ≤ kc := by decide) (hj : j ≤ js := by decide) : Fini p e below s s₀ n0 kc js Q :=
  G.out hr rfl (Or.inl ⟨rfl, Or.inl rfl, z, rfl⟩) hd hQ hk hj
theorem Go.retS {z : Int32} {t : FieldType} {kc js : Nat} {Q : Option Value → Heap → Prop} (G : Go p l e R s m args below meth c Z own bytes maxL ret n0 s₀ h k j pc L (.int z :: S)) (hd : decode bytes pc = .ok (.ireturn, 1)) (hr : ret = some t) (ht : t = .int ∨ t = .boolean ∨ t = .byte ∨ t = .char ∨ t = .short) (hn : narrow t (.int z) = .int z) (hQ : Q (some (.int z)) h) (hk : k ≤ kc := by decide) (hj : j ≤ js := by decide) : Fini p e below s s₀ n0 kc js Q :=
  G.out hr hn (Or.inl ⟨rfl, ht, z, rfl⟩) hd hQ hk hj
theorem Go.retZ {z : Int32} {kc js : Nat} {Q : Option Value → Heap → Prop} (G : Go p l e R s m args below meth c Z own bytes maxL ret n0 s₀ h k j pc L (.int z :: S)) (hd : decode bytes pc = .ok (.ireturn, 1)) (hr : ret = some .boolean) (hn : z = 0 ∨ z = 1) (hQ : Q (some (.int z)) h) (hk : k ≤ kc := by decide) (hj : j ≤ js := by decide) : Fini p e below s s₀ n0 kc js Q :=
  G.out hr (by rcases hn with rfl | rfl <;> rfl) (Or.inl ⟨rfl, Or.inr (Or.inl rfl), z, rfl⟩) hd hQ hk hj
theorem Go.retJ {z : Int64} {kc js : Nat} {Q : Option Value → Heap → Prop} (G : Go p l e R s m args below meth c Z own bytes maxL ret n0 s₀ h k j pc L (.long z :: S)) (hd : decode bytes pc = .ok (.lreturn, 1)) (hr : ret = some .long) (hQ : Q (some (.long z)) h) (hk : k ≤ kc := by decide) (hj : j ≤ js := by decide) : Fini p e below s s₀ n0 kc js Q :=
  G.out hr rfl (Or.inr (Or.inl ⟨rfl, rfl, z, rfl⟩)) hd hQ hk hj
theorem Go.retA {a : Addr} {t : FieldType} {kc js : Nat} {Q : Option Value → Heap → Prop} (G : Go p l e R s m args below meth c Z own bytes maxL ret n0 s₀ h k j pc L (.ref a :: S)) (hd : decode bytes pc = .ok (.areturn, 1)) (hr : ret = some t) (ht : t.isReference = true) (hn : narrow t (.ref a) = .ref a) (hQ : Q (some (.ref a)) h) (hk : k ≤ kc := by decide) (hj : j ≤ js := by decide) : Fini p e below s s₀ n0 kc js Q :=
  G.out hr hn (Or.inr (Or.inr (Or.inr (Or.inr ⟨rfl, ht, rfl⟩)))) hd hQ hk hj
theorem Go.retV {kc js : Nat} {Q : Option Value → Heap → Prop} (G : Go p l e R s m args below meth c Z own bytes maxL ret n0 s₀ h k j pc L []) (hd : decode bytes pc = .ok (.return_, 1)) (hr : ret = none) (hQ : Q none h) (hk : k ≤ kc := by decide) (hj : j ≤ js := by decide) : Fini p e below s s₀ n0 kc js Q := by
  obtain ⟨⟨hx, hb, hm, hZ, ho, hret, hlk, hn0⟩, T, locs, X, eT, N, st⟩ := G
  subst hr
  obtain ⟨fs, hr, hrun, hended, hW, hsame⟩ := X.leave (v := none) (fun _ => rfl) hlk
  exact ⟨_, _, st _ (X.returnOut hx hret (Jvm.hb hb hd) hr), hrun, hended, _, _, rfl, ⟨by show Q _ T.heap; rw [eT]; exact hQ, N⟩, ⟨_, rfl⟩, hW, hsame.mono hk hj⟩
theorem Go.callS {S0 argsL rest : List Value} {y : MethodName} {bytes' : ByteArray} {maxL' : Nat} {ret' r : Option FieldType} {ps : List FieldType} {rm : Room} {index : Nat} {Q : Option Value → Heap → Prop} (G : Go p l e R s m args below meth c Z own bytes maxL ret n0 s₀ h k j pc L S0) (C : Con l y bytes' maxL' ret' [] rm rm.cells rm.slots Z argsL.toArray h n0 Q) (hS : S0 = argsL.reverse ++ rest)
    (w1 : (Cond.methodLink own index y).before a0 Z = true) (w2 : (Cond.static y).before a0 Z = true) (w3 : (Cond.initialized y.cls).before a0 Z = true) (w4 : (Cond.code y bytes' maxL' ret').before a0 Z = true) (hy : y.cls ≠ "java/lang/invoke/MethodHandle" ∧ y.cls ≠ "java/lang/invoke/VarHandle")
    (hd : decode bytes pc = .ok (.invokestatic index, 3)) (hpd : parseMethodDescriptor y.desc = some ⟨ps, r⟩) (hl : argsL.length = ps.length) {W : Nat} (hW : (rest.map fun v => v.category).sum = W) (hL : L.size = maxL) (hf : rm.frames + 1 ≤ R.frames) (hlo : W + (maxL' + 11) + rm.locals ≤ R.locals) (hc : k + rm.cells ≤ R.cells) (hs : j + rm.slots ≤ R.slots) {pc' k' j' : Nat} (hp : pc + 3 = pc') (hk' : k + rm.cells = k') (hj' : j + rm.slots = j') :
    ∃ v h', Q v h' ∧ ∀ S', v.toList ++ rest = S' → Go p l e R s m args below meth c Z own bytes maxL ret n0 s₀ h' k' j' pc' L S' := by
  subst hp hk' hj' hS
  obtain ⟨⟨hx, hb, hm, hZ, ho, hret, hlk, hn0⟩, T, locs, X, eT, N, st⟩ := G
  obtain ⟨v, _, ⟨T', L', k', n'⟩, -, X', ⟨Lc, hQ, l', y', z'⟩, st'⟩ := Jvm.LawKit.callS X hx (y := y) ho (mvT hZ w1) (mvT hZ w2) (mvT hZ w3) (mvT hZ w4) hy (backOf (W := W) (R := R) (rm := rm) (Q := fun v h L => Q v h ∧ Fr n0 L) C hZ w4 w3 hf hlo) (g := mkF m pc L (argsL.reverse ++ rest)) rfl (by rw [hm]; exact hL) (argsL := argsL) (rest := rest) (lenOf hpd hl) rfl (by show 2 * 0 + _ ≤ _; omega) (Jvm.hb hb hd) (fun _ _ => ⟨rfl, eT, hc, hs⟩)
  dsimp only [Pt.U, Pt.locs, Pt.cells, Pt.slots] at X' l' y' z' st' hQ
  subst l' y' z'
  refine ⟨v, T'.heap, hQ.1, fun S' e => ?_⟩
  subst e
  exact ⟨⟨hx, hb, hm, hZ, ho, hret, hlk, hn0⟩, T', _, X', rfl, Fr.app N hQ.2, fun t q => st t (st' t q)⟩
theorem Go.callI {S0 argsL rest : List Value} {y : MethodName} {bytes' : ByteArray} {maxL' : Nat} {r : Option FieldType} {ps : List FieldType} {rm : Room} {index : Nat} {Q : Option Value → Heap → Prop} {a : Addr} (G : Go p l e R s m args below meth c Z own bytes maxL ret n0 s₀ h k j pc L S0) (C : Con l y bytes' maxL' none [] rm rm.cells rm.slots Z (.ref a :: argsL).toArray h n0 Q) (hS : S0 = argsL.reverse ++ .ref a :: rest) (hyn : y.name = "<init>")
    (w1 : (Cond.methodLink own index y).before a0 Z = true) (w2 : (Cond.instanceMethod y).before a0 Z = true) (w3 : (Cond.initialized y.cls).before a0 Z = true) (w4 : (Cond.code y bytes' maxL' none).before a0 Z = true) (hy : y.cls ≠ "java/lang/invoke/MethodHandle" ∧ y.cls ≠ "java/lang/invoke/VarHandle")
    (hd : decode bytes pc = .ok (.invokespecial index, 3)) (hpd : parseMethodDescriptor y.desc = some ⟨ps, r⟩) (hl : argsL.length = ps.length) {W : Nat} (hW : (rest.map fun v => v.category).sum = W) (hL : L.size = maxL) (hf : rm.frames + 1 ≤ R.frames) (hlo : W + (maxL' + 11) + rm.locals ≤ R.locals) (hc : k + rm.cells ≤ R.cells) (hs : j + rm.slots ≤ R.slots) {pc' k' j' : Nat} (hp : pc + 3 = pc') (hk' : k + rm.cells = k') (hj' : j + rm.slots = j') :
    ∃ v h', Q v h' ∧ ∀ S', v.toList ++ rest = S' → Go p l e R s m args below meth c Z own bytes maxL ret n0 s₀ h' k' j' pc' L S' := by
  subst hp hk' hj' hS
  obtain ⟨⟨hx, hb, hm, hZ, ho, hret, hlk, hn0⟩, T, locs, X, eT, N, st⟩ := G
  obtain ⟨v, _, ⟨T', L', k', n'⟩, -, X', ⟨Lc, hQ, l', y', z'⟩, st'⟩ := X.specialBack hx (y := y) hyn ho (mvT hZ w1) (mvT hZ w2) (mvT hZ w4) hy (backOf (W := W) (R := R) (rm := rm) (Q := fun v h L => Q v h ∧ Fr n0 L) C hZ w4 w3 hf hlo) (g := mkF m pc L (argsL.reverse ++ .ref a :: rest)) rfl (by rw [hm]; exact hL) (Steps.refl _) (a := a) (argsL := argsL) (rest := rest) (lenOf hpd hl) rfl (by show 2 * 0 + _ ≤ _; omega) (Jvm.hb hb hd) (fun _ _ => ⟨rfl, eT, hc, hs⟩)
  dsimp only [Pt.U, Pt.locs, Pt.cells, Pt.slots] at X' l' y' z' st' hQ
  subst l' y' z'
  refine ⟨v, T'.heap, hQ.1, fun S' e => ?_⟩
  subst e
  exact ⟨⟨hx, hb, hm, hZ, ho, hret, hlk, hn0⟩, T', _, X', rfl, Fr.app N hQ.2, fun t q => st t (st'.trans q)⟩
theorem Go.callV {S0 argsL rest : List Value} {y : MethodName} {bytes' : ByteArray} {maxL' : Nat} {ret' r : Option FieldType} {ps : List FieldType} {rm : Room} {index : Nat} {Q : Option Value → Heap → Prop} {a : Addr} {K : String} (G : Go p l e R s m args below meth c Z own bytes maxL ret n0 s₀ h k j pc L S0) (C : Con l y bytes' maxL' ret' [] rm rm.cells rm.slots Z (.ref a :: argsL).toArray h n0 Q) (hS : S0 = argsL.reverse ++ .ref a :: rest) (E : Exa Z h a K)
    (w1 : (Cond.methodLink own index y).before a0 Z = true) (w1' : (Cond.declares y).before a0 Z = true) (w1'' : (Cond.selects K y y).before a0 Z = true) (w2 : (Cond.instanceMethod y).before a0 Z = true) (w3 : (Cond.initialized y.cls).before a0 Z = true) (w4 : (Cond.code y bytes' maxL' ret').before a0 Z = true) (hy : y.cls ≠ "java/lang/invoke/MethodHandle" ∧ y.cls ≠ "java/lang/invoke/VarHandle")
    (hd : decode bytes pc = .ok (.invokevirtual index, 3)) (hpd : parseMethodDescriptor y.desc = some ⟨ps, r⟩) (hl : argsL.length = ps.length) {W : Nat} (hW : (rest.map fun v => v.category).sum = W) (hL : L.size = maxL) (hf : rm.frames + 1 ≤ R.frames) (hlo : W + (maxL' + 11) + rm.locals ≤ R.locals) (hc : k + rm.cells ≤ R.cells) (hs : j + rm.slots ≤ R.slots) {pc' k' j' : Nat} (hp : pc + 3 = pc') (hk' : k + rm.cells = k') (hj' : j + rm.slots = j') :
    ∃ v h', Q v h' ∧ ∀ S', v.toList ++ rest = S' → Go p l e R s m args below meth c Z own bytes maxL ret n0 s₀ h' k' j' pc' L S' := by
  subst hp hk' hj' hS
  obtain ⟨⟨hx, hb, hm, hZ, ho, hret, hlk, hn0⟩, T, locs, X, eT, N, st⟩ := G
  obtain ⟨cq, kq, q1, q2, q3⟩ := isOf hZ eT E
  obtain ⟨v, _, ⟨T', L', k', n'⟩, -, X', ⟨Lc, hQ, l', y', z'⟩, st'⟩ := X.virtualBack hx (y := y) (z := y) ho (mvT hZ w1) (mvT hZ w1') (notFace_of_selects (args := #[]) (mvT hZ w1'')) (mvT hZ w1'') (mvT hZ w2) hy (backOf (W := W) (R := R) (rm := rm) (Q := fun v h L => Q v h ∧ Fr n0 L) C hZ w4 w3 hf hlo) q1 q3 (g := mkF m pc L (argsL.reverse ++ .ref a :: rest)) rfl (by rw [hm]; exact hL) (Steps.refl _) (argsL := argsL) (rest := rest) (lenOf hpd hl) rfl (by show 2 * 0 + _ ≤ _; omega) (Jvm.hb hb hd) (fun _ _ => ⟨rfl, eT, hc, hs⟩)
  dsimp only [Pt.U, Pt.locs, Pt.cells, Pt.slots] at X' l' y' z' st' hQ
  subst l' y' z'
  refine ⟨v, T'.heap, hQ.1, fun S' e => ?_⟩
  subst e
  exact ⟨⟨hx, hb, hm, hZ, ho, hret, hlk, hn0⟩, T', _, X', rfl, Fr.app N hQ.2, fun t q => st t (st'.trans q)⟩
theorem Go.initO {a : Addr} {index : Nat} (G : Go p l e R s m args below meth c Z own bytes maxL ret n0 s₀ h k j pc L (.ref a :: S)) (w1 : (Cond.methodLink own index Lib.objectInit).before a0 Z = true) (w2 : (Cond.instanceMethod Lib.objectInit).before a0 Z = true) (w3 : (Cond.code Lib.objectInit Jvm.LibCode.Object.Init0.code 1 none).before a0 Z = true) (hd : decode bytes pc = .ok (.invokespecial index, 3)) {W : Nat} (hW : (S.map fun v => v.category).sum = W) (hL : L.size = maxL) (hf : 1 ≤ R.frames) (hlo : W + 12 ≤ R.locals) {pc' : Nat} (hp : pc + 3 = pc' := by rfl) : Go p l e R s m args below meth c Z own bytes maxL ret n0 s₀ h k j pc' L S := by
  subst hp
  obtain ⟨⟨hx, hb, hm, hZ, ho, r⟩, T, locs, X, eT, N, st⟩ := G
  obtain ⟨T', X', e', st'⟩ := Jvm.RoadKit.initO X hx hZ ho w1 w2 w3 eT (g := mkF m pc L (.ref a :: S)) rfl (by rw [hm]; exact hL) rfl (Jvm.hb hb hd) hf (W := W) (by show 2 * 0 + _ ≤ _; omega) hlo
  exact ⟨⟨hx, hb, hm, hZ, ho, r⟩, T', locs, X', e', N, fun t q => st t (st' t q)⟩
theorem Go.newO {C : String} {index n : Nat} (G : Go p l e R s m args below meth c Z own bytes maxL ret n0 s₀ h k j pc L S) (w1 : (Cond.classLink own index C).before a0 Z = true) (w2 : (Cond.instantiable C n).before a0 Z = true) (w3 : (Cond.initialized C).before a0 Z = true) (hd : decode bytes pc = .ok (.new index, 3)) {pc' k' j' : Nat} (hp : pc + 3 = pc') (hk : k + 1 = k') (hj : j + n = j') (hc : k' ≤ R.cells) (hl : j' ≤ R.slots) :
    ∃ a h', a = h.size ∧ n0 ≤ a ∧ Ext h h' ∧ Exa Z h' a C ∧ (∀ {O nm d : String} {ty : FieldType}, Laid Z a0 C O nm d → parseFieldDescriptor d = some ty → Fld Z h' a O nm d (defaultValue ty)) ∧ Go p l e R s m args below meth c Z own bytes maxL ret n0 s₀ h' k' j' pc' L (.ref a :: S) := by
  have hsz := G.size
  subst hp hk hj
  obtain ⟨⟨hx, hb, hm, hZ, ho, r⟩, T, locs, X, eT, N, st⟩ := G
  obtain ⟨T2, h2, X2, e2, E2, A2, D2, -, st2⟩ := Jvm.RoadKit.newO X hx hZ ho w1 w2 w3 eT (g := mkF m pc L S) rfl (Jvm.hb hb hd) hc hl
  exact ⟨h.size, h2, rfl, hsz, E2, A2, D2, ⟨hx, hb, hm, hZ, ho, r⟩, T2, locs, X2, e2, N, fun t q => st t (st2 t q)⟩
theorem Go.getF {a : Addr} {R0 O n d host : String} {index : Nat} {v : Value} (G : Go p l e R s m args below meth c Z own bytes maxL ret n0 s₀ h k j pc L (.ref a :: S)) (w : (Cond.fieldLink own index R0 n d).before a0 Z = true ∨ (Cond.fieldLinkNest own index R0 n d host).before a0 Z = true) (via : Via Z R0 O n d) (F : Fld Z h a O n d v) (hd : decode bytes pc = .ok (.getfield index, 3)) {pc' : Nat} (hp : pc + 3 = pc' := by rfl) : Go p l e R s m args below meth c Z own bytes maxL ret n0 s₀ h k j pc' L (v :: S) := by
  subst hp
  obtain ⟨⟨hx, hb, hm, hZ, ho, r⟩, T, locs, X, eT, N, st⟩ := G
  obtain ⟨T', X', e', st'⟩ := Jvm.RoadKit.getF X hx hZ ho w via eT F (g := mkF m pc L (.ref a :: S)) rfl rfl (Jvm.hb hb hd)
  exact ⟨⟨hx, hb, hm, hZ, ho, r⟩, T', locs, X', e', N, fun t q => st t (st' t q)⟩
theorem Go.putF {a : Addr} {R0 O n d host C : String} {index kk : Nat} {ty : FieldType} {v old : Value} (G : Go p l e R s m args below meth c Z own bytes maxL ret n0 s₀ h k j pc L (v :: .ref a :: S)) (w : (Cond.fieldLink own index R0 n d).before a0 Z = true ∨ (Cond.fieldLinkNest own index R0 n d host).before a0 Z = true) (via : Via Z R0 O n d) (F : Fld Z h a O n d old) (E : Exa Z h a C) (ha : n0 ≤ a) (Ly : (Cond.lays C O n d).before a0 Z = true ∨ ((Cond.laysFinal C O n d).before a0 Z = true ∧ own = O ∧ meth.name = "<init>")) (wi : (Cond.instantiable C kk).before a0 Z = true) (hty : parseFieldDescriptor d = some ty) (hn : narrow ty v = v) (hf : fits ty v = true) (hd : decode bytes pc = .ok (.putfield index, 3)) {pc' : Nat} (hp : pc + 3 = pc' := by rfl) :
    ∃ h', Wr h h' a (Jvm.RoadKit.slotOf Z O n d) v ∧ Go p l e R s m args below meth c Z own bytes maxL ret n0 s₀ h' k j pc' L S := by
  subst hp
  obtain ⟨⟨hx, hb, hm, hZ, ho, r⟩, T, locs, X, eT, N, st⟩ := G
  obtain ⟨T', h', X', e', W', st'⟩ := Jvm.RoadKit.putF X hx hZ ho w via eT F E Ly wi hty hn hf (g := mkF m pc L (v :: .ref a :: S)) rfl rfl (Jvm.hb hb hd)
  exact ⟨h', W', ⟨hx, hb, hm, hZ, ho, r⟩, T', _, X', e', Fr.snoc X' N ha, fun t q => st t (st' t q)⟩
/-- an array of that kind whose places hold these values -/
def Av (Z : State) (h : Heap) (a : Addr) (ty : FieldType) (vs : List Value) : Prop := ∃ c : Cell, Arr Z h a c ty ∧ c.slots.toList = vs ∧ vs.length < 2 ^ 31 ∧ ∀ v ∈ vs, fits ty v = true
theorem Av.lt {a : Addr} {ty : FieldType} {vs : List Value} (A : Av Z h a ty vs) : a < h.size := by obtain ⟨c, A, -⟩ := A; exact A.lt
theorem Av.len {a : Addr} {ty : FieldType} {vs : List Value} (A : Av Z h a ty vs) : vs.length < 2 ^ 31 := by obtain ⟨c, _, _, q, _⟩ := A; exact q
theorem Av.fit {a : Addr} {ty : FieldType} {vs : List Value} (A : Av Z h a ty vs) : ∀ v ∈ vs, fits ty v = true := by obtain ⟨c, _, _, _, q⟩ := A; exact q
theorem Av.ext {h' : Heap} {a : Addr} {ty : FieldType} {vs : List Value} (A : Av Z h a ty vs) (E : Ext h h') : Av Z h' a ty vs := by obtain ⟨c, A, q⟩ := A; exact ⟨c, A.ext E, q⟩
theorem Av.other {h' : Heap} {a b : Addr} {sl : Nat} {v : Value} {ty : FieldType} {vs : List Value} (A : Av Z h b ty vs) (W : Wr h h' a sl v) (q : b ≠ a) : Av Z h' b ty vs := by obtain ⟨c, A, r⟩ := A; exact ⟨c, A.other W q, r⟩
theorem Av.keep {h' : Heap} {a : Addr} {ws : List Addr} {ty : FieldType} {vs : List Value} (A : Av Z h a ty vs) (K : Keep h h' ws) (q : a ∉ ws) : Av Z h' a ty vs := by obtain ⟨c, A, r⟩ := A; exact ⟨c, ⟨K.2.1 a c A.1 q, A.2⟩, r⟩
theorem Av.set {h' : Heap} {a : Addr} {i : Nat} {v : Value} {ty : FieldType} {vs : List Value} (A : Av Z h a ty vs) (W : Wr h h' a i v) (hf : fits ty v = true) : Av Z h' a ty (vs.set i v) := by
  obtain ⟨c, A, rfl, r, f⟩ := A
  exact ⟨c.setSlot i v, A.same W, by simp [Cell.setSlot], by simpa using r, fun x hx => (List.mem_or_eq_of_mem_set hx).elim (f x) fun q => q ▸ hf⟩
theorem idx_of {x : Int32} {i n : Nat} (hx : x.toInt = (i : Int)) (hi : i < n) : ¬ (x < 0 ∨ n ≤ x.toNatClampNeg) ∧ x.toNatClampNeg = i := by
  have e : x.toNatClampNeg = i := by show x.toInt.toNat = i; omega
  refine ⟨?_, e⟩
  rw [e, Int32.lt_iff_toInt_lt, hx]
  show ¬ (((i : Nat) : Int) < 0 ∨ n ≤ i)
  omega
theorem Go.newA {n : Int32} {aty : ArrayType} {ty : FieldType} {dv : Value} {N cap : Nat} (G : Go p l e R s m args below meth c Z own bytes maxL ret n0 s₀ h k j pc L (.int n :: S)) (w : (Cond.arrayClass ty).before a0 Z = true) (hd : decode bytes pc = .ok (.newarray aty, 2)) (hty : newarray.typeOf aty = ty) (hdv : defaultValue ty = dv) (hn : n.toInt = (N : Int)) (hN : N ≤ cap) (hb : cap * 8 ≤ 536870912) {pc' k' j' : Nat} (hp : pc + 2 = pc') (hk : k + 1 = k') (hj : j + cap = j') (hc : k' ≤ R.cells) (hl : j' ≤ R.slots) :
    ∃ a h', a = h.size ∧ n0 ≤ a ∧ Ext h h' ∧ Av Z h' a ty (List.replicate N dv) ∧ Go p l e R s m args below meth c Z own bytes maxL ret n0 s₀ h' k' j' pc' L (.ref a :: S) := by
  have hsz := G.size
  have e1 : n.toNatClampNeg = N := by show n.toInt.toNat = N; omega
  have e2 := n.toInt_lt
  subst hp hk hj hty hdv
  obtain ⟨⟨hx, hb', hm, hZ, ho, r⟩, T, locs, X, eT, N', st⟩ := G
  obtain ⟨T2, h2, cA, X2, e3, E2, A2, st2⟩ := Jvm.RoadKit.newP X hx hZ w eT (g := mkF m pc L (.int n :: S)) rfl (Jvm.hb hb' hd) rfl (by rw [Int32.lt_iff_toInt_lt, hn]; show ¬ ((N : Nat) : Int) < 0; omega) (cap := cap) (by rw [e1]; exact hN) hb hc hl
  exact ⟨h.size, h2, rfl, hsz, E2, ⟨_, A2, by rw [Jvm.RoadKit.newA, e1]; simp, by rw [List.length_replicate]; omega, fun v hv => by rw [List.eq_of_mem_replicate hv]; cases aty <;> rfl⟩, ⟨hx, hb', hm, hZ, ho, r⟩, T2, locs, X2, e3, N', fun t q => st t (st2 t q)⟩
theorem Go.stI {a : Addr} {x : Int32} {y : Int32} {i : Nat} {vs : List Value} (G : Go p l e R s m args below meth c Z own bytes maxL ret n0 s₀ h k j pc L (.int x :: .int y :: .ref a :: S)) (A : Av Z h a .int vs) (ha : n0 ≤ a) (hy : y.toInt = (i : Int)) (hi : i < vs.length) (hd : decode bytes pc = .ok (.iastore, 1)) {pc' : Nat} (hp : pc + 1 = pc' := by rfl) :
    ∃ h', Wr h h' a i (.int x) ∧ Av Z h' a .int (vs.set i (.int x)) ∧ Go p l e R s m args below meth c Z own bytes maxL ret n0 s₀ h' k j pc' L S := by
  have A0 := A
  obtain ⟨cl, Ar, rfl, hlen, -⟩ := A
  rw [Array.length_toList] at hi
  have ⟨i1, i2⟩ := idx_of hy hi
  subst hp
  obtain ⟨⟨hx, hb, hm, hZ, ho, r⟩, T, locs, X, eT, N, st⟩ := G
  obtain ⟨T', h', X', e', W', st'⟩ := Jvm.RoadKit.stI X hx hZ eT Ar i1 (g := mkF m pc L (.int x :: .int y :: .ref a :: S)) rfl rfl (Jvm.hb hb hd)
  have N' := Fr.snoc X' N ha
  rw [i2] at W'
  exact ⟨h', W', A0.set W' rfl, ⟨hx, hb, hm, hZ, ho, r⟩, T', _, X', e', N', fun t q => st t (st' t q)⟩
theorem Go.stJ {a : Addr} {x : Int64} {y : Int32} {i : Nat} {vs : List Value} (G : Go p l e R s m args below meth c Z own bytes maxL ret n0 s₀ h k j pc L (.long x :: .int y :: .ref a :: S)) (A : Av Z h a .long vs) (ha : n0 ≤ a) (hy : y.toInt = (i : Int)) (hi : i < vs.length) (hd : decode bytes pc = .ok (.lastore, 1)) {pc' : Nat} (hp : pc + 1 = pc' := by rfl) :
    ∃ h', Wr h h' a i (.long x) ∧ Av Z h' a .long (vs.set i (.long x)) ∧ Go p l e R s m args below meth c Z own bytes maxL ret n0 s₀ h' k j pc' L S := by
  have A0 := A
  obtain ⟨cl, Ar, rfl, hlen, -⟩ := A
  rw [Array.length_toList] at hi
  have ⟨i1, i2⟩ := idx_of hy hi
  subst hp
  obtain ⟨⟨hx, hb, hm, hZ, ho, r⟩, T, locs, X, eT, N, st⟩ := G
  obtain ⟨T', h', X', e', W', st'⟩ := Jvm.RoadKit.stJ X hx hZ eT Ar i1 (g := mkF m pc L (.long x :: .int y :: .ref a :: S)) rfl rfl (Jvm.hb hb hd)
  have N' := Fr.snoc X' N ha
  rw [i2] at W'
  exact ⟨h', W', A0.set W' rfl, ⟨hx, hb, hm, hZ, ho, r⟩, T', _, X', e', N', fun t q => st t (st' t q)⟩
theorem Go.stB {a : Addr} {x : Int32} {y : Int32} {i : Nat} {vs : List Value} (G : Go p l e R s m args below meth c Z own bytes maxL ret n0 s₀ h k j pc L (.int x :: .int y :: .ref a :: S)) (A : Av Z h a .byte vs) (ha : n0 ≤ a) (hy : y.toInt = (i : Int)) (hi : i < vs.length) (hd : decode bytes pc = .ok (.bastore, 1)) {pc' : Nat} (hp : pc + 1 = pc' := by rfl) :
    ∃ h', Wr h h' a i (.int (nar .byte x)) ∧ Av Z h' a .byte (vs.set i (.int (nar .byte x))) ∧ Go p l e R s m args below meth c Z own bytes maxL ret n0 s₀ h' k j pc' L S := by
  have A0 := A
  obtain ⟨cl, Ar, rfl, hlen, -⟩ := A
  rw [Array.length_toList] at hi
  have ⟨i1, i2⟩ := idx_of hy hi
  subst hp
  obtain ⟨⟨hx, hb, hm, hZ, ho, r⟩, T, locs, X, eT, N, st⟩ := G
  obtain ⟨T', h', X', e', W', st'⟩ := Jvm.RoadKit.stB X hx hZ eT Ar i1 (g := mkF m pc L (.int x :: .int y :: .ref a :: S)) rfl rfl (Jvm.hb hb hd)
  have N' := Fr.snoc X' N ha
  rw [i2] at W'
  exact ⟨h', W', A0.set W' (fits_nar_byte x), ⟨hx, hb, hm, hZ, ho, r⟩, T', _, X', e', N', fun t q => st t (st' t q)⟩
theorem Go.ldI {a : Addr} {v : Value} {y : Int32} {i : Nat} {vs : List Value} (G : Go p l e R s m args below meth c Z own bytes maxL ret n0 s₀ h k j pc L (.int y :: .ref a :: S)) (A : Av Z h a .int vs) (hy : y.toInt = (i : Int)) (hv : vs[i]? = some v) (hd : decode bytes pc = .ok (.iaload, 1)) {pc' : Nat} (hp : pc + 1 = pc' := by rfl) : Go p l e R s m args below meth c Z own bytes maxL ret n0 s₀ h k j pc' L (v :: S) := by
  obtain ⟨cl, Ar, rfl, hlen, -⟩ := A
  have hi : i < cl.slots.size := by rw [← Array.length_toList]; exact (List.getElem?_eq_some_iff.mp hv).1
  have ⟨i1, i2⟩ := idx_of hy hi
  rw [Array.getElem?_toList] at hv
  subst hp
  obtain ⟨⟨hx, hb, hm, hZ, ho, r⟩, T, locs, X, eT, N, st⟩ := G
  exact ⟨⟨hx, hb, hm, hZ, ho, r⟩, T, locs, X, eT, N, fun t q => st t (X.iaload hx (j := y) (v := v) (by rw [eT]; exact Ar.1) (State.isArrayOf_alike hZ.alike Ar.2.1) Ar.2.2 i1 (by rw [i2]; exact hv) (g := mkF m pc L (.int y :: .ref a :: S)) rfl rfl (Jvm.hb hb hd) t q)⟩
theorem Go.ldJ {a : Addr} {v : Value} {y : Int32} {i : Nat} {vs : List Value} (G : Go p l e R s m args below meth c Z own bytes maxL ret n0 s₀ h k j pc L (.int y :: .ref a :: S)) (A : Av Z h a .long vs) (hy : y.toInt = (i : Int)) (hv : vs[i]? = some v) (hd : decode bytes pc = .ok (.laload, 1)) {pc' : Nat} (hp : pc + 1 = pc' := by rfl) : Go p l e R s m args below meth c Z own bytes maxL ret n0 s₀ h k j pc' L (v :: S) := by
  obtain ⟨cl, Ar, rfl, hlen, -⟩ := A
  have hi : i < cl.slots.size := by rw [← Array.length_toList]; exact (List.getElem?_eq_some_iff.mp hv).1
  have ⟨i1, i2⟩ := idx_of hy hi
  rw [Array.getElem?_toList] at hv
  subst hp
  obtain ⟨⟨hx, hb, hm, hZ, ho, r⟩, T, locs, X, eT, N, st⟩ := G
  exact ⟨⟨hx, hb, hm, hZ, ho, r⟩, T, locs, X, eT, N, fun t q => st t (X.laload hx (j := y) (v := v) (by rw [eT]; exact Ar.1) (State.isArrayOf_alike hZ.alike Ar.2.1) Ar.2.2 i1 (by rw [i2]; exact hv) (g := mkF m pc L (.int y :: .ref a :: S)) rfl rfl (Jvm.hb hb hd) t q)⟩
theorem Go.ldB {a : Addr} {v : Value} {y : Int32} {i : Nat} {vs : List Value} (G : Go p l e R s m args below meth c Z own bytes maxL ret n0 s₀ h k j pc L (.int y :: .ref a :: S)) (A : Av Z h a .byte vs) (hy : y.toInt = (i : Int)) (hv : vs[i]? = some v) (hd : decode bytes pc = .ok (.baload, 1)) {pc' : Nat} (hp : pc + 1 = pc' := by rfl) : Go p l e R s m args below meth c Z own bytes maxL ret n0 s₀ h k j pc' L (v :: S) := by
  obtain ⟨cl, Ar, rfl, hlen, -⟩ := A
  have hi : i < cl.slots.size := by rw [← Array.length_toList]; exact (List.getElem?_eq_some_iff.mp hv).1
  have ⟨i1, i2⟩ := idx_of hy hi
  rw [Array.getElem?_toList] at hv
  subst hp
  obtain ⟨⟨hx, hb, hm, hZ, ho, r⟩, T, locs, X, eT, N, st⟩ := G
  exact ⟨⟨hx, hb, hm, hZ, ho, r⟩, T, locs, X, eT, N, fun t q => st t (X.baloadBytes hx (j := y) (v := v) (by rw [eT]; exact Ar.1) (State.isArrayOf_alike hZ.alike Ar.2.1) Ar.2.2 i1 (by rw [i2]; exact hv) (g := mkF m pc L (.int y :: .ref a :: S)) rfl rfl (Jvm.hb hb hd) t q)⟩
theorem Go.arrlen {a : Addr} {ty : FieldType} {vs : List Value} (v : Int32) (G : Go p l e R s m args below meth c Z own bytes maxL ret n0 s₀ h k j pc L (.ref a :: S)) (A : Av Z h a ty vs) (hv : v.toInt = (vs.length : Int)) (hd : decode bytes pc = .ok (.arraylength, 1)) {pc' : Nat} (hp : pc + 1 = pc' := by rfl) : Go p l e R s m args below meth c Z own bytes maxL ret n0 s₀ h k j pc' L (.int v :: S) := by
  obtain ⟨cl, Ar, rfl, hlen, -⟩ := A
  have e1 : cl.slots.size.toInt32 = v := by
    rw [Array.length_toList] at hlen hv
    apply Int32.toInt_inj.mp
    rw [hv]
    exact Int32.toInt_ofNat_of_lt (by omega)
  subst hp e1
  obtain ⟨⟨hx, hb, hm, hZ, ho, r⟩, T, locs, X, eT, N, st⟩ := G
  exact ⟨⟨hx, hb, hm, hZ, ho, r⟩, T, locs, X, eT, N, fun t q => st t (X.arraylength hx (by rw [eT]; exact Ar.1) (State.isArrayOf_alike hZ.alike Ar.2.1) (g := mkF m pc L (.ref a :: S)) rfl rfl (Jvm.hb hb hd) t q)⟩
end OwnKit
end Jvm.OwnKit
namespace Jvm.Pilot.@@N@@
open Jvm Jvm.ClassFile Sem Op Lib Jvm.Free Jvm.Stand Jvm.LawKit Jvm.RoadKit Bundle Jvm.OwnKit Jvm.Pilot.@@N@@.Jvm.D
theorem d1_0 : decode method_2_code 0 = .ok (.iload_n 0, 1) := by decide +kernel
theorem d1_1 : decode method_2_code 1 = .ok (.bipush 8, 2) := by decide +kernel
theorem d1_3 : decode method_2_code 3 = .ok (.ishr, 1) := by decide +kernel
theorem d1_4 : decode method_2_code 4 = .ok (.iconst 1, 1) := by decide +kernel
theorem d1_5 : decode method_2_code 5 = .ok (.iand, 1) := by decide +kernel
theorem d1_6 : decode method_2_code 6 = .ok (.ifCond .ne 6, 3) := by decide +kernel
theorem d1_9 : decode method_2_code 9 = .ok (.iload_n 0, 1) := by decide +kernel
theorem d1_10 : decode method_2_code 10 = .ok (.i2b, 1) := by decide +kernel
theorem d1_11 : decode method_2_code 11 = .ok (.ireturn, 1) := by decide +kernel
theorem d1_12 : decode method_2_code 12 = .ok (.bipush 48, 2) := by decide +kernel
theorem d1_14 : decode method_2_code 14 = .ok (.iload_n 0, 1) := by decide +kernel
theorem d1_15 : decode method_2_code 15 = .ok (.sipush 255, 3) := by decide +kernel
theorem d1_18 : decode method_2_code 18 = .ok (.iand, 1) := by decide +kernel
theorem d1_19 : decode method_2_code 19 = .ok (.bipush 10, 2) := by decide +kernel
theorem d1_21 : decode method_2_code 21 = .ok (.irem, 1) := by decide +kernel
theorem d1_22 : decode method_2_code 22 = .ok (.iadd, 1) := by decide +kernel
theorem d1_23 : decode method_2_code 23 = .ok (.i2b, 1) := by decide +kernel
theorem d1_24 : decode method_2_code 24 = .ok (.ireturn, 1) := by decide +kernel
theorem pn0 : plainName "com/example/stackwise/stackwise/input/DecimalsDigitsPinLaw" = true := by first | (simp [plainName, overriddenIn]; done) | decide +kernel
theorem ef1 (m : MethodId) (x0 : Int32) : entryFrame m #[(.int x0)] 1 = mkF m 0 #[.val (.int x0)] [] := by first | (simp [entryFrame, mkF, argsToLocals, Value.category]; done) | rfl
def fP (x0 : Int32) : Int32 := (if ((x0 >>> ((8 : Int32) &&& 31)) &&& (1 : Int32)) = (0 : Int32) then x0.toInt8.toInt32 else ((48 : Int32) + ((x0 &&& (255 : Int32)) % (10 : Int32))).toInt8.toInt32)
def rm1 : Room := { frames := 0, cells := 0, slots := 0, locals := 0 }
set_option maxRecDepth 65536 in
set_option maxHeartbeats 40000000 in
theorem cn1 (l : Launch) (Z : State) (a0 : Array Value) (hw : ∀ d ∈ tables_1, d.before a0 Z = true) (x0 : Int32) (h0 : Heap) (n0 : Nat) (hn : n0 ≤ h0.size) :
    Con l (⟨"com/example/stackwise/stackwise/input/DecimalsDigitsPinLaw", "pick", "(I)B"⟩ : MethodName) method_2_code 1 (some .byte) [] rm1 rm1.cells rm1.slots Z #[(.int x0)] h0 n0 (fun v h => v = some (.int (fP x0)) ∧ h = h0) := by
  refine Con.of (plainFor_of_name pn0) hn (fun m => ef1 m x0) ?_
  intro p e s m below meth c s₀ hnm G0
  have G1 := G0.iloadN (v := x0) (pc' := 1) d1_0 rfl
  have G2 := G1.bipush (v := (8 : Int32)) (pc' := 3) d1_1
  have G3 := G2.ishr (pc' := 4) d1_3
  have G4 := G3.iconst (v := (1 : Int32)) (pc' := 5) d1_4
  have G5 := G4.iand (pc' := 6) d1_5
  by_cases c6_5 : ((x0 >>> ((8 : Int32) &&& 31)) &&& (1 : Int32)) = (0 : Int32)
  · have G6 := G5.ifN d1_6 9 (Jvm.Free.XT.i0_ne_f c6_5)
    have G7 := G6.iloadN (v := x0) (pc' := 10) d1_9 rfl
    have G8 := G7.i2b (pc' := 11) d1_10
    exact G8.retS d1_11 rfl (by decide) (Jvm.Free.XT.narrow_b _) ⟨congrArg (fun z => some (Value.int z)) (by rw [fP, if_pos c6_5]), rfl⟩
  · have G9 := G5.ifY d1_6 12 (Jvm.Free.XT.i0_ne_t c6_5)
    have G10 := G9.bipush (v := (48 : Int32)) (pc' := 14) d1_12
    have G11 := G10.iloadN (v := x0) (pc' := 15) d1_14 rfl
    have G12 := G11.sipush (v := (255 : Int32)) (pc' := 18) d1_15
    have G13 := G12.iand (pc' := 19) d1_18
    have G14 := G13.bipush (v := (10 : Int32)) (pc' := 21) d1_19
    have G15 := G14.irem (pc' := 22) d1_21 (by decide)
    have G16 := G15.iadd (pc' := 23) d1_22
    have G17 := G16.i2b (pc' := 24) d1_23
    exact G17.retS d1_24 rfl (by decide) (Jvm.Free.XT.narrow_b _) ⟨congrArg (fun z => some (Value.int z)) (by rw [fP, if_neg c6_5]), rfl⟩
theorem d3_0 : decode method_3_code 0 = .ok (.iload_n 0, 1) := by decide +kernel
theorem d3_1 : decode method_3_code 1 = .ok (.istore_n 1, 1) := by decide +kernel
theorem d3_2 : decode method_3_code 2 = .ok (.iload_n 1, 1) := by decide +kernel
theorem d3_3 : decode method_3_code 3 = .ok (.bipush 48, 2) := by decide +kernel
theorem d3_5 : decode method_3_code 5 = .ok (.if_icmp .lt 14, 3) := by decide +kernel
theorem d3_8 : decode method_3_code 8 = .ok (.iload_n 1, 1) := by decide +kernel
theorem d3_9 : decode method_3_code 9 = .ok (.bipush 57, 2) := by decide +kernel
theorem d3_11 : decode method_3_code 11 = .ok (.if_icmp .gt 8, 3) := by decide +kernel
theorem d3_14 : decode method_3_code 14 = .ok (.iload_n 1, 1) := by decide +kernel
theorem d3_15 : decode method_3_code 15 = .ok (.bipush 48, 2) := by decide +kernel
theorem d3_17 : decode method_3_code 17 = .ok (.isub, 1) := by decide +kernel
theorem d3_18 : decode method_3_code 18 = .ok (.ireturn, 1) := by decide +kernel
theorem d3_19 : decode method_3_code 19 = .ok (.iconst (-1), 1) := by decide +kernel
theorem d3_20 : decode method_3_code 20 = .ok (.ireturn, 1) := by decide +kernel
theorem ef3 (m : MethodId) (x0 : Int32) : entryFrame m #[(.int x0)] 2 = mkF m 0 #[.val (.int x0), .unset] [] := by first | (simp [entryFrame, mkF, argsToLocals, Value.category]; done) | rfl
def fD (x0 : Int32) : Int32 := (if x0 < (48 : Int32) then (-1 : Int32) else (if (57 : Int32) < x0 then (-1 : Int32) else (x0 - (48 : Int32))))
def rm3 : Room := { frames := 0, cells := 0, slots := 0, locals := 0 }
set_option maxRecDepth 65536 in
set_option maxHeartbeats 40000000 in
theorem cn3 (l : Launch) (Z : State) (a0 : Array Value) (hw : ∀ d ∈ tables_1, d.before a0 Z = true) (x0 : Int32) (h0 : Heap) (n0 : Nat) (hn : n0 ≤ h0.size) :
    Con l (⟨"com/example/stackwise/stackwise/input/DecimalsDigitsPinLaw", "dig", "(B)I"⟩ : MethodName) method_3_code 2 (some .int) [] rm3 rm3.cells rm3.slots Z #[(.int x0)] h0 n0 (fun v h => v = some (.int (fD x0)) ∧ h = h0) := by
  refine Con.of (plainFor_of_name pn0) hn (fun m => ef3 m x0) ?_
  intro p e s m below meth c s₀ hnm G0
  have G1 := G0.iloadN (v := x0) (pc' := 1) d3_0 rfl
  have G2 := G1.istoreN (L' := #[.val (.int x0), .val (.int x0)]) (pc' := 2) d3_1 rfl
  have G3 := G2.iloadN (v := x0) (pc' := 3) d3_2 rfl
  have G4 := G3.bipush (v := (48 : Int32)) (pc' := 5) d3_3
  by_cases c5_4 : x0 < (48 : Int32)
  · have G5 := G4.icmpY d3_5 19 (Jvm.Free.XT.ii_lt_t c5_4)
    have G6 := G5.iconst (v := (-1 : Int32)) (pc' := 20) d3_19
    exact G6.retI d3_20 rfl ⟨congrArg (fun z => some (Value.int z)) (by rw [fD, if_pos c5_4]), rfl⟩
  · have G7 := G4.icmpN d3_5 8 (Jvm.Free.XT.ii_lt_f c5_4)
    have G8 := G7.iloadN (v := x0) (pc' := 9) d3_8 rfl
    have G9 := G8.bipush (v := (57 : Int32)) (pc' := 11) d3_9
    by_cases c11_9 : (57 : Int32) < x0
    · have G10 := G9.icmpY d3_11 19 (Jvm.Free.XT.ii_gt_t c11_9)
      have G11 := G10.iconst (v := (-1 : Int32)) (pc' := 20) d3_19
      exact G11.retI d3_20 rfl ⟨congrArg (fun z => some (Value.int z)) (by rw [fD, if_neg c5_4, if_pos c11_9]), rfl⟩
    · have G12 := G9.icmpN d3_11 14 (Jvm.Free.XT.ii_gt_f c11_9)
      have G13 := G12.iloadN (v := x0) (pc' := 15) d3_14 rfl
      have G14 := G13.bipush (v := (48 : Int32)) (pc' := 17) d3_15
      have G15 := G14.isub (pc' := 18) d3_17
      exact G15.retI d3_18 rfl ⟨congrArg (fun z => some (Value.int z)) (by rw [fD, if_neg c5_4, if_neg c11_9]), rfl⟩
theorem d4_0 : decode jdk_29_method_65_code 0 = .ok (.iload_n 0, 1) := by decide +kernel
theorem d4_1 : decode jdk_29_method_65_code 1 = .ok (.iload_n 1, 1) := by decide +kernel
theorem d4_2 : decode jdk_29_method_65_code 2 = .ok (.if_icmp .lt 7, 3) := by decide +kernel
theorem d4_5 : decode jdk_29_method_65_code 5 = .ok (.iload_n 0, 1) := by decide +kernel
theorem d4_6 : decode jdk_29_method_65_code 6 = .ok (.goto 4, 3) := by decide +kernel
theorem d4_9 : decode jdk_29_method_65_code 9 = .ok (.iload_n 1, 1) := by decide +kernel
theorem d4_10 : decode jdk_29_method_65_code 10 = .ok (.ireturn, 1) := by decide +kernel
theorem ef4 (m : MethodId) (x0 : Int32) (x1 : Int32) : entryFrame m #[(.int x0), (.int x1)] 2 = mkF m 0 #[.val (.int x0), .val (.int x1)] [] := by first | (simp [entryFrame, mkF, argsToLocals, Value.category]; done) | rfl
def fM (x0 : Int32) (x1 : Int32) : Int32 := (if x0 < x1 then x1 else x0)
def rm4 : Room := { frames := 0, cells := 0, slots := 0, locals := 0 }
set_option maxRecDepth 65536 in
set_option maxHeartbeats 40000000 in
theorem cn4 (l : Launch) (Z : State) (a0 : Array Value) (hw : ∀ d ∈ tables_1, d.before a0 Z = true) (x0 : Int32) (x1 : Int32) (h0 : Heap) (n0 : Nat) (hn : n0 ≤ h0.size) :
    Con l (⟨"java/lang/Math", "max", "(II)I"⟩ : MethodName) jdk_29_method_65_code 2 (some .int) [] rm4 rm4.cells rm4.slots Z #[(.int x0), (.int x1)] h0 n0 (fun v h => v = some (.int (fM x0 x1)) ∧ h = h0) := by
  refine Con.of (Jvm.Free.JP.mathPlain rfl (by decide +kernel)) hn (fun m => ef4 m x0 x1) ?_
  intro p e s m below meth c s₀ hnm G0
  have G1 := G0.iloadN (v := x0) (pc' := 1) d4_0 rfl
  have G2 := G1.iloadN (v := x1) (pc' := 2) d4_1 rfl
  by_cases c2_2 : x0 < x1
  · have G3 := G2.icmpY d4_2 9 (Jvm.Free.XT.ii_lt_t c2_2)
    have G4 := G3.iloadN (v := x1) (pc' := 10) d4_9 rfl
    exact G4.retI d4_10 rfl ⟨congrArg (fun z => some (Value.int z)) (by rw [fM, if_pos c2_2]), rfl⟩
  · have G5 := G2.icmpN d4_2 5 (Jvm.Free.XT.ii_lt_f c2_2)
    have G6 := G5.iloadN (v := x0) (pc' := 6) d4_5 rfl
    have G7 := G6.goto d4_6 10
    exact G7.retI d4_10 rfl ⟨congrArg (fun z => some (Value.int z)) (by rw [fM, if_neg c2_2]), rfl⟩
theorem d2_0 : decode prog_15_method_3_code 0 = .ok (.iconst 0, 1) := by decide +kernel
theorem d2_1 : decode prog_15_method_3_code 1 = .ok (.istore_n 3, 1) := by decide +kernel
theorem d2_2 : decode prog_15_method_3_code 2 = .ok (.iload_n 1, 1) := by decide +kernel
theorem d2_3 : decode prog_15_method_3_code 3 = .ok (.istore 4, 2) := by decide +kernel
theorem d2_5 : decode prog_15_method_3_code 5 = .ok (.iload 4, 2) := by decide +kernel
theorem d2_7 : decode prog_15_method_3_code 7 = .ok (.iload_n 1, 1) := by decide +kernel
theorem d2_8 : decode prog_15_method_3_code 8 = .ok (.iload_n 2, 1) := by decide +kernel
theorem d2_9 : decode prog_15_method_3_code 9 = .ok (.iadd, 1) := by decide +kernel
theorem d2_10 : decode prog_15_method_3_code 10 = .ok (.if_icmp .ge 40, 3) := by decide +kernel
theorem d2_13 : decode prog_15_method_3_code 13 = .ok (.aload_n 0, 1) := by decide +kernel
theorem d2_14 : decode prog_15_method_3_code 14 = .ok (.iload 4, 2) := by decide +kernel
theorem d2_16 : decode prog_15_method_3_code 16 = .ok (.baload, 1) := by decide +kernel
theorem d2_17 : decode prog_15_method_3_code 17 = .ok (.bipush 48, 2) := by decide +kernel
theorem d2_19 : decode prog_15_method_3_code 19 = .ok (.isub, 1) := by decide +kernel
theorem d2_20 : decode prog_15_method_3_code 20 = .ok (.istore 5, 2) := by decide +kernel
theorem d2_22 : decode prog_15_method_3_code 22 = .ok (.iload 5, 2) := by decide +kernel
theorem d2_24 : decode prog_15_method_3_code 24 = .ok (.ifCond .lt 10, 3) := by decide +kernel
theorem d2_27 : decode prog_15_method_3_code 27 = .ok (.iload 5, 2) := by decide +kernel
theorem d2_29 : decode prog_15_method_3_code 29 = .ok (.bipush 9, 2) := by decide +kernel
theorem d2_31 : decode prog_15_method_3_code 31 = .ok (.if_icmp .le 5, 3) := by decide +kernel
theorem d2_34 : decode prog_15_method_3_code 34 = .ok (.iconst (-1), 1) := by decide +kernel
theorem d2_35 : decode prog_15_method_3_code 35 = .ok (.ireturn, 1) := by decide +kernel
theorem d2_36 : decode prog_15_method_3_code 36 = .ok (.iload_n 3, 1) := by decide +kernel
theorem d2_37 : decode prog_15_method_3_code 37 = .ok (.bipush 10, 2) := by decide +kernel
theorem d2_39 : decode prog_15_method_3_code 39 = .ok (.imul, 1) := by decide +kernel
theorem d2_40 : decode prog_15_method_3_code 40 = .ok (.iload 5, 2) := by decide +kernel
theorem d2_42 : decode prog_15_method_3_code 42 = .ok (.iadd, 1) := by decide +kernel
theorem d2_43 : decode prog_15_method_3_code 43 = .ok (.istore_n 3, 1) := by decide +kernel
theorem d2_44 : decode prog_15_method_3_code 44 = .ok (.iinc 4 1, 3) := by decide +kernel
theorem d2_47 : decode prog_15_method_3_code 47 = .ok (.goto (-42), 3) := by decide +kernel
theorem d2_50 : decode prog_15_method_3_code 50 = .ok (.iload_n 3, 1) := by decide +kernel
theorem d2_51 : decode prog_15_method_3_code 51 = .ok (.ireturn, 1) := by decide +kernel
def own_D (B : Nat → Int32) : Nat → Nat → Int32 → Int32
  | 0, _, v => v
  | k + 1, i, v => if (B i - (48 : Int32)) < (0 : Int32) then (-1 : Int32) else if (9 : Int32) < (B i - (48 : Int32)) then (-1 : Int32) else own_D B k (i + 1) ((v * (10 : Int32)) + (B i - (48 : Int32)))
theorem own_inc (x : Int32) (i : Nat) (h : x.toInt = (i : Int)) (hi : i < 1000) : (x + (1 : Int32)).toInt = ((i + 1 : Nat) : Int) := by
  have e := c_iadd x 1
  have r := rng32 (x + 1)
  have k : (1 : Int32).toInt = 1 := rfl
  rw [k] at e
  omega
theorem own_lt2 (x y : Int32) (i E : Nat) (h : x.toInt = (i : Int)) (h2 : y.toInt = (E : Int)) : x < y ↔ i < E := by
  rw [Int32.lt_iff_toInt_lt, h, h2]; omega
set_option maxRecDepth 65536 in
set_option maxHeartbeats 40000000 in
theorem own_loop (p : Program) (l : Launch) (e : Env) (R : Room) (s : State) (m : MethodId) (args : Array Value) (below : List Frame) (meth : Method) (c : Code) (Z : State) (a0 : Array Value) (hw : ∀ d ∈ tables_1, d.before a0 Z = true) (n0 : Nat) (s₀ : State) (h : Heap) (k j : Nat) (kc js : Nat) (hk : k ≤ kc) (hj : j ≤ js) (a : Addr) (x1 x2 : Int32) (vs : List Value) (V0 : Av Z h a .byte vs) (B : Nat → Int32) (E : Nat) (hE4 : E ≤ 4) (hE : (x1 + x2).toInt = (E : Int)) (hB : ∀ i, i < 4 → vs[i]? = some (.int (B i))) : ∀ (q i : Nat) (x acc : Int32) (o : Slot), x.toInt = (i : Int) → i + q = E → (o = .unset ∨ ∃ z, o = .val (.int z)) →
    Go p l e R s m args below meth c Z "com/example/stackwise/stackwise/input/Decimals" prog_15_method_3_code 6 (some .int) n0 s₀ h k j 5 #[.val (.ref a), .val (.int x1), .val (.int x2), .val (.int acc), .val (.int x), o] [] → Fini p e below s s₀ n0 kc js (fun v h' => v = some (.int (own_D B q i acc)) ∧ h' = h) := by
  intro q
  induction q with
  | zero =>
    intro i x acc o hx hi ho G0
    rcases ho with rfl | ⟨z, rfl⟩
    · have G1 := G0.iload (v := x) (pc' := 7) d2_5 rfl
      have G2 := G1.iloadN (v := x1) (pc' := 8) d2_7 rfl
      have G3 := G2.iloadN (v := x2) (pc' := 9) d2_8 rfl
      have G4 := G3.iadd (pc' := 10) d2_9
      have G5 := G4.icmpY d2_10 50 (Jvm.Free.XT.ii_ge_t (fun q => by have := (own_lt2 _ _ _ _ hx hE).mp q; omega))
      have G6 := G5.iloadN (v := acc) (pc' := 51) d2_50 rfl
      exact G6.retI d2_51 rfl ⟨rfl, rfl⟩ hk hj
    · have G1 := G0.iload (v := x) (pc' := 7) d2_5 rfl
      have G2 := G1.iloadN (v := x1) (pc' := 8) d2_7 rfl
      have G3 := G2.iloadN (v := x2) (pc' := 9) d2_8 rfl
      have G4 := G3.iadd (pc' := 10) d2_9
      have G5 := G4.icmpY d2_10 50 (Jvm.Free.XT.ii_ge_t (fun q => by have := (own_lt2 _ _ _ _ hx hE).mp q; omega))
      have G6 := G5.iloadN (v := acc) (pc' := 51) d2_50 rfl
      exact G6.retI d2_51 rfl ⟨rfl, rfl⟩ hk hj
  | succ q ih =>
    intro i x acc o hx hi ho G0
    rcases ho with rfl | ⟨z, rfl⟩
    · have G1 := G0.iload (v := x) (pc' := 7) d2_5 rfl
      have G2 := G1.iloadN (v := x1) (pc' := 8) d2_7 rfl
      have G3 := G2.iloadN (v := x2) (pc' := 9) d2_8 rfl
      have G4 := G3.iadd (pc' := 10) d2_9
      have G7 := G4.icmpN d2_10 13 (Jvm.Free.XT.ii_ge_f ((own_lt2 _ _ _ _ hx hE).mpr (by omega)))
      have G8 := G7.aloadN (v := (.ref a)) (pc' := 14) d2_13 rfl
      have G9 := G8.iload (v := x) (pc' := 16) d2_14 rfl
      have G10 := G9.ldB (i := i) (v := (.int (B i))) (pc' := 17) V0 hx (hB i (by omega)) d2_16
      have G11 := G10.bipush (v := (48 : Int32)) (pc' := 19) d2_17
      have G12 := G11.isub (pc' := 20) d2_19
      have G13 := G12.istore (L' := #[.val (.ref a), .val (.int x1), .val (.int x2), .val (.int acc), .val (.int x), .val (.int ((B i) - (48 : Int32)))]) (pc' := 22) d2_20 rfl
      have G14 := G13.iload (v := ((B i) - (48 : Int32))) (pc' := 24) d2_22 rfl
      by_cases c24 : (B i - (48 : Int32)) < (0 : Int32)
      · have G15 := G14.ifY d2_24 34 (Jvm.Free.XT.i0_lt_t c24)
        have G16 := G15.iconst (v := (-1 : Int32)) (pc' := 35) d2_34
        exact G16.retI d2_35 rfl ⟨by rw [own_D, if_pos c24], rfl⟩ hk hj
      · have G17 := G14.ifN d2_24 27 (Jvm.Free.XT.i0_lt_f c24)
        have G18 := G17.iload (v := ((B i) - (48 : Int32))) (pc' := 29) d2_27 rfl
        have G19 := G18.bipush (v := (9 : Int32)) (pc' := 31) d2_29
        by_cases c31 : (9 : Int32) < (B i - (48 : Int32))
        · have G20 := G19.icmpN d2_31 34 (Jvm.Free.XT.ii_le_f c31)
          have G21 := G20.iconst (v := (-1 : Int32)) (pc' := 35) d2_34
          exact G21.retI d2_35 rfl ⟨by rw [own_D, if_neg c24, if_pos c31], rfl⟩ hk hj
        · have G22 := G19.icmpY d2_31 36 (Jvm.Free.XT.ii_le_t c31)
          have G23 := G22.iloadN (v := acc) (pc' := 37) d2_36 rfl
          have G24 := G23.bipush (v := (10 : Int32)) (pc' := 39) d2_37
          have G25 := G24.imul (pc' := 40) d2_39
          have G26 := G25.iload (v := ((B i) - (48 : Int32))) (pc' := 42) d2_40 rfl
          have G27 := G26.iadd (pc' := 43) d2_42
          have G28 := G27.istoreN (L' := #[.val (.ref a), .val (.int x1), .val (.int x2), .val (.int ((acc * (10 : Int32)) + ((B i) - (48 : Int32)))), .val (.int x), .val (.int ((B i) - (48 : Int32)))]) (pc' := 44) d2_43 rfl
          have G29 := G28.iinc (v := (1 : Int32)) (x := x) (L' := #[.val (.ref a), .val (.int x1), .val (.int x2), .val (.int ((acc * (10 : Int32)) + ((B i) - (48 : Int32)))), .val (.int (x + (1 : Int32))), .val (.int ((B i) - (48 : Int32)))]) (pc' := 47) d2_44 rfl rfl
          have G30 := G29.goto d2_47 5
          rw [own_D, if_neg c24, if_neg c31]
          exact ih (i + 1) _ _ _ (own_inc x i hx (by omega)) (by omega) (Or.inr ⟨_, rfl⟩) G30
    · have G1 := G0.iload (v := x) (pc' := 7) d2_5 rfl
      have G2 := G1.iloadN (v := x1) (pc' := 8) d2_7 rfl
      have G3 := G2.iloadN (v := x2) (pc' := 9) d2_8 rfl
      have G4 := G3.iadd (pc' := 10) d2_9
      have G7 := G4.icmpN d2_10 13 (Jvm.Free.XT.ii_ge_f ((own_lt2 _ _ _ _ hx hE).mpr (by omega)))
      have G8 := G7.aloadN (v := (.ref a)) (pc' := 14) d2_13 rfl
      have G9 := G8.iload (v := x) (pc' := 16) d2_14 rfl
      have G10 := G9.ldB (i := i) (v := (.int (B i))) (pc' := 17) V0 hx (hB i (by omega)) d2_16
      have G11 := G10.bipush (v := (48 : Int32)) (pc' := 19) d2_17
      have G12 := G11.isub (pc' := 20) d2_19
      have G13 := G12.istore (L' := #[.val (.ref a), .val (.int x1), .val (.int x2), .val (.int acc), .val (.int x), .val (.int ((B i) - (48 : Int32)))]) (pc' := 22) d2_20 rfl
      have G14 := G13.iload (v := ((B i) - (48 : Int32))) (pc' := 24) d2_22 rfl
      by_cases c24 : (B i - (48 : Int32)) < (0 : Int32)
      · have G15 := G14.ifY d2_24 34 (Jvm.Free.XT.i0_lt_t c24)
        have G16 := G15.iconst (v := (-1 : Int32)) (pc' := 35) d2_34
        exact G16.retI d2_35 rfl ⟨by rw [own_D, if_pos c24], rfl⟩ hk hj
      · have G17 := G14.ifN d2_24 27 (Jvm.Free.XT.i0_lt_f c24)
        have G18 := G17.iload (v := ((B i) - (48 : Int32))) (pc' := 29) d2_27 rfl
        have G19 := G18.bipush (v := (9 : Int32)) (pc' := 31) d2_29
        by_cases c31 : (9 : Int32) < (B i - (48 : Int32))
        · have G20 := G19.icmpN d2_31 34 (Jvm.Free.XT.ii_le_f c31)
          have G21 := G20.iconst (v := (-1 : Int32)) (pc' := 35) d2_34
          exact G21.retI d2_35 rfl ⟨by rw [own_D, if_neg c24, if_pos c31], rfl⟩ hk hj
        · have G22 := G19.icmpY d2_31 36 (Jvm.Free.XT.ii_le_t c31)
          have G23 := G22.iloadN (v := acc) (pc' := 37) d2_36 rfl
          have G24 := G23.bipush (v := (10 : Int32)) (pc' := 39) d2_37
          have G25 := G24.imul (pc' := 40) d2_39
          have G26 := G25.iload (v := ((B i) - (48 : Int32))) (pc' := 42) d2_40 rfl
          have G27 := G26.iadd (pc' := 43) d2_42
          have G28 := G27.istoreN (L' := #[.val (.ref a), .val (.int x1), .val (.int x2), .val (.int ((acc * (10 : Int32)) + ((B i) - (48 : Int32)))), .val (.int x), .val (.int ((B i) - (48 : Int32)))]) (pc' := 44) d2_43 rfl
          have G29 := G28.iinc (v := (1 : Int32)) (x := x) (L' := #[.val (.ref a), .val (.int x1), .val (.int x2), .val (.int ((acc * (10 : Int32)) + ((B i) - (48 : Int32)))), .val (.int (x + (1 : Int32))), .val (.int ((B i) - (48 : Int32)))]) (pc' := 47) d2_44 rfl rfl
          have G30 := G29.goto d2_47 5
          rw [own_D, if_neg c24, if_neg c31]
          exact ih (i + 1) _ _ _ (own_inc x i hx (by omega)) (by omega) (Or.inr ⟨_, rfl⟩) G30
theorem pn1 : plainName "com/example/stackwise/stackwise/input/Decimals" = true := by first | (simp [plainName, overriddenIn]; done) | decide +kernel
theorem ef2 (m : MethodId) (a : Addr) (x1 : Int32) (x2 : Int32) : entryFrame m #[(.ref a), (.int x1), (.int x2)] 6 = mkF m 0 #[.val (.ref a), .val (.int x1), .val (.int x2), .unset, .unset, .unset] [] := by first | (simp [entryFrame, mkF, argsToLocals, Value.category]; done) | rfl
def rm2 : Room := { frames := 0, cells := 0, slots := 0, locals := 0 }
set_option maxRecDepth 65536 in
set_option maxHeartbeats 40000000 in
theorem cn2 (l : Launch) (Z : State) (a0 : Array Value) (hw : ∀ d ∈ tables_1, d.before a0 Z = true) (a : Addr) (x1 : Int32) (x2 : Int32) (h0 : Heap) (n0 : Nat) (hn : n0 ≤ h0.size) (vs : List Value) (V0 : Av Z h0 a .byte vs) (B : Nat → Int32) (i q : Nat) (hE4 : i + q ≤ 4) (hE : (x1 + x2).toInt = ((i + q : Nat) : Int)) (hs : x1.toInt = (i : Int)) (hB : ∀ i, i < 4 → vs[i]? = some (.int (B i))) :
    Con l (⟨"com/example/stackwise/stackwise/input/Decimals", "digits", "([BII)I"⟩ : MethodName) prog_15_method_3_code 6 (some .int) [] rm2 rm2.cells rm2.slots Z #[(.ref a), (.int x1), (.int x2)] h0 n0 (fun v h => v = some (.int (own_D B q i (0 : Int32))) ∧ h = h0) := by
  refine Con.of (plainFor_of_name pn1) hn (fun m => ef2 m a x1 x2) ?_
  intro p e s m below meth c s₀ hnm G0
  have G1 := G0.iconst (v := (0 : Int32)) (pc' := 1) d2_0
  have G2 := G1.istoreN (L' := #[.val (.ref a), .val (.int x1), .val (.int x2), .val (.int (0 : Int32)), .unset, .unset]) (pc' := 2) d2_1 rfl
  have G3 := G2.iloadN (v := x1) (pc' := 3) d2_2 rfl
  have G4 := G3.istore (L' := #[.val (.ref a), .val (.int x1), .val (.int x2), .val (.int (0 : Int32)), .val (.int x1), .unset]) (pc' := 5) d2_3 rfl
  exact own_loop p l e rm2 s m _ below meth c Z a0 hw n0 s₀ h0 0 0 _ _ (Nat.le_refl _) (Nat.le_refl _) a x1 x2 vs V0 B (i + q) hE4 hE hB q i x1 (0 : Int32) .unset hs rfl (Or.inl rfl) G4
def own_B (b0 b1 b2 b3 : Int32) : Nat → Int32
  | 0 => b0
  | 1 => b1
  | 2 => b2
  | _ => b3
theorem own_get (b0 b1 b2 b3 : Int32) : ∀ i, i < 4 → ([.int b0, .int b1, .int b2, .int b3] : List Value)[i]? = some (.int (own_B b0 b1 b2 b3 i))
  | 0, _ => rfl
  | 1, _ => rfl
  | 2, _ => rfl
  | 3, _ => rfl
  | n + 4, h => absurd h (by omega)
theorem own_c5 (x : Int32) : (x &&& (2147483647 : Int32)) % (5 : Int32) = 0 ∨ (x &&& (2147483647 : Int32)) % (5 : Int32) = 1 ∨ (x &&& (2147483647 : Int32)) % (5 : Int32) = 2 ∨ (x &&& (2147483647 : Int32)) % (5 : Int32) = 3 ∨ (x &&& (2147483647 : Int32)) % (5 : Int32) = 4 := by
  have n := (c_and x 2147483647 (by decide)).1
  have e := (c_irem (x &&& (2147483647 : Int32)) 5 5 rfl).1 n
  have h : ((x &&& (2147483647 : Int32)) % (5 : Int32)).toInt = 0 ∨ ((x &&& (2147483647 : Int32)) % (5 : Int32)).toInt = 1 ∨ ((x &&& (2147483647 : Int32)) % (5 : Int32)).toInt = 2 ∨ ((x &&& (2147483647 : Int32)) % (5 : Int32)).toInt = 3 ∨ ((x &&& (2147483647 : Int32)) % (5 : Int32)).toInt = 4 := by omega
  rcases h with h | h | h | h | h
  · exact Or.inl (Int32.toInt_inj.mp h)
  · exact Or.inr (Or.inl (Int32.toInt_inj.mp h))
  · exact Or.inr (Or.inr (Or.inl (Int32.toInt_inj.mp h)))
  · exact Or.inr (Or.inr (Or.inr (Or.inl (Int32.toInt_inj.mp h))))
  · exact Or.inr (Or.inr (Or.inr (Or.inr (Int32.toInt_inj.mp h))))
def own_s (x k : Int32) : Int32 := (x &&& (2147483647 : Int32)) % ((5 : Int32) - k)
theorem own_s1 (x k : Int32) (q : Nat) (hk : k.toInt = (q : Int)) (hq : q ≤ 4) : 0 ≤ (own_s x k).toInt ∧ (own_s x k).toInt + q ≤ 4 := by
  unfold own_s
  have n := (c_and x 2147483647 (by decide)).1
  have d := c_isub 5 k
  have r := rng32 (5 - k)
  have k5 : (5 : Int32).toInt = 5 := rfl
  rw [k5] at d
  have dd : ((5 : Int32) - k).toInt = 5 - q := by omega
  have e := (c_irem (x &&& (2147483647 : Int32)) (5 - k) (5 - q) dd).1 n
  have f1 := Int.emod_nonneg (x &&& (2147483647 : Int32)).toInt (show (5 - (q : Int)) ≠ 0 by omega)
  have f2 := Int.emod_lt_of_pos (x &&& (2147483647 : Int32)).toInt (show 0 < (5 - (q : Int)) by omega)
  omega
theorem own_s2 (x k : Int32) (q : Nat) (hk : k.toInt = (q : Int)) (hq : q ≤ 4) : (own_s x k).toInt = ((own_s x k).toInt.toNat : Int) := (Int.toNat_of_nonneg (own_s1 x k q hk hq).1).symm
theorem own_s3 (x k : Int32) (q : Nat) (hk : k.toInt = (q : Int)) (hq : q ≤ 4) (j : Int32) (i : Nat) (hj : j.toInt = (i : Int)) (hi : i ≤ 4) : (own_s x k + j).toInt = (((own_s x k).toInt.toNat + i : Nat) : Int) := by
  have h := own_s1 x k q hk hq
  have e := c_iadd (own_s x k) j
  have r := rng32 (own_s x k + j)
  omega
theorem own_s4 (x k : Int32) (q : Nat) (hk : k.toInt = (q : Int)) (hq : q ≤ 4) : (own_s x k).toInt.toNat + q ≤ 4 := by
  have h := own_s1 x k q hk hq
  omega
theorem own_dc (b : Int32) : (¬ (b - (48 : Int32)) < (0 : Int32) ∧ ¬ (9 : Int32) < (b - (48 : Int32)) ∧ ¬ fD b < 0 ∧ b - (48 : Int32) = fD b ∧ fM (fD b) (0 : Int32) = fD b ∧ 0 ≤ (fD b).toInt ∧ (fD b).toInt ≤ 9) ∨ (((b - (48 : Int32)) < (0 : Int32) ∨ (9 : Int32) < (b - (48 : Int32))) ∧ fD b < 0) := by
  have e := c_isub b 48
  have r := rng32 (b - 48)
  have r2 := rng32 b
  have k0 : (0 : Int32).toInt = 0 := rfl
  have k9 : (9 : Int32).toInt = 9 := rfl
  have k48 : (48 : Int32).toInt = 48 := rfl
  have k57 : (57 : Int32).toInt = 57 := rfl
  rw [k48] at e
  by_cases h1 : b < (48 : Int32)
  · right
    have f : fD b = -1 := by unfold fD; rw [if_pos h1]
    refine ⟨?_, by rw [f]; decide⟩
    simp only [Int32.lt_iff_toInt_lt, k0, k9, k48] at h1 ⊢
    omega
  · by_cases h2 : (57 : Int32) < b
    · right
      have f : fD b = -1 := by unfold fD; rw [if_neg h1, if_pos h2]
      refine ⟨?_, by rw [f]; decide⟩
      simp only [Int32.lt_iff_toInt_lt, k0, k9, k48, k57] at h1 h2 ⊢
      omega
    · left
      have f : fD b = b - 48 := by unfold fD; rw [if_neg h1, if_neg h2]
      rw [f]
      simp only [Int32.lt_iff_toInt_lt, k48, k57] at h1 h2
      refine ⟨by rw [Int32.lt_iff_toInt_lt, k0]; omega, by rw [Int32.lt_iff_toInt_lt, k9]; omega, by rw [Int32.lt_iff_toInt_lt]; show ¬ _ < (0 : Int); omega, rfl, ?_, by omega, by omega⟩
      unfold fM
      rw [if_neg]
      rw [Int32.lt_iff_toInt_lt, k0]; omega
theorem own_Dy (B : Nat → Int32) (k i : Nat) (v : Int32) (h1 : ¬ (B i - (48 : Int32)) < (0 : Int32)) (h2 : ¬ (9 : Int32) < (B i - (48 : Int32))) (h3 : B i - (48 : Int32) = fD (B i)) : own_D B (k + 1) i v = own_D B k (i + 1) (v * (10 : Int32) + fD (B i)) := by
  rw [own_D, if_neg h1, if_neg h2, h3]
theorem own_Dn (B : Nat → Int32) (k i : Nat) (v : Int32) (h : (B i - (48 : Int32)) < (0 : Int32) ∨ (9 : Int32) < (B i - (48 : Int32))) : own_D B (k + 1) i v = -1 := by
  rw [own_D]
  rcases h with h | h
  · rw [if_pos h]
  · by_cases g : (B i - (48 : Int32)) < (0 : Int32)
    · rw [if_pos g]
    · rw [if_neg g, if_pos h]
theorem own_fin0 (B : Nat → Int32) (i : Nat) (w : Int32)  (ew : w = (if (1 : Int32) = (0 : Int32) then (-1 : Int32) else (0 : Int32))) : own_D B 0 i (0 : Int32) = w := by
  rw [ew, if_neg (by decide)]
  rfl
theorem own_fin1 (B : Nat → Int32) (i : Nat) (z1 : Int32) (w : Int32) (e1 : z1 = (if (fD (B i)) < (0 : Int32) then (0 : Int32) else (1 : Int32))) (ew : w = (if z1 = (0 : Int32) then (-1 : Int32) else ((0 : Int32) + ((fM (fD (B i)) (0 : Int32)) * (1 : Int32))))) : own_D B 1 i (0 : Int32) = w := by
  rcases own_dc (B i) with ⟨p0, q0, n0, s0, m0, l0, u0⟩ | ⟨b0, n0⟩
  rotate_left
  · rw [if_pos n0] at e1
    rw [own_Dn B _ _ _ b0, ew, e1, if_pos rfl]
  rw [own_Dy B _ _ _ p0 q0 s0]
  rw [if_neg n0] at e1
  rw [ew, e1, if_neg (by decide)]
  show _ = _
  rw [m0]
  generalize fD (B i) = d0 at *
  apply Int32.toInt_inj.mp
  have t0 := c_imul (0 : Int32) 10
  have t1 := c_iadd ((0 : Int32) * (10 : Int32)) d0
  have t2 := rng32 ((0 : Int32) * (10 : Int32))
  have t3 := rng32 (((0 : Int32) * (10 : Int32)) + d0)
  have t4 := c_imul d0 1
  have t5 := c_iadd (0 : Int32) (d0 * (1 : Int32))
  have t6 := rng32 (d0 * (1 : Int32))
  have t7 := rng32 ((0 : Int32) + (d0 * (1 : Int32)))
  have k0 : (0 : Int32).toInt = 0 := rfl
  have k1 : (1 : Int32).toInt = 1 := rfl
  have k10 : (10 : Int32).toInt = 10 := rfl
  have k100 : (100 : Int32).toInt = 100 := rfl
  have k1000 : (1000 : Int32).toInt = 1000 := rfl
  simp only [k0, k1, k10, k100, k1000] at *
  show ((((0 : Int32) * (10 : Int32)) + d0)).toInt = _
  omega
theorem own_fin2 (B : Nat → Int32) (i : Nat) (z1 z2 : Int32) (w : Int32) (e1 : z1 = (if (fD (B i)) < (0 : Int32) then (0 : Int32) else (1 : Int32))) (e2 : z2 = (if (fD (B (i + 1))) < (0 : Int32) then (0 : Int32) else z1)) (ew : w = (if z2 = (0 : Int32) then (-1 : Int32) else (((0 : Int32) + ((fM (fD (B i)) (0 : Int32)) * (10 : Int32))) + ((fM (fD (B (i + 1))) (0 : Int32)) * (1 : Int32))))) : own_D B 2 i (0 : Int32) = w := by
  rcases own_dc (B i) with ⟨p0, q0, n0, s0, m0, l0, u0⟩ | ⟨b0, n0⟩
  rotate_left
  · rw [if_pos n0] at e1; rw [e1, ite_self] at e2
    rw [own_Dn B _ _ _ b0, ew, e2, if_pos rfl]
  rcases own_dc (B (i + 1)) with ⟨p1, q1, n1, s1, m1, l1, u1⟩ | ⟨b1, n1⟩
  rotate_left
  · rw [if_pos n1] at e2
    rw [own_Dy B _ _ _ p0 q0 s0, own_Dn B _ _ _ b1, ew, e2, if_pos rfl]
  rw [own_Dy B _ _ _ p0 q0 s0, own_Dy B _ _ _ p1 q1 s1]
  rw [if_neg n0] at e1
  rw [if_neg n1] at e2
  rw [ew, e2, e1, if_neg (by decide)]
  show _ = _
  rw [m0, m1]
  generalize fD (B i) = d0 at *
  generalize fD (B (i + 1)) = d1 at *
  apply Int32.toInt_inj.mp
  have t0 := c_imul (0 : Int32) 10
  have t1 := c_iadd ((0 : Int32) * (10 : Int32)) d0
  have t2 := rng32 ((0 : Int32) * (10 : Int32))
  have t3 := rng32 (((0 : Int32) * (10 : Int32)) + d0)
  have t4 := c_imul (((0 : Int32) * (10 : Int32)) + d0) 10
  have t5 := c_iadd ((((0 : Int32) * (10 : Int32)) + d0) * (10 : Int32)) d1
  have t6 := rng32 ((((0 : Int32) * (10 : Int32)) + d0) * (10 : Int32))
  have t7 := rng32 (((((0 : Int32) * (10 : Int32)) + d0) * (10 : Int32)) + d1)
  have t8 := c_imul d0 10
  have t9 := c_iadd (0 : Int32) (d0 * (10 : Int32))
  have t10 := rng32 (d0 * (10 : Int32))
  have t11 := rng32 ((0 : Int32) + (d0 * (10 : Int32)))
  have t12 := c_imul d1 1
  have t13 := c_iadd ((0 : Int32) + (d0 * (10 : Int32))) (d1 * (1 : Int32))
  have t14 := rng32 (d1 * (1 : Int32))
  have t15 := rng32 (((0 : Int32) + (d0 * (10 : Int32))) + (d1 * (1 : Int32)))
  have k0 : (0 : Int32).toInt = 0 := rfl
  have k1 : (1 : Int32).toInt = 1 := rfl
  have k10 : (10 : Int32).toInt = 10 := rfl
  have k100 : (100 : Int32).toInt = 100 := rfl
  have k1000 : (1000 : Int32).toInt = 1000 := rfl
  simp only [k0, k1, k10, k100, k1000] at *
  show ((((((0 : Int32) * (10 : Int32)) + d0) * (10 : Int32)) + d1)).toInt = _
  omega
theorem own_fin3 (B : Nat → Int32) (i : Nat) (z1 z2 z3 : Int32) (w : Int32) (e1 : z1 = (if (fD (B i)) < (0 : Int32) then (0 : Int32) else (1 : Int32))) (e2 : z2 = (if (fD (B (i + 1))) < (0 : Int32) then (0 : Int32) else z1)) (e3 : z3 = (if (fD (B (i + 2))) < (0 : Int32) then (0 : Int32) else z2)) (ew : w = (if z3 = (0 : Int32) then (-1 : Int32) else ((((0 : Int32) + ((fM (fD (B i)) (0 : Int32)) * (100 : Int32))) + ((fM (fD (B (i + 1))) (0 : Int32)) * (10 : Int32))) + ((fM (fD (B (i + 2))) (0 : Int32)) * (1 : Int32))))) : own_D B 3 i (0 : Int32) = w := by
  rcases own_dc (B i) with ⟨p0, q0, n0, s0, m0, l0, u0⟩ | ⟨b0, n0⟩
  rotate_left
  · rw [if_pos n0] at e1; rw [e1, ite_self] at e2; rw [e2, ite_self] at e3
    rw [own_Dn B _ _ _ b0, ew, e3, if_pos rfl]
  rcases own_dc (B (i + 1)) with ⟨p1, q1, n1, s1, m1, l1, u1⟩ | ⟨b1, n1⟩
  rotate_left
  · rw [if_pos n1] at e2; rw [e2, ite_self] at e3
    rw [own_Dy B _ _ _ p0 q0 s0, own_Dn B _ _ _ b1, ew, e3, if_pos rfl]
  rcases own_dc (B (i + 2)) with ⟨p2, q2, n2, s2, m2, l2, u2⟩ | ⟨b2, n2⟩
  rotate_left
  · rw [if_pos n2] at e3
    rw [own_Dy B _ _ _ p0 q0 s0, own_Dy B _ _ _ p1 q1 s1, own_Dn B _ _ _ b2, ew, e3, if_pos rfl]
  rw [own_Dy B _ _ _ p0 q0 s0, own_Dy B _ _ _ p1 q1 s1, own_Dy B _ _ _ p2 q2 s2]
  rw [if_neg n0] at e1
  rw [if_neg n1] at e2
  rw [if_neg n2] at e3
  rw [ew, e3, e2, e1, if_neg (by decide)]
  show _ = _
  rw [m0, m1, m2]
  generalize fD (B i) = d0 at *
  generalize fD (B (i + 1)) = d1 at *
  generalize fD (B (i + 2)) = d2 at *
  apply Int32.toInt_inj.mp
  have t0 := c_imul (0 : Int32) 10
  have t1 := c_iadd ((0 : Int32) * (10 : Int32)) d0
  have t2 := rng32 ((0 : Int32) * (10 : Int32))
  have t3 := rng32 (((0 : Int32) * (10 : Int32)) + d0)
  have t4 := c_imul (((0 : Int32) * (10 : Int32)) + d0) 10
  have t5 := c_iadd ((((0 : Int32) * (10 : Int32)) + d0) * (10 : Int32)) d1
  have t6 := rng32 ((((0 : Int32) * (10 : Int32)) + d0) * (10 : Int32))
  have t7 := rng32 (((((0 : Int32) * (10 : Int32)) + d0) * (10 : Int32)) + d1)
  have t8 := c_imul (((((0 : Int32) * (10 : Int32)) + d0) * (10 : Int32)) + d1) 10
  have t9 := c_iadd ((((((0 : Int32) * (10 : Int32)) + d0) * (10 : Int32)) + d1) * (10 : Int32)) d2
  have t10 := rng32 ((((((0 : Int32) * (10 : Int32)) + d0) * (10 : Int32)) + d1) * (10 : Int32))
  have t11 := rng32 (((((((0 : Int32) * (10 : Int32)) + d0) * (10 : Int32)) + d1) * (10 : Int32)) + d2)
  have t12 := c_imul d0 100
  have t13 := c_iadd (0 : Int32) (d0 * (100 : Int32))
  have t14 := rng32 (d0 * (100 : Int32))
  have t15 := rng32 ((0 : Int32) + (d0 * (100 : Int32)))
  have t16 := c_imul d1 10
  have t17 := c_iadd ((0 : Int32) + (d0 * (100 : Int32))) (d1 * (10 : Int32))
  have t18 := rng32 (d1 * (10 : Int32))
  have t19 := rng32 (((0 : Int32) + (d0 * (100 : Int32))) + (d1 * (10 : Int32)))
  have t20 := c_imul d2 1
  have t21 := c_iadd (((0 : Int32) + (d0 * (100 : Int32))) + (d1 * (10 : Int32))) (d2 * (1 : Int32))
  have t22 := rng32 (d2 * (1 : Int32))
  have t23 := rng32 ((((0 : Int32) + (d0 * (100 : Int32))) + (d1 * (10 : Int32))) + (d2 * (1 : Int32)))
  have k0 : (0 : Int32).toInt = 0 := rfl
  have k1 : (1 : Int32).toInt = 1 := rfl
  have k10 : (10 : Int32).toInt = 10 := rfl
  have k100 : (100 : Int32).toInt = 100 := rfl
  have k1000 : (1000 : Int32).toInt = 1000 := rfl
  simp only [k0, k1, k10, k100, k1000] at *
  show ((((((((0 : Int32) * (10 : Int32)) + d0) * (10 : Int32)) + d1) * (10 : Int32)) + d2)).toInt = _
  omega
theorem own_fin4 (B : Nat → Int32) (i : Nat) (z1 z2 z3 z4 : Int32) (w : Int32) (e1 : z1 = (if (fD (B i)) < (0 : Int32) then (0 : Int32) else (1 : Int32))) (e2 : z2 = (if (fD (B (i + 1))) < (0 : Int32) then (0 : Int32) else z1)) (e3 : z3 = (if (fD (B (i + 2))) < (0 : Int32) then (0 : Int32) else z2)) (e4 : z4 = (if (fD (B (i + 3))) < (0 : Int32) then (0 : Int32) else z3)) (ew : w = (if z4 = (0 : Int32) then (-1 : Int32) else (((((0 : Int32) + ((fM (fD (B i)) (0 : Int32)) * (1000 : Int32))) + ((fM (fD (B (i + 1))) (0 : Int32)) * (100 : Int32))) + ((fM (fD (B (i + 2))) (0 : Int32)) * (10 : Int32))) + ((fM (fD (B (i + 3))) (0 : Int32)) * (1 : Int32))))) : own_D B 4 i (0 : Int32) = w := by
  rcases own_dc (B i) with ⟨p0, q0, n0, s0, m0, l0, u0⟩ | ⟨b0, n0⟩
  rotate_left
  · rw [if_pos n0] at e1; rw [e1, ite_self] at e2; rw [e2, ite_self] at e3; rw [e3, ite_self] at e4
    rw [own_Dn B _ _ _ b0, ew, e4, if_pos rfl]
  rcases own_dc (B (i + 1)) with ⟨p1, q1, n1, s1, m1, l1, u1⟩ | ⟨b1, n1⟩
  rotate_left
  · rw [if_pos n1] at e2; rw [e2, ite_self] at e3; rw [e3, ite_self] at e4
    rw [own_Dy B _ _ _ p0 q0 s0, own_Dn B _ _ _ b1, ew, e4, if_pos rfl]
  rcases own_dc (B (i + 2)) with ⟨p2, q2, n2, s2, m2, l2, u2⟩ | ⟨b2, n2⟩
  rotate_left
  · rw [if_pos n2] at e3; rw [e3, ite_self] at e4
    rw [own_Dy B _ _ _ p0 q0 s0, own_Dy B _ _ _ p1 q1 s1, own_Dn B _ _ _ b2, ew, e4, if_pos rfl]
  rcases own_dc (B (i + 3)) with ⟨p3, q3, n3, s3, m3, l3, u3⟩ | ⟨b3, n3⟩
  rotate_left
  · rw [if_pos n3] at e4
    rw [own_Dy B _ _ _ p0 q0 s0, own_Dy B _ _ _ p1 q1 s1, own_Dy B _ _ _ p2 q2 s2, own_Dn B _ _ _ b3, ew, e4, if_pos rfl]
  rw [own_Dy B _ _ _ p0 q0 s0, own_Dy B _ _ _ p1 q1 s1, own_Dy B _ _ _ p2 q2 s2, own_Dy B _ _ _ p3 q3 s3]
  rw [if_neg n0] at e1
  rw [if_neg n1] at e2
  rw [if_neg n2] at e3
  rw [if_neg n3] at e4
  rw [ew, e4, e3, e2, e1, if_neg (by decide)]
  show _ = _
  rw [m0, m1, m2, m3]
  generalize fD (B i) = d0 at *
  generalize fD (B (i + 1)) = d1 at *
  generalize fD (B (i + 2)) = d2 at *
  generalize fD (B (i + 3)) = d3 at *
  apply Int32.toInt_inj.mp
  have t0 := c_imul (0 : Int32) 10
  have t1 := c_iadd ((0 : Int32) * (10 : Int32)) d0
  have t2 := rng32 ((0 : Int32) * (10 : Int32))
  have t3 := rng32 (((0 : Int32) * (10 : Int32)) + d0)
  have t4 := c_imul (((0 : Int32) * (10 : Int32)) + d0) 10
  have t5 := c_iadd ((((0 : Int32) * (10 : Int32)) + d0) * (10 : Int32)) d1
  have t6 := rng32 ((((0 : Int32) * (10 : Int32)) + d0) * (10 : Int32))
  have t7 := rng32 (((((0 : Int32) * (10 : Int32)) + d0) * (10 : Int32)) + d1)
  have t8 := c_imul (((((0 : Int32) * (10 : Int32)) + d0) * (10 : Int32)) + d1) 10
  have t9 := c_iadd ((((((0 : Int32) * (10 : Int32)) + d0) * (10 : Int32)) + d1) * (10 : Int32)) d2
  have t10 := rng32 ((((((0 : Int32) * (10 : Int32)) + d0) * (10 : Int32)) + d1) * (10 : Int32))
  have t11 := rng32 (((((((0 : Int32) * (10 : Int32)) + d0) * (10 : Int32)) + d1) * (10 : Int32)) + d2)
  have t12 := c_imul (((((((0 : Int32) * (10 : Int32)) + d0) * (10 : Int32)) + d1) * (10 : Int32)) + d2) 10
  have t13 := c_iadd ((((((((0 : Int32) * (10 : Int32)) + d0) * (10 : Int32)) + d1) * (10 : Int32)) + d2) * (10 : Int32)) d3
  have t14 := rng32 ((((((((0 : Int32) * (10 : Int32)) + d0) * (10 : Int32)) + d1) * (10 : Int32)) + d2) * (10 : Int32))
  have t15 := rng32 (((((((((0 : Int32) * (10 : Int32)) + d0) * (10 : Int32)) + d1) * (10 : Int32)) + d2) * (10 : Int32)) + d3)
  have t16 := c_imul d0 1000
  have t17 := c_iadd (0 : Int32) (d0 * (1000 : Int32))
  have t18 := rng32 (d0 * (1000 : Int32))
  have t19 := rng32 ((0 : Int32) + (d0 * (1000 : Int32)))
  have t20 := c_imul d1 100
  have t21 := c_iadd ((0 : Int32) + (d0 * (1000 : Int32))) (d1 * (100 : Int32))
  have t22 := rng32 (d1 * (100 : Int32))
  have t23 := rng32 (((0 : Int32) + (d0 * (1000 : Int32))) + (d1 * (100 : Int32)))
  have t24 := c_imul d2 10
  have t25 := c_iadd (((0 : Int32) + (d0 * (1000 : Int32))) + (d1 * (100 : Int32))) (d2 * (10 : Int32))
  have t26 := rng32 (d2 * (10 : Int32))
  have t27 := rng32 ((((0 : Int32) + (d0 * (1000 : Int32))) + (d1 * (100 : Int32))) + (d2 * (10 : Int32)))
  have t28 := c_imul d3 1
  have t29 := c_iadd ((((0 : Int32) + (d0 * (1000 : Int32))) + (d1 * (100 : Int32))) + (d2 * (10 : Int32))) (d3 * (1 : Int32))
  have t30 := rng32 (d3 * (1 : Int32))
  have t31 := rng32 (((((0 : Int32) + (d0 * (1000 : Int32))) + (d1 * (100 : Int32))) + (d2 * (10 : Int32))) + (d3 * (1 : Int32)))
  have k0 : (0 : Int32).toInt = 0 := rfl
  have k1 : (1 : Int32).toInt = 1 := rfl
  have k10 : (10 : Int32).toInt = 10 := rfl
  have k100 : (100 : Int32).toInt = 100 := rfl
  have k1000 : (1000 : Int32).toInt = 1000 := rfl
  simp only [k0, k1, k10, k100, k1000] at *
  show ((((((((((0 : Int32) * (10 : Int32)) + d0) * (10 : Int32)) + d1) * (10 : Int32)) + d2) * (10 : Int32)) + d3)).toInt = _
  omega
theorem ef0 (m : MethodId) (x0 : Int32) (x1 : Int32) (x2 : Int32) (x3 : Int32) (x4 : Int32) (x5 : Int32) : entryFrame m #[(.int x0), (.int x1), (.int x2), (.int x3), (.int x4), (.int x5)] maxLocals = mkF m 0 #[.val (.int x0), .val (.int x1), .val (.int x2), .val (.int x3), .val (.int x4), .val (.int x5), .unset, .unset, .unset, .unset, .unset, .unset, .unset, .unset] [] := by first | (simp [entryFrame, mkF, argsToLocals, Value.category, maxLocals]; done) | rfl
theorem pd0 : parseMethodDescriptor "(I)B" = some ⟨[.int], some .byte⟩ := by decide +kernel
theorem pd1 : parseMethodDescriptor "([BII)I" = some ⟨[(.array .byte), .int, .int], some .int⟩ := by decide +kernel
theorem pd2 : parseMethodDescriptor "(B)I" = some ⟨[.byte], some .int⟩ := by decide +kernel
theorem pd3 : parseMethodDescriptor "(II)I" = some ⟨[.int, .int], some .int⟩ := by decide +kernel
set_option maxRecDepth 65536 in
set_option maxHeartbeats 40000000 in
theorem lawc (l : Launch) (Z : State) (a0 : Array Value) (hw : ∀ d ∈ tables_1, d.before a0 Z = true) (x0 : Int32) (x1 : Int32) (x2 : Int32) (x3 : Int32) (x4 : Int32) (x5 : Int32) (h0 : Heap) (n0 : Nat) (hn : n0 ≤ h0.size) :
    Con l x code maxLocals ret tables_1 room_1 16 128 Z #[(.int x0), (.int x1), (.int x2), (.int x3), (.int x4), (.int x5)] h0 n0 (fun v _ => v = some (.int 1)) := by
  refine Con.of (plainFor_of_name pn0) hn (fun m => ef0 m x0 x1 x2 x3 x4 x5) ?_
  intro p e s m below meth c s₀ hnm G0
  have G1 := G0.iconst (v := (4 : Int32)) (pc' := 1) at_0
  obtain ⟨a2, h2, ea2, g_a2, X2, V2, G2⟩ := G1.newA (ty := .byte) (dv := (.int (0 : Int32))) (N := 4) (cap := 4) (pc' := 3) (k' := 1) (j' := 4) (hw _ (List.mem_of_getElem? (i := 0) rfl)) at_1 rfl rfl (by decide) (by decide) (by decide) rfl rfl rfl (by decide) (by decide)
  have V3 : Av Z h2 a2 .byte [(.int (0 : Int32)), (.int (0 : Int32)), (.int (0 : Int32)), (.int (0 : Int32))] := V2
  have G4 := G2.dup (pc' := 4) at_3
  have G5 := G4.iconst (v := (0 : Int32)) (pc' := 5) at_4
  have G6 := G5.iloadN (v := x0) (pc' := 6) at_5 rfl
  obtain ⟨v7, h7, ⟨ev7, eh7⟩, g7⟩ := G6.callS (argsL := [(.int x0)]) (rest := [(.int (0 : Int32)), (.ref a2), (.ref a2)]) (pc' := 9) (k' := 1) (j' := 4) (cn1 l Z a0 hw x0 h2 n0 G6.size) rfl (hw _ (List.mem_of_getElem? (i := 1) rfl)) (hw _ (List.mem_of_getElem? (i := 2) rfl)) (hw _ (List.mem_of_getElem? (i := 3) rfl)) (hw _ (List.mem_of_getElem? (i := 4) rfl)) (by decide) at_6 pd0 rfl (W := 3) rfl rfl (by decide) (by decide) (by decide) (by decide) rfl rfl rfl
  subst ev7
  rw [eh7] at g7
  have G7 := g7 [(.int (fP x0)), (.int (0 : Int32)), (.ref a2), (.ref a2)] rfl
  obtain ⟨h8, W8, V8, G8⟩ := G7.stB (i := 0) (pc' := 10) V3 g_a2 (by decide) (by show 0 < 4; decide) at_9
  have V9 : Av Z h8 a2 .byte [(.int (nar .byte (fP x0))), (.int (0 : Int32)), (.int (0 : Int32)), (.int (0 : Int32))] := V8
  have G10 := G8.dup (pc' := 11) at_10
  have G11 := G10.iconst (v := (1 : Int32)) (pc' := 12) at_11
  have G12 := G11.iloadN (v := x1) (pc' := 13) at_12 rfl
  obtain ⟨v13, h13, ⟨ev13, eh13⟩, g13⟩ := G12.callS (argsL := [(.int x1)]) (rest := [(.int (1 : Int32)), (.ref a2), (.ref a2)]) (pc' := 16) (k' := 1) (j' := 4) (cn1 l Z a0 hw x1 h8 n0 G12.size) rfl (hw _ (List.mem_of_getElem? (i := 1) rfl)) (hw _ (List.mem_of_getElem? (i := 2) rfl)) (hw _ (List.mem_of_getElem? (i := 3) rfl)) (hw _ (List.mem_of_getElem? (i := 4) rfl)) (by decide) at_13 pd0 rfl (W := 3) rfl rfl (by decide) (by decide) (by decide) (by decide) rfl rfl rfl
  subst ev13
  rw [eh13] at g13
  have G13 := g13 [(.int (fP x1)), (.int (1 : Int32)), (.ref a2), (.ref a2)] rfl
  obtain ⟨h14, W14, V14, G14⟩ := G13.stB (i := 1) (pc' := 17) V9 g_a2 (by decide) (by show 1 < 4; decide) at_16
  have V15 : Av Z h14 a2 .byte [(.int (nar .byte (fP x0))), (.int (nar .byte (fP x1))), (.int (0 : Int32)), (.int (0 : Int32))] := V14
  have G16 := G14.dup (pc' := 18) at_17
  have G17 := G16.iconst (v := (2 : Int32)) (pc' := 19) at_18
  have G18 := G17.iloadN (v := x2) (pc' := 20) at_19 rfl
  obtain ⟨v19, h19, ⟨ev19, eh19⟩, g19⟩ := G18.callS (argsL := [(.int x2)]) (rest := [(.int (2 : Int32)), (.ref a2), (.ref a2)]) (pc' := 23) (k' := 1) (j' := 4) (cn1 l Z a0 hw x2 h14 n0 G18.size) rfl (hw _ (List.mem_of_getElem? (i := 1) rfl)) (hw _ (List.mem_of_getElem? (i := 2) rfl)) (hw _ (List.mem_of_getElem? (i := 3) rfl)) (hw _ (List.mem_of_getElem? (i := 4) rfl)) (by decide) at_20 pd0 rfl (W := 3) rfl rfl (by decide) (by decide) (by decide) (by decide) rfl rfl rfl
  subst ev19
  rw [eh19] at g19
  have G19 := g19 [(.int (fP x2)), (.int (2 : Int32)), (.ref a2), (.ref a2)] rfl
  obtain ⟨h20, W20, V20, G20⟩ := G19.stB (i := 2) (pc' := 24) V15 g_a2 (by decide) (by show 2 < 4; decide) at_23
  have V21 : Av Z h20 a2 .byte [(.int (nar .byte (fP x0))), (.int (nar .byte (fP x1))), (.int (nar .byte (fP x2))), (.int (0 : Int32))] := V20
  have G22 := G20.dup (pc' := 25) at_24
  have G23 := G22.iconst (v := (3 : Int32)) (pc' := 26) at_25
  have G24 := G23.iloadN (v := x3) (pc' := 27) at_26 rfl
  obtain ⟨v25, h25, ⟨ev25, eh25⟩, g25⟩ := G24.callS (argsL := [(.int x3)]) (rest := [(.int (3 : Int32)), (.ref a2), (.ref a2)]) (pc' := 30) (k' := 1) (j' := 4) (cn1 l Z a0 hw x3 h20 n0 G24.size) rfl (hw _ (List.mem_of_getElem? (i := 1) rfl)) (hw _ (List.mem_of_getElem? (i := 2) rfl)) (hw _ (List.mem_of_getElem? (i := 3) rfl)) (hw _ (List.mem_of_getElem? (i := 4) rfl)) (by decide) at_27 pd0 rfl (W := 3) rfl rfl (by decide) (by decide) (by decide) (by decide) rfl rfl rfl
  subst ev25
  rw [eh25] at g25
  have G25 := g25 [(.int (fP x3)), (.int (3 : Int32)), (.ref a2), (.ref a2)] rfl
  obtain ⟨h26, W26, V26, G26⟩ := G25.stB (i := 3) (pc' := 31) V21 g_a2 (by decide) (by show 3 < 4; decide) at_30
  have V27 : Av Z h26 a2 .byte [(.int (nar .byte (fP x0))), (.int (nar .byte (fP x1))), (.int (nar .byte (fP x2))), (.int (nar .byte (fP x3)))] := V26
  have G28 := G26.astore (L' := #[.val (.int x0), .val (.int x1), .val (.int x2), .val (.int x3), .val (.int x4), .val (.int x5), .val (.ref a2), .unset, .unset, .unset, .unset, .unset, .unset, .unset]) (pc' := 33) at_31 rfl
  have G29 := G28.iload (v := x5) (pc' := 35) at_33 rfl
  have G30 := G29.ldc (v := (2147483647 : Int32)) (pc' := 37) (hw _ (List.mem_of_getElem? (i := 5) rfl)) at_35
  have G31 := G30.iand (pc' := 38) at_37
  have G32 := G31.iconst (v := (5 : Int32)) (pc' := 39) at_38
  have G33 := G32.irem (pc' := 40) at_39 (by decide)
  rcases own_c5 x5 with hc | hc | hc | hc | hc
  · rw [hc] at G33
    have G34 := G33.istore (L' := #[.val (.int x0), .val (.int x1), .val (.int x2), .val (.int x3), .val (.int x4), .val (.int x5), .val (.ref a2), .val (.int (0 : Int32)), .unset, .unset, .unset, .unset, .unset, .unset]) (pc' := 42) at_40 rfl
    have G35 := G34.iload (v := x4) (pc' := 44) at_42 rfl
    have G36 := G35.ldc (v := (2147483647 : Int32)) (pc' := 46) (hw _ (List.mem_of_getElem? (i := 5) rfl)) at_44
    have G37 := G36.iand (pc' := 47) at_46
    have G38 := G37.iconst (v := (5 : Int32)) (pc' := 48) at_47
    have G39 := G38.iload (v := (0 : Int32)) (pc' := 50) at_48 rfl
    have G40 := G39.isub (pc' := 51) at_50
    have G41 := G40.irem (pc' := 52) at_51 (by decide)
    have G42 := G41.istore (L' := #[.val (.int x0), .val (.int x1), .val (.int x2), .val (.int x3), .val (.int x4), .val (.int x5), .val (.ref a2), .val (.int (0 : Int32)), .val (.int ((x4 &&& (2147483647 : Int32)) % ((5 : Int32) - (0 : Int32)))), .unset, .unset, .unset, .unset, .unset]) (pc' := 54) at_52 rfl
    have G43 := G42.aload (v := (.ref a2)) (pc' := 56) at_54 rfl
    have G44 := G43.iload (v := ((x4 &&& (2147483647 : Int32)) % ((5 : Int32) - (0 : Int32)))) (pc' := 58) at_56 rfl
    have G45 := G44.iload (v := (0 : Int32)) (pc' := 60) at_58 rfl
    obtain ⟨v46, h46, ⟨ev46, eh46⟩, g46⟩ := G45.callS (argsL := [(.ref a2), (.int ((x4 &&& (2147483647 : Int32)) % ((5 : Int32) - (0 : Int32)))), (.int (0 : Int32))]) (rest := []) (pc' := 63) (k' := 1) (j' := 4) (cn2 l Z a0 hw a2 ((x4 &&& (2147483647 : Int32)) % ((5 : Int32) - (0 : Int32))) (0 : Int32) h26 n0 G45.size [(.int (nar .byte (fP x0))), (.int (nar .byte (fP x1))), (.int (nar .byte (fP x2))), (.int (nar .byte (fP x3)))] V27 (own_B (nar .byte (fP x0)) (nar .byte (fP x1)) (nar .byte (fP x2)) (nar .byte (fP x3))) (own_s x4 (0 : Int32)).toInt.toNat 0 (own_s4 x4 (0 : Int32) 0 (by decide) (by decide)) (own_s3 x4 (0 : Int32) 0 (by decide) (by decide) (0 : Int32) 0 (by decide) (by decide)) (own_s2 x4 (0 : Int32) 0 (by decide) (by decide)) (own_get _ _ _ _)) rfl (hw _ (List.mem_of_getElem? (i := 6) rfl)) (hw _ (List.mem_of_getElem? (i := 7) rfl)) (hw _ (List.mem_of_getElem? (i := 8) rfl)) (hw _ (List.mem_of_getElem? (i := 9) rfl)) (by decide) at_60 pd1 rfl (W := 0) rfl rfl (by decide) (by decide) (by decide) (by decide) rfl rfl rfl
    subst ev46
    rw [eh46] at g46
    have G46 := g46 [(.int (own_D (own_B (nar .byte (fP x0)) (nar .byte (fP x1)) (nar .byte (fP x2)) (nar .byte (fP x3))) 0 (own_s x4 (0 : Int32)).toInt.toNat (0 : Int32)))] rfl
    have G47 := G46.istore (L' := #[.val (.int x0), .val (.int x1), .val (.int x2), .val (.int x3), .val (.int x4), .val (.int x5), .val (.ref a2), .val (.int (0 : Int32)), .val (.int ((x4 &&& (2147483647 : Int32)) % ((5 : Int32) - (0 : Int32)))), .val (.int (own_D (own_B (nar .byte (fP x0)) (nar .byte (fP x1)) (nar .byte (fP x2)) (nar .byte (fP x3))) 0 (own_s x4 (0 : Int32)).toInt.toNat (0 : Int32))), .unset, .unset, .unset, .unset]) (pc' := 65) at_63 rfl
    have G48 := G47.iconst (v := (4 : Int32)) (pc' := 66) at_65
    obtain ⟨a49, h49, ea49, g_a49, X49, V49, G49⟩ := G48.newA (ty := .int) (dv := (.int (0 : Int32))) (N := 4) (cap := 4) (pc' := 68) (k' := 2) (j' := 8) (hw _ (List.mem_of_getElem? (i := 10) rfl)) at_66 rfl rfl (by decide) (by decide) (by decide) rfl rfl rfl (by decide) (by decide)
    have ne50 : a2 ≠ a49 := by rw [ea49]; exact Nat.ne_of_lt V27.lt
    have V51 : Av Z h49 a2 .byte [(.int (nar .byte (fP x0))), (.int (nar .byte (fP x1))), (.int (nar .byte (fP x2))), (.int (nar .byte (fP x3)))] := V27.ext X49
    have V52 : Av Z h49 a49 .int [(.int (0 : Int32)), (.int (0 : Int32)), (.int (0 : Int32)), (.int (0 : Int32))] := V49
    have G53 := G49.dup (pc' := 69) at_68
    have G54 := G53.iconst (v := (0 : Int32)) (pc' := 70) at_69
    have G55 := G54.iconst (v := (1 : Int32)) (pc' := 71) at_70
    obtain ⟨h56, W56, V56, G56⟩ := G55.stI (i := 0) (pc' := 72) V52 g_a49 (by decide) (by show 0 < 4; decide) at_71
    have V57 : Av Z h56 a2 .byte [(.int (nar .byte (fP x0))), (.int (nar .byte (fP x1))), (.int (nar .byte (fP x2))), (.int (nar .byte (fP x3)))] := V51.other W56 ne50
    have V58 : Av Z h56 a49 .int [(.int (1 : Int32)), (.int (0 : Int32)), (.int (0 : Int32)), (.int (0 : Int32))] := V56
    have G59 := G56.dup (pc' := 73) at_72
    have G60 := G59.iconst (v := (1 : Int32)) (pc' := 74) at_73
    have G61 := G60.bipush (v := (10 : Int32)) (pc' := 76) at_74
    obtain ⟨h62, W62, V62, G62⟩ := G61.stI (i := 1) (pc' := 77) V58 g_a49 (by decide) (by show 1 < 4; decide) at_76
    have V63 : Av Z h62 a2 .byte [(.int (nar .byte (fP x0))), (.int (nar .byte (fP x1))), (.int (nar .byte (fP x2))), (.int (nar .byte (fP x3)))] := V57.other W62 ne50
    have V64 : Av Z h62 a49 .int [(.int (1 : Int32)), (.int (10 : Int32)), (.int (0 : Int32)), (.int (0 : Int32))] := V62
    have G65 := G62.dup (pc' := 78) at_77
    have G66 := G65.iconst (v := (2 : Int32)) (pc' := 79) at_78
    have G67 := G66.bipush (v := (100 : Int32)) (pc' := 81) at_79
    obtain ⟨h68, W68, V68, G68⟩ := G67.stI (i := 2) (pc' := 82) V64 g_a49 (by decide) (by show 2 < 4; decide) at_81
    have V69 : Av Z h68 a2 .byte [(.int (nar .byte (fP x0))), (.int (nar .byte (fP x1))), (.int (nar .byte (fP x2))), (.int (nar .byte (fP x3)))] := V63.other W68 ne50
    have V70 : Av Z h68 a49 .int [(.int (1 : Int32)), (.int (10 : Int32)), (.int (100 : Int32)), (.int (0 : Int32))] := V68
    have G71 := G68.dup (pc' := 83) at_82
    have G72 := G71.iconst (v := (3 : Int32)) (pc' := 84) at_83
    have G73 := G72.sipush (v := (1000 : Int32)) (pc' := 87) at_84
    obtain ⟨h74, W74, V74, G74⟩ := G73.stI (i := 3) (pc' := 88) V70 g_a49 (by decide) (by show 3 < 4; decide) at_87
    have V75 : Av Z h74 a2 .byte [(.int (nar .byte (fP x0))), (.int (nar .byte (fP x1))), (.int (nar .byte (fP x2))), (.int (nar .byte (fP x3)))] := V69.other W74 ne50
    have V76 : Av Z h74 a49 .int [(.int (1 : Int32)), (.int (10 : Int32)), (.int (100 : Int32)), (.int (1000 : Int32))] := V74
    have G77 := G74.astore (L' := #[.val (.int x0), .val (.int x1), .val (.int x2), .val (.int x3), .val (.int x4), .val (.int x5), .val (.ref a2), .val (.int (0 : Int32)), .val (.int ((x4 &&& (2147483647 : Int32)) % ((5 : Int32) - (0 : Int32)))), .val (.int (own_D (own_B (nar .byte (fP x0)) (nar .byte (fP x1)) (nar .byte (fP x2)) (nar .byte (fP x3))) 0 (own_s x4 (0 : Int32)).toInt.toNat (0 : Int32))), .val (.ref a49), .unset, .unset, .unset]) (pc' := 90) at_88 rfl
    have G78 := G77.iconst (v := (1 : Int32)) (pc' := 91) at_90
    have G79 := G78.istore (L' := #[.val (.int x0), .val (.int x1), .val (.int x2), .val (.int x3), .val (.int x4), .val (.int x5), .val (.ref a2), .val (.int (0 : Int32)), .val (.int ((x4 &&& (2147483647 : Int32)) % ((5 : Int32) - (0 : Int32)))), .val (.int (own_D (own_B (nar .byte (fP x0)) (nar .byte (fP x1)) (nar .byte (fP x2)) (nar .byte (fP x3))) 0 (own_s x4 (0 : Int32)).toInt.toNat (0 : Int32))), .val (.ref a49), .val (.int (1 : Int32)), .unset, .unset]) (pc' := 93) at_91 rfl
    have G80 := G79.iconst (v := (0 : Int32)) (pc' := 94) at_93
    have G81 := G80.istore (L' := #[.val (.int x0), .val (.int x1), .val (.int x2), .val (.int x3), .val (.int x4), .val (.int x5), .val (.ref a2), .val (.int (0 : Int32)), .val (.int ((x4 &&& (2147483647 : Int32)) % ((5 : Int32) - (0 : Int32)))), .val (.int (own_D (own_B (nar .byte (fP x0)) (nar .byte (fP x1)) (nar .byte (fP x2)) (nar .byte (fP x3))) 0 (own_s x4 (0 : Int32)).toInt.toNat (0 : Int32))), .val (.ref a49), .val (.int (1 : Int32)), .val (.int (0 : Int32)), .unset]) (pc' := 96) at_94 rfl
    have G82 := G81.iload (v := (0 : Int32)) (pc' := 98) at_96 rfl
    have G83 := G82.ifY at_98 138 (Jvm.Free.XT.i0_le_t (by decide))
    have G84 := G83.iload (v := (0 : Int32)) (pc' := 140) at_138 rfl
    have G85 := G84.iconst (v := (1 : Int32)) (pc' := 141) at_140
    have G86 := G85.icmpY at_141 183 (Jvm.Free.XT.ii_le_t (by decide))
    have G87 := G86.iload (v := (0 : Int32)) (pc' := 185) at_183 rfl
    have G88 := G87.iconst (v := (2 : Int32)) (pc' := 186) at_185
    have G89 := G88.icmpY at_186 228 (Jvm.Free.XT.ii_le_t (by decide))
    have G90 := G89.iload (v := (0 : Int32)) (pc' := 230) at_228 rfl
    have G91 := G90.iconst (v := (3 : Int32)) (pc' := 231) at_230
    have G92 := G91.icmpY at_231 273 (Jvm.Free.XT.ii_le_t (by decide))
    have G93 := G92.iload (v := (1 : Int32)) (pc' := 275) at_273 rfl
    obtain ⟨zw, e_zw, G99⟩ : ∃ zw : Int32, zw = (if (1 : Int32) = (0 : Int32) then (-1 : Int32) else (0 : Int32)) ∧ Go p l e room_1 s m #[(.int x0), (.int x1), (.int x2), (.int x3), (.int x4), (.int x5)] below meth c Z x.cls code maxLocals ret n0 s₀ h74 2 8 284 #[.val (.int x0), .val (.int x1), .val (.int x2), .val (.int x3), .val (.int x4), .val (.int x5), .val (.ref a2), .val (.int (0 : Int32)), .val (.int ((x4 &&& (2147483647 : Int32)) % ((5 : Int32) - (0 : Int32)))), .val (.int (own_D (own_B (nar .byte (fP x0)) (nar .byte (fP x1)) (nar .byte (fP x2)) (nar .byte (fP x3))) 0 (own_s x4 (0 : Int32)).toInt.toNat (0 : Int32))), .val (.ref a49), .val (.int (1 : Int32)), .val (.int (0 : Int32)), .unset] [(.int zw)] := by
      by_cases c275_93 : (1 : Int32) = (0 : Int32)
      · have G94 := G93.ifY at_275 283 (Jvm.Free.XT.i0_eq_t c275_93)
        have G95 := G94.iconst (v := (-1 : Int32)) (pc' := 284) at_283
        exact ⟨(-1 : Int32), by rw [if_pos c275_93], G95⟩
      · have G96 := G93.ifN at_275 278 (Jvm.Free.XT.i0_eq_f c275_93)
        have G97 := G96.iload (v := (0 : Int32)) (pc' := 280) at_278 rfl
        have G98 := G97.goto at_280 284
        exact ⟨(0 : Int32), by rw [if_neg c275_93], G98⟩
    have G100 := G99.istore (L' := #[.val (.int x0), .val (.int x1), .val (.int x2), .val (.int x3), .val (.int x4), .val (.int x5), .val (.ref a2), .val (.int (0 : Int32)), .val (.int ((x4 &&& (2147483647 : Int32)) % ((5 : Int32) - (0 : Int32)))), .val (.int (own_D (own_B (nar .byte (fP x0)) (nar .byte (fP x1)) (nar .byte (fP x2)) (nar .byte (fP x3))) 0 (own_s x4 (0 : Int32)).toInt.toNat (0 : Int32))), .val (.ref a49), .val (.int (1 : Int32)), .val (.int (0 : Int32)), .val (.int zw)]) (pc' := 286) at_284 rfl
    have G101 := G100.iload (v := (own_D (own_B (nar .byte (fP x0)) (nar .byte (fP x1)) (nar .byte (fP x2)) (nar .byte (fP x3))) 0 (own_s x4 (0 : Int32)).toInt.toNat (0 : Int32))) (pc' := 288) at_286 rfl
    have G102 := G101.iload (v := zw) (pc' := 290) at_288 rfl
    have G103 := G102.icmpN at_290 293 (Jvm.Free.XT.ii_ne_f (own_fin0 (own_B (nar .byte (fP x0)) (nar .byte (fP x1)) (nar .byte (fP x2)) (nar .byte (fP x3))) (own_s x4 (0 : Int32)).toInt.toNat zw e_zw))
    have G104 := G103.iconst (v := (1 : Int32)) (pc' := 294) at_293
    have G105 := G104.goto at_294 298
    exact G105.retZ at_298 rfl (Or.inr rfl) rfl
  · rw [hc] at G33
    have G106 := G33.istore (L' := #[.val (.int x0), .val (.int x1), .val (.int x2), .val (.int x3), .val (.int x4), .val (.int x5), .val (.ref a2), .val (.int (1 : Int32)), .unset, .unset, .unset, .unset, .unset, .unset]) (pc' := 42) at_40 rfl
    have G107 := G106.iload (v := x4) (pc' := 44) at_42 rfl
    have G108 := G107.ldc (v := (2147483647 : Int32)) (pc' := 46) (hw _ (List.mem_of_getElem? (i := 5) rfl)) at_44
    have G109 := G108.iand (pc' := 47) at_46
    have G110 := G109.iconst (v := (5 : Int32)) (pc' := 48) at_47
    have G111 := G110.iload (v := (1 : Int32)) (pc' := 50) at_48 rfl
    have G112 := G111.isub (pc' := 51) at_50
    have G113 := G112.irem (pc' := 52) at_51 (by decide)
    have G114 := G113.istore (L' := #[.val (.int x0), .val (.int x1), .val (.int x2), .val (.int x3), .val (.int x4), .val (.int x5), .val (.ref a2), .val (.int (1 : Int32)), .val (.int ((x4 &&& (2147483647 : Int32)) % ((5 : Int32) - (1 : Int32)))), .unset, .unset, .unset, .unset, .unset]) (pc' := 54) at_52 rfl
    have G115 := G114.aload (v := (.ref a2)) (pc' := 56) at_54 rfl
    have G116 := G115.iload (v := ((x4 &&& (2147483647 : Int32)) % ((5 : Int32) - (1 : Int32)))) (pc' := 58) at_56 rfl
    have G117 := G116.iload (v := (1 : Int32)) (pc' := 60) at_58 rfl
    obtain ⟨v118, h118, ⟨ev118, eh118⟩, g118⟩ := G117.callS (argsL := [(.ref a2), (.int ((x4 &&& (2147483647 : Int32)) % ((5 : Int32) - (1 : Int32)))), (.int (1 : Int32))]) (rest := []) (pc' := 63) (k' := 1) (j' := 4) (cn2 l Z a0 hw a2 ((x4 &&& (2147483647 : Int32)) % ((5 : Int32) - (1 : Int32))) (1 : Int32) h26 n0 G117.size [(.int (nar .byte (fP x0))), (.int (nar .byte (fP x1))), (.int (nar .byte (fP x2))), (.int (nar .byte (fP x3)))] V27 (own_B (nar .byte (fP x0)) (nar .byte (fP x1)) (nar .byte (fP x2)) (nar .byte (fP x3))) (own_s x4 (1 : Int32)).toInt.toNat 1 (own_s4 x4 (1 : Int32) 1 (by decide) (by decide)) (own_s3 x4 (1 : Int32) 1 (by decide) (by decide) (1 : Int32) 1 (by decide) (by decide)) (own_s2 x4 (1 : Int32) 1 (by decide) (by decide)) (own_get _ _ _ _)) rfl (hw _ (List.mem_of_getElem? (i := 6) rfl)) (hw _ (List.mem_of_getElem? (i := 7) rfl)) (hw _ (List.mem_of_getElem? (i := 8) rfl)) (hw _ (List.mem_of_getElem? (i := 9) rfl)) (by decide) at_60 pd1 rfl (W := 0) rfl rfl (by decide) (by decide) (by decide) (by decide) rfl rfl rfl
    subst ev118
    rw [eh118] at g118
    have G118 := g118 [(.int (own_D (own_B (nar .byte (fP x0)) (nar .byte (fP x1)) (nar .byte (fP x2)) (nar .byte (fP x3))) 1 (own_s x4 (1 : Int32)).toInt.toNat (0 : Int32)))] rfl
    have G119 := G118.istore (L' := #[.val (.int x0), .val (.int x1), .val (.int x2), .val (.int x3), .val (.int x4), .val (.int x5), .val (.ref a2), .val (.int (1 : Int32)), .val (.int ((x4 &&& (2147483647 : Int32)) % ((5 : Int32) - (1 : Int32)))), .val (.int (own_D (own_B (nar .byte (fP x0)) (nar .byte (fP x1)) (nar .byte (fP x2)) (nar .byte (fP x3))) 1 (own_s x4 (1 : Int32)).toInt.toNat (0 : Int32))), .unset, .unset, .unset, .unset]) (pc' := 65) at_63 rfl
    have G120 := G119.iconst (v := (4 : Int32)) (pc' := 66) at_65
    obtain ⟨a121, h121, ea121, g_a121, X121, V121, G121⟩ := G120.newA (ty := .int) (dv := (.int (0 : Int32))) (N := 4) (cap := 4) (pc' := 68) (k' := 2) (j' := 8) (hw _ (List.mem_of_getElem? (i := 10) rfl)) at_66 rfl rfl (by decide) (by decide) (by decide) rfl rfl rfl (by decide) (by decide)
    have ne122 : a2 ≠ a121 := by rw [ea121]; exact Nat.ne_of_lt V27.lt
    have V123 : Av Z h121 a2 .byte [(.int (nar .byte (fP x0))), (.int (nar .byte (fP x1))), (.int (nar .byte (fP x2))), (.int (nar .byte (fP x3)))] := V27.ext X121
    have V124 : Av Z h121 a121 .int [(.int (0 : Int32)), (.int (0 : Int32)), (.int (0 : Int32)), (.int (0 : Int32))] := V121
    have G125 := G121.dup (pc' := 69) at_68
    have G126 := G125.iconst (v := (0 : Int32)) (pc' := 70) at_69
    have G127 := G126.iconst (v := (1 : Int32)) (pc' := 71) at_70
    obtain ⟨h128, W128, V128, G128⟩ := G127.stI (i := 0) (pc' := 72) V124 g_a121 (by decide) (by show 0 < 4; decide) at_71
    have V129 : Av Z h128 a2 .byte [(.int (nar .byte (fP x0))), (.int (nar .byte (fP x1))), (.int (nar .byte (fP x2))), (.int (nar .byte (fP x3)))] := V123.other W128 ne122
    have V130 : Av Z h128 a121 .int [(.int (1 : Int32)), (.int (0 : Int32)), (.int (0 : Int32)), (.int (0 : Int32))] := V128
    have G131 := G128.dup (pc' := 73) at_72
    have G132 := G131.iconst (v := (1 : Int32)) (pc' := 74) at_73
    have G133 := G132.bipush (v := (10 : Int32)) (pc' := 76) at_74
    obtain ⟨h134, W134, V134, G134⟩ := G133.stI (i := 1) (pc' := 77) V130 g_a121 (by decide) (by show 1 < 4; decide) at_76
    have V135 : Av Z h134 a2 .byte [(.int (nar .byte (fP x0))), (.int (nar .byte (fP x1))), (.int (nar .byte (fP x2))), (.int (nar .byte (fP x3)))] := V129.other W134 ne122
    have V136 : Av Z h134 a121 .int [(.int (1 : Int32)), (.int (10 : Int32)), (.int (0 : Int32)), (.int (0 : Int32))] := V134
    have G137 := G134.dup (pc' := 78) at_77
    have G138 := G137.iconst (v := (2 : Int32)) (pc' := 79) at_78
    have G139 := G138.bipush (v := (100 : Int32)) (pc' := 81) at_79
    obtain ⟨h140, W140, V140, G140⟩ := G139.stI (i := 2) (pc' := 82) V136 g_a121 (by decide) (by show 2 < 4; decide) at_81
    have V141 : Av Z h140 a2 .byte [(.int (nar .byte (fP x0))), (.int (nar .byte (fP x1))), (.int (nar .byte (fP x2))), (.int (nar .byte (fP x3)))] := V135.other W140 ne122
    have V142 : Av Z h140 a121 .int [(.int (1 : Int32)), (.int (10 : Int32)), (.int (100 : Int32)), (.int (0 : Int32))] := V140
    have G143 := G140.dup (pc' := 83) at_82
    have G144 := G143.iconst (v := (3 : Int32)) (pc' := 84) at_83
    have G145 := G144.sipush (v := (1000 : Int32)) (pc' := 87) at_84
    obtain ⟨h146, W146, V146, G146⟩ := G145.stI (i := 3) (pc' := 88) V142 g_a121 (by decide) (by show 3 < 4; decide) at_87
    have V147 : Av Z h146 a2 .byte [(.int (nar .byte (fP x0))), (.int (nar .byte (fP x1))), (.int (nar .byte (fP x2))), (.int (nar .byte (fP x3)))] := V141.other W146 ne122
    have V148 : Av Z h146 a121 .int [(.int (1 : Int32)), (.int (10 : Int32)), (.int (100 : Int32)), (.int (1000 : Int32))] := V146
    have G149 := G146.astore (L' := #[.val (.int x0), .val (.int x1), .val (.int x2), .val (.int x3), .val (.int x4), .val (.int x5), .val (.ref a2), .val (.int (1 : Int32)), .val (.int ((x4 &&& (2147483647 : Int32)) % ((5 : Int32) - (1 : Int32)))), .val (.int (own_D (own_B (nar .byte (fP x0)) (nar .byte (fP x1)) (nar .byte (fP x2)) (nar .byte (fP x3))) 1 (own_s x4 (1 : Int32)).toInt.toNat (0 : Int32))), .val (.ref a121), .unset, .unset, .unset]) (pc' := 90) at_88 rfl
    have G150 := G149.iconst (v := (1 : Int32)) (pc' := 91) at_90
    have G151 := G150.istore (L' := #[.val (.int x0), .val (.int x1), .val (.int x2), .val (.int x3), .val (.int x4), .val (.int x5), .val (.ref a2), .val (.int (1 : Int32)), .val (.int ((x4 &&& (2147483647 : Int32)) % ((5 : Int32) - (1 : Int32)))), .val (.int (own_D (own_B (nar .byte (fP x0)) (nar .byte (fP x1)) (nar .byte (fP x2)) (nar .byte (fP x3))) 1 (own_s x4 (1 : Int32)).toInt.toNat (0 : Int32))), .val (.ref a121), .val (.int (1 : Int32)), .unset, .unset]) (pc' := 93) at_91 rfl
    have G152 := G151.iconst (v := (0 : Int32)) (pc' := 94) at_93
    have G153 := G152.istore (L' := #[.val (.int x0), .val (.int x1), .val (.int x2), .val (.int x3), .val (.int x4), .val (.int x5), .val (.ref a2), .val (.int (1 : Int32)), .val (.int ((x4 &&& (2147483647 : Int32)) % ((5 : Int32) - (1 : Int32)))), .val (.int (own_D (own_B (nar .byte (fP x0)) (nar .byte (fP x1)) (nar .byte (fP x2)) (nar .byte (fP x3))) 1 (own_s x4 (1 : Int32)).toInt.toNat (0 : Int32))), .val (.ref a121), .val (.int (1 : Int32)), .val (.int (0 : Int32)), .unset]) (pc' := 96) at_94 rfl
    have G154 := G153.iload (v := (1 : Int32)) (pc' := 98) at_96 rfl
    have G155 := G154.ifN at_98 101 (Jvm.Free.XT.i0_le_f (by decide))
    have G156 := G155.aload (v := (.ref a2)) (pc' := 103) at_101 rfl
    have G157 := G156.iload (v := ((x4 &&& (2147483647 : Int32)) % ((5 : Int32) - (1 : Int32)))) (pc' := 105) at_103 rfl
    have G158 := G157.ldB (i := (own_s x4 (1 : Int32)).toInt.toNat) (v := (.int ((own_B (nar .byte (fP x0)) (nar .byte (fP x1)) (nar .byte (fP x2)) (nar .byte (fP x3))) (own_s x4 (1 : Int32)).toInt.toNat))) (pc' := 106) V147 (own_s2 x4 (1 : Int32) 1 (by decide) (by decide)) (own_get _ _ _ _ _ (by have := own_s4 x4 (1 : Int32) 1 (by decide) (by decide); omega)) at_105
    obtain ⟨v159, h159, ⟨ev159, eh159⟩, g159⟩ := G158.callS (argsL := [(.int ((own_B (nar .byte (fP x0)) (nar .byte (fP x1)) (nar .byte (fP x2)) (nar .byte (fP x3))) (own_s x4 (1 : Int32)).toInt.toNat))]) (rest := []) (pc' := 109) (k' := 2) (j' := 8) (cn3 l Z a0 hw ((own_B (nar .byte (fP x0)) (nar .byte (fP x1)) (nar .byte (fP x2)) (nar .byte (fP x3))) (own_s x4 (1 : Int32)).toInt.toNat) h146 n0 G158.size) rfl (hw _ (List.mem_of_getElem? (i := 11) rfl)) (hw _ (List.mem_of_getElem? (i := 12) rfl)) (hw _ (List.mem_of_getElem? (i := 3) rfl)) (hw _ (List.mem_of_getElem? (i := 13) rfl)) (by decide) at_106 pd2 rfl (W := 0) rfl rfl (by decide) (by decide) (by decide) (by decide) rfl rfl rfl
    subst ev159
    rw [eh159] at g159
    have G159 := g159 [(.int (fD ((own_B (nar .byte (fP x0)) (nar .byte (fP x1)) (nar .byte (fP x2)) (nar .byte (fP x3))) (own_s x4 (1 : Int32)).toInt.toNat)))] rfl
    have G160 := G159.istore (L' := #[.val (.int x0), .val (.int x1), .val (.int x2), .val (.int x3), .val (.int x4), .val (.int x5), .val (.ref a2), .val (.int (1 : Int32)), .val (.int ((x4 &&& (2147483647 : Int32)) % ((5 : Int32) - (1 : Int32)))), .val (.int (own_D (own_B (nar .byte (fP x0)) (nar .byte (fP x1)) (nar .byte (fP x2)) (nar .byte (fP x3))) 1 (own_s x4 (1 : Int32)).toInt.toNat (0 : Int32))), .val (.ref a121), .val (.int (1 : Int32)), .val (.int (0 : Int32)), .val (.int (fD ((own_B (nar .byte (fP x0)) (nar .byte (fP x1)) (nar .byte (fP x2)) (nar .byte (fP x3))) (own_s x4 (1 : Int32)).toInt.toNat)))]) (pc' := 111) at_109 rfl
    have G161 := G160.iload (v := (fD ((own_B (nar .byte (fP x0)) (nar .byte (fP x1)) (nar .byte (fP x2)) (nar .byte (fP x3))) (own_s x4 (1 : Int32)).toInt.toNat))) (pc' := 113) at_111 rfl
    obtain ⟨z1, e_z1, G166⟩ : ∃ z1 : Int32, z1 = (if (fD ((own_B (nar .byte (fP x0)) (nar .byte (fP x1)) (nar .byte (fP x2)) (nar .byte (fP x3))) (own_s x4 (1 : Int32)).toInt.toNat)) < (0 : Int32) then (0 : Int32) else (1 : Int32)) ∧ Go p l e room_1 s m #[(.int x0), (.int x1), (.int x2), (.int x3), (.int x4), (.int x5)] below meth c Z x.cls code maxLocals ret n0 s₀ h146 2 8 119 #[.val (.int x0), .val (.int x1), .val (.int x2), .val (.int x3), .val (.int x4), .val (.int x5), .val (.ref a2), .val (.int (1 : Int32)), .val (.int ((x4 &&& (2147483647 : Int32)) % ((5 : Int32) - (1 : Int32)))), .val (.int (own_D (own_B (nar .byte (fP x0)) (nar .byte (fP x1)) (nar .byte (fP x2)) (nar .byte (fP x3))) 1 (own_s x4 (1 : Int32)).toInt.toNat (0 : Int32))), .val (.ref a121), .val (.int z1), .val (.int (0 : Int32)), .val (.int (fD ((own_B (nar .byte (fP x0)) (nar .byte (fP x1)) (nar .byte (fP x2)) (nar .byte (fP x3))) (own_s x4 (1 : Int32)).toInt.toNat)))] [] := by
      by_cases c113_161 : (fD ((own_B (nar .byte (fP x0)) (nar .byte (fP x1)) (nar .byte (fP x2)) (nar .byte (fP x3))) (own_s x4 (1 : Int32)).toInt.toNat)) < (0 : Int32)
      · have G162 := G161.ifN at_113 116 (Jvm.Free.XT.i0_ge_f c113_161)
        have G163 := G162.iconst (v := (0 : Int32)) (pc' := 117) at_116
        have G164 := G163.istore (L' := #[.val (.int x0), .val (.int x1), .val (.int x2), .val (.int x3), .val (.int x4), .val (.int x5), .val (.ref a2), .val (.int (1 : Int32)), .val (.int ((x4 &&& (2147483647 : Int32)) % ((5 : Int32) - (1 : Int32)))), .val (.int (own_D (own_B (nar .byte (fP x0)) (nar .byte (fP x1)) (nar .byte (fP x2)) (nar .byte (fP x3))) 1 (own_s x4 (1 : Int32)).toInt.toNat (0 : Int32))), .val (.ref a121), .val (.int (0 : Int32)), .val (.int (0 : Int32)), .val (.int (fD ((own_B (nar .byte (fP x0)) (nar .byte (fP x1)) (nar .byte (fP x2)) (nar .byte (fP x3))) (own_s x4 (1 : Int32)).toInt.toNat)))]) (pc' := 119) at_117 rfl
        exact ⟨(0 : Int32), by rw [if_pos c113_161], G164⟩
      · have G165 := G161.ifY at_113 119 (Jvm.Free.XT.i0_ge_t c113_161)
        exact ⟨(1 : Int32), by rw [if_neg c113_161], G165⟩
    have G167 := G166.iload (v := (0 : Int32)) (pc' := 121) at_119 rfl
    have G168 := G167.iload (v := (fD ((own_B (nar .byte (fP x0)) (nar .byte (fP x1)) (nar .byte (fP x2)) (nar .byte (fP x3))) (own_s x4 (1 : Int32)).toInt.toNat))) (pc' := 123) at_121 rfl
    have G169 := G168.iconst (v := (0 : Int32)) (pc' := 124) at_123
    obtain ⟨v170, h170, ⟨ev170, eh170⟩, g170⟩ := G169.callS (argsL := [(.int (fD ((own_B (nar .byte (fP x0)) (nar .byte (fP x1)) (nar .byte (fP x2)) (nar .byte (fP x3))) (own_s x4 (1 : Int32)).toInt.toNat))), (.int (0 : Int32))]) (rest := [(.int (0 : Int32))]) (pc' := 127) (k' := 2) (j' := 8) (cn4 l Z a0 hw (fD ((own_B (nar .byte (fP x0)) (nar .byte (fP x1)) (nar .byte (fP x2)) (nar .byte (fP x3))) (own_s x4 (1 : Int32)).toInt.toNat)) (0 : Int32) h146 n0 G169.size) rfl (hw _ (List.mem_of_getElem? (i := 14) rfl)) (hw _ (List.mem_of_getElem? (i := 15) rfl)) (hw _ (List.mem_of_getElem? (i := 16) rfl)) (hw _ (List.mem_of_getElem? (i := 17) rfl)) (by decide) at_124 pd3 rfl (W := 1) rfl rfl (by decide) (by decide) (by decide) (by decide) rfl rfl rfl
    subst ev170
    rw [eh170] at g170
    have G170 := g170 [(.int (fM (fD ((own_B (nar .byte (fP x0)) (nar .byte (fP x1)) (nar .byte (fP x2)) (nar .byte (fP x3))) (own_s x4 (1 : Int32)).toInt.toNat)) (0 : Int32))), (.int (0 : Int32))] rfl
    have G171 := G170.aload (v := (.ref a121)) (pc' := 129) at_127 rfl
    have G172 := G171.iload (v := (1 : Int32)) (pc' := 131) at_129 rfl
    have G173 := G172.iconst (v := (1 : Int32)) (pc' := 132) at_131
    have G174 := G173.isub (pc' := 133) at_132
    have G175 := G174.ldI (i := 0) (v := (.int (1 : Int32))) (pc' := 134) V148 (by decide) rfl at_133
    have G176 := G175.imul (pc' := 135) at_134
    have G177 := G176.iadd (pc' := 136) at_135
    have G178 := G177.istore (L' := #[.val (.int x0), .val (.int x1), .val (.int x2), .val (.int x3), .val (.int x4), .val (.int x5), .val (.ref a2), .val (.int (1 : Int32)), .val (.int ((x4 &&& (2147483647 : Int32)) % ((5 : Int32) - (1 : Int32)))), .val (.int (own_D (own_B (nar .byte (fP x0)) (nar .byte (fP x1)) (nar .byte (fP x2)) (nar .byte (fP x3))) 1 (own_s x4 (1 : Int32)).toInt.toNat (0 : Int32))), .val (.ref a121), .val (.int z1), .val (.int ((0 : Int32) + ((fM (fD ((own_B (nar .byte (fP x0)) (nar .byte (fP x1)) (nar .byte (fP x2)) (nar .byte (fP x3))) (own_s x4 (1 : Int32)).toInt.toNat)) (0 : Int32)) * (1 : Int32)))), .val (.int (fD ((own_B (nar .byte (fP x0)) (nar .byte (fP x1)) (nar .byte (fP x2)) (nar .byte (fP x3))) (own_s x4 (1 : Int32)).toInt.toNat)))]) (pc' := 138) at_136 rfl
    have G179 := G178.iload (v := (1 : Int32)) (pc' := 140) at_138 rfl
    have G180 := G179.iconst (v := (1 : Int32)) (pc' := 141) at_140
    have G181 := G180.icmpY at_141 183 (Jvm.Free.XT.ii_le_t (by decide))
    have G182 := G181.iload (v := (1 : Int32)) (pc' := 185) at_183 rfl
    have G183 := G182.iconst (v := (2 : Int32)) (pc' := 186) at_185
    have G184 := G183.icmpY at_186 228 (Jvm.Free.XT.ii_le_t (by decide))
    have G185 := G184.iload (v := (1 : Int32)) (pc' := 230) at_228 rfl
    have G186 := G185.iconst (v := (3 : Int32)) (pc' := 231) at_230
    have G187 := G186.icmpY at_231 273 (Jvm.Free.XT.ii_le_t (by decide))
    have G188 := G187.iload (v := z1) (pc' := 275) at_273 rfl
    obtain ⟨zw, e_zw, G194⟩ : ∃ zw : Int32, zw = (if z1 = (0 : Int32) then (-1 : Int32) else ((0 : Int32) + ((fM (fD ((own_B (nar .byte (fP x0)) (nar .byte (fP x1)) (nar .byte (fP x2)) (nar .byte (fP x3))) (own_s x4 (1 : Int32)).toInt.toNat)) (0 : Int32)) * (1 : Int32)))) ∧ Go p l e room_1 s m #[(.int x0), (.int x1), (.int x2), (.int x3), (.int x4), (.int x5)] below meth c Z x.cls code maxLocals ret n0 s₀ h146 2 8 284 #[.val (.int x0), .val (.int x1), .val (.int x2), .val (.int x3), .val (.int x4), .val (.int x5), .val (.ref a2), .val (.int (1 : Int32)), .val (.int ((x4 &&& (2147483647 : Int32)) % ((5 : Int32) - (1 : Int32)))), .val (.int (own_D (own_B (nar .byte (fP x0)) (nar .byte (fP x1)) (nar .byte (fP x2)) (nar .byte (fP x3))) 1 (own_s x4 (1 : Int32)).toInt.toNat (0 : Int32))), .val (.ref a121), .val (.int z1), .val (.int ((0 : Int32) + ((fM (fD ((own_B (nar .byte (fP x0)) (nar .byte (fP x1)) (nar .byte (fP x2)) (nar .byte (fP x3))) (own_s x4 (1 : Int32)).toInt.toNat)) (0 : Int32)) * (1 : Int32)))), .val (.int (fD ((own_B (nar .byte (fP x0)) (nar .byte (fP x1)) (nar .byte (fP x2)) (nar .byte (fP x3))) (own_s x4 (1 : Int32)).toInt.toNat)))] [(.int zw)] := by
      by_cases c275_188 : z1 = (0 : Int32)
      · have G189 := G188.ifY at_275 283 (Jvm.Free.XT.i0_eq_t c275_188)
        have G190 := G189.iconst (v := (-1 : Int32)) (pc' := 284) at_283
        exact ⟨(-1 : Int32), by rw [if_pos c275_188], G190⟩
      · have G191 := G188.ifN at_275 278 (Jvm.Free.XT.i0_eq_f c275_188)
        have G192 := G191.iload (v := ((0 : Int32) + ((fM (fD ((own_B (nar .byte (fP x0)) (nar .byte (fP x1)) (nar .byte (fP x2)) (nar .byte (fP x3))) (own_s x4 (1 : Int32)).toInt.toNat)) (0 : Int32)) * (1 : Int32)))) (pc' := 280) at_278 rfl
        have G193 := G192.goto at_280 284
        exact ⟨((0 : Int32) + ((fM (fD ((own_B (nar .byte (fP x0)) (nar .byte (fP x1)) (nar .byte (fP x2)) (nar .byte (fP x3))) (own_s x4 (1 : Int32)).toInt.toNat)) (0 : Int32)) * (1 : Int32))), by rw [if_neg c275_188], G193⟩
    have G195 := G194.istore (L' := #[.val (.int x0), .val (.int x1), .val (.int x2), .val (.int x3), .val (.int x4), .val (.int x5), .val (.ref a2), .val (.int (1 : Int32)), .val (.int ((x4 &&& (2147483647 : Int32)) % ((5 : Int32) - (1 : Int32)))), .val (.int (own_D (own_B (nar .byte (fP x0)) (nar .byte (fP x1)) (nar .byte (fP x2)) (nar .byte (fP x3))) 1 (own_s x4 (1 : Int32)).toInt.toNat (0 : Int32))), .val (.ref a121), .val (.int z1), .val (.int ((0 : Int32) + ((fM (fD ((own_B (nar .byte (fP x0)) (nar .byte (fP x1)) (nar .byte (fP x2)) (nar .byte (fP x3))) (own_s x4 (1 : Int32)).toInt.toNat)) (0 : Int32)) * (1 : Int32)))), .val (.int zw)]) (pc' := 286) at_284 rfl
    have G196 := G195.iload (v := (own_D (own_B (nar .byte (fP x0)) (nar .byte (fP x1)) (nar .byte (fP x2)) (nar .byte (fP x3))) 1 (own_s x4 (1 : Int32)).toInt.toNat (0 : Int32))) (pc' := 288) at_286 rfl
    have G197 := G196.iload (v := zw) (pc' := 290) at_288 rfl
    have G198 := G197.icmpN at_290 293 (Jvm.Free.XT.ii_ne_f (own_fin1 (own_B (nar .byte (fP x0)) (nar .byte (fP x1)) (nar .byte (fP x2)) (nar .byte (fP x3))) (own_s x4 (1 : Int32)).toInt.toNat z1 zw e_z1 e_zw))
    have G199 := G198.iconst (v := (1 : Int32)) (pc' := 294) at_293
    have G200 := G199.goto at_294 298
    exact G200.retZ at_298 rfl (Or.inr rfl) rfl
  · rw [hc] at G33
    have G201 := G33.istore (L' := #[.val (.int x0), .val (.int x1), .val (.int x2), .val (.int x3), .val (.int x4), .val (.int x5), .val (.ref a2), .val (.int (2 : Int32)), .unset, .unset, .unset, .unset, .unset, .unset]) (pc' := 42) at_40 rfl
    have G202 := G201.iload (v := x4) (pc' := 44) at_42 rfl
    have G203 := G202.ldc (v := (2147483647 : Int32)) (pc' := 46) (hw _ (List.mem_of_getElem? (i := 5) rfl)) at_44
    have G204 := G203.iand (pc' := 47) at_46
    have G205 := G204.iconst (v := (5 : Int32)) (pc' := 48) at_47
    have G206 := G205.iload (v := (2 : Int32)) (pc' := 50) at_48 rfl
    have G207 := G206.isub (pc' := 51) at_50
    have G208 := G207.irem (pc' := 52) at_51 (by decide)
    have G209 := G208.istore (L' := #[.val (.int x0), .val (.int x1), .val (.int x2), .val (.int x3), .val (.int x4), .val (.int x5), .val (.ref a2), .val (.int (2 : Int32)), .val (.int ((x4 &&& (2147483647 : Int32)) % ((5 : Int32) - (2 : Int32)))), .unset, .unset, .unset, .unset, .unset]) (pc' := 54) at_52 rfl
    have G210 := G209.aload (v := (.ref a2)) (pc' := 56) at_54 rfl
    have G211 := G210.iload (v := ((x4 &&& (2147483647 : Int32)) % ((5 : Int32) - (2 : Int32)))) (pc' := 58) at_56 rfl
    have G212 := G211.iload (v := (2 : Int32)) (pc' := 60) at_58 rfl
    obtain ⟨v213, h213, ⟨ev213, eh213⟩, g213⟩ := G212.callS (argsL := [(.ref a2), (.int ((x4 &&& (2147483647 : Int32)) % ((5 : Int32) - (2 : Int32)))), (.int (2 : Int32))]) (rest := []) (pc' := 63) (k' := 1) (j' := 4) (cn2 l Z a0 hw a2 ((x4 &&& (2147483647 : Int32)) % ((5 : Int32) - (2 : Int32))) (2 : Int32) h26 n0 G212.size [(.int (nar .byte (fP x0))), (.int (nar .byte (fP x1))), (.int (nar .byte (fP x2))), (.int (nar .byte (fP x3)))] V27 (own_B (nar .byte (fP x0)) (nar .byte (fP x1)) (nar .byte (fP x2)) (nar .byte (fP x3))) (own_s x4 (2 : Int32)).toInt.toNat 2 (own_s4 x4 (2 : Int32) 2 (by decide) (by decide)) (own_s3 x4 (2 : Int32) 2 (by decide) (by decide) (2 : Int32) 2 (by decide) (by decide)) (own_s2 x4 (2 : Int32) 2 (by decide) (by decide)) (own_get _ _ _ _)) rfl (hw _ (List.mem_of_getElem? (i := 6) rfl)) (hw _ (List.mem_of_getElem? (i := 7) rfl)) (hw _ (List.mem_of_getElem? (i := 8) rfl)) (hw _ (List.mem_of_getElem? (i := 9) rfl)) (by decide) at_60 pd1 rfl (W := 0) rfl rfl (by decide) (by decide) (by decide) (by decide) rfl rfl rfl
    subst ev213
    rw [eh213] at g213
    have G213 := g213 [(.int (own_D (own_B (nar .byte (fP x0)) (nar .byte (fP x1)) (nar .byte (fP x2)) (nar .byte (fP x3))) 2 (own_s x4 (2 : Int32)).toInt.toNat (0 : Int32)))] rfl
    have G214 := G213.istore (L' := #[.val (.int x0), .val (.int x1), .val (.int x2), .val (.int x3), .val (.int x4), .val (.int x5), .val (.ref a2), .val (.int (2 : Int32)), .val (.int ((x4 &&& (2147483647 : Int32)) % ((5 : Int32) - (2 : Int32)))), .val (.int (own_D (own_B (nar .byte (fP x0)) (nar .byte (fP x1)) (nar .byte (fP x2)) (nar .byte (fP x3))) 2 (own_s x4 (2 : Int32)).toInt.toNat (0 : Int32))), .unset, .unset, .unset, .unset]) (pc' := 65) at_63 rfl
    have G215 := G214.iconst (v := (4 : Int32)) (pc' := 66) at_65
    obtain ⟨a216, h216, ea216, g_a216, X216, V216, G216⟩ := G215.newA (ty := .int) (dv := (.int (0 : Int32))) (N := 4) (cap := 4) (pc' := 68) (k' := 2) (j' := 8) (hw _ (List.mem_of_getElem? (i := 10) rfl)) at_66 rfl rfl (by decide) (by decide) (by decide) rfl rfl rfl (by decide) (by decide)
    have ne217 : a2 ≠ a216 := by rw [ea216]; exact Nat.ne_of_lt V27.lt
    have V218 : Av Z h216 a2 .byte [(.int (nar .byte (fP x0))), (.int (nar .byte (fP x1))), (.int (nar .byte (fP x2))), (.int (nar .byte (fP x3)))] := V27.ext X216
    have V219 : Av Z h216 a216 .int [(.int (0 : Int32)), (.int (0 : Int32)), (.int (0 : Int32)), (.int (0 : Int32))] := V216
    have G220 := G216.dup (pc' := 69) at_68
    have G221 := G220.iconst (v := (0 : Int32)) (pc' := 70) at_69
    have G222 := G221.iconst (v := (1 : Int32)) (pc' := 71) at_70
    obtain ⟨h223, W223, V223, G223⟩ := G222.stI (i := 0) (pc' := 72) V219 g_a216 (by decide) (by show 0 < 4; decide) at_71
    have V224 : Av Z h223 a2 .byte [(.int (nar .byte (fP x0))), (.int (nar .byte (fP x1))), (.int (nar .byte (fP x2))), (.int (nar .byte (fP x3)))] := V218.other W223 ne217
    have V225 : Av Z h223 a216 .int [(.int (1 : Int32)), (.int (0 : Int32)), (.int (0 : Int32)), (.int (0 : Int32))] := V223
    have G226 := G223.dup (pc' := 73) at_72
    have G227 := G226.iconst (v := (1 : Int32)) (pc' := 74) at_73
    have G228 := G227.bipush (v := (10 : Int32)) (pc' := 76) at_74
    obtain ⟨h229, W229, V229, G229⟩ := G228.stI (i := 1) (pc' := 77) V225 g_a216 (by decide) (by show 1 < 4; decide) at_76
    have V230 : Av Z h229 a2 .byte [(.int (nar .byte (fP x0))), (.int (nar .byte (fP x1))), (.int (nar .byte (fP x2))), (.int (nar .byte (fP x3)))] := V224.other W229 ne217
    have V231 : Av Z h229 a216 .int [(.int (1 : Int32)), (.int (10 : Int32)), (.int (0 : Int32)), (.int (0 : Int32))] := V229
    have G232 := G229.dup (pc' := 78) at_77
    have G233 := G232.iconst (v := (2 : Int32)) (pc' := 79) at_78
    have G234 := G233.bipush (v := (100 : Int32)) (pc' := 81) at_79
    obtain ⟨h235, W235, V235, G235⟩ := G234.stI (i := 2) (pc' := 82) V231 g_a216 (by decide) (by show 2 < 4; decide) at_81
    have V236 : Av Z h235 a2 .byte [(.int (nar .byte (fP x0))), (.int (nar .byte (fP x1))), (.int (nar .byte (fP x2))), (.int (nar .byte (fP x3)))] := V230.other W235 ne217
    have V237 : Av Z h235 a216 .int [(.int (1 : Int32)), (.int (10 : Int32)), (.int (100 : Int32)), (.int (0 : Int32))] := V235
    have G238 := G235.dup (pc' := 83) at_82
    have G239 := G238.iconst (v := (3 : Int32)) (pc' := 84) at_83
    have G240 := G239.sipush (v := (1000 : Int32)) (pc' := 87) at_84
    obtain ⟨h241, W241, V241, G241⟩ := G240.stI (i := 3) (pc' := 88) V237 g_a216 (by decide) (by show 3 < 4; decide) at_87
    have V242 : Av Z h241 a2 .byte [(.int (nar .byte (fP x0))), (.int (nar .byte (fP x1))), (.int (nar .byte (fP x2))), (.int (nar .byte (fP x3)))] := V236.other W241 ne217
    have V243 : Av Z h241 a216 .int [(.int (1 : Int32)), (.int (10 : Int32)), (.int (100 : Int32)), (.int (1000 : Int32))] := V241
    have G244 := G241.astore (L' := #[.val (.int x0), .val (.int x1), .val (.int x2), .val (.int x3), .val (.int x4), .val (.int x5), .val (.ref a2), .val (.int (2 : Int32)), .val (.int ((x4 &&& (2147483647 : Int32)) % ((5 : Int32) - (2 : Int32)))), .val (.int (own_D (own_B (nar .byte (fP x0)) (nar .byte (fP x1)) (nar .byte (fP x2)) (nar .byte (fP x3))) 2 (own_s x4 (2 : Int32)).toInt.toNat (0 : Int32))), .val (.ref a216), .unset, .unset, .unset]) (pc' := 90) at_88 rfl
    have G245 := G244.iconst (v := (1 : Int32)) (pc' := 91) at_90
    have G246 := G245.istore (L' := #[.val (.int x0), .val (.int x1), .val (.int x2), .val (.int x3), .val (.int x4), .val (.int x5), .val (.ref a2), .val (.int (2 : Int32)), .val (.int ((x4 &&& (2147483647 : Int32)) % ((5 : Int32) - (2 : Int32)))), .val (.int (own_D (own_B (nar .byte (fP x0)) (nar .byte (fP x1)) (nar .byte (fP x2)) (nar .byte (fP x3))) 2 (own_s x4 (2 : Int32)).toInt.toNat (0 : Int32))), .val (.ref a216), .val (.int (1 : Int32)), .unset, .unset]) (pc' := 93) at_91 rfl
    have G247 := G246.iconst (v := (0 : Int32)) (pc' := 94) at_93
    have G248 := G247.istore (L' := #[.val (.int x0), .val (.int x1), .val (.int x2), .val (.int x3), .val (.int x4), .val (.int x5), .val (.ref a2), .val (.int (2 : Int32)), .val (.int ((x4 &&& (2147483647 : Int32)) % ((5 : Int32) - (2 : Int32)))), .val (.int (own_D (own_B (nar .byte (fP x0)) (nar .byte (fP x1)) (nar .byte (fP x2)) (nar .byte (fP x3))) 2 (own_s x4 (2 : Int32)).toInt.toNat (0 : Int32))), .val (.ref a216), .val (.int (1 : Int32)), .val (.int (0 : Int32)), .unset]) (pc' := 96) at_94 rfl
    have G249 := G248.iload (v := (2 : Int32)) (pc' := 98) at_96 rfl
    have G250 := G249.ifN at_98 101 (Jvm.Free.XT.i0_le_f (by decide))
    have G251 := G250.aload (v := (.ref a2)) (pc' := 103) at_101 rfl
    have G252 := G251.iload (v := ((x4 &&& (2147483647 : Int32)) % ((5 : Int32) - (2 : Int32)))) (pc' := 105) at_103 rfl
    have G253 := G252.ldB (i := (own_s x4 (2 : Int32)).toInt.toNat) (v := (.int ((own_B (nar .byte (fP x0)) (nar .byte (fP x1)) (nar .byte (fP x2)) (nar .byte (fP x3))) (own_s x4 (2 : Int32)).toInt.toNat))) (pc' := 106) V242 (own_s2 x4 (2 : Int32) 2 (by decide) (by decide)) (own_get _ _ _ _ _ (by have := own_s4 x4 (2 : Int32) 2 (by decide) (by decide); omega)) at_105
    obtain ⟨v254, h254, ⟨ev254, eh254⟩, g254⟩ := G253.callS (argsL := [(.int ((own_B (nar .byte (fP x0)) (nar .byte (fP x1)) (nar .byte (fP x2)) (nar .byte (fP x3))) (own_s x4 (2 : Int32)).toInt.toNat))]) (rest := []) (pc' := 109) (k' := 2) (j' := 8) (cn3 l Z a0 hw ((own_B (nar .byte (fP x0)) (nar .byte (fP x1)) (nar .byte (fP x2)) (nar .byte (fP x3))) (own_s x4 (2 : Int32)).toInt.toNat) h241 n0 G253.size) rfl (hw _ (List.mem_of_getElem? (i := 11) rfl)) (hw _ (List.mem_of_getElem? (i := 12) rfl)) (hw _ (List.mem_of_getElem? (i := 3) rfl)) (hw _ (List.mem_of_getElem? (i := 13) rfl)) (by decide) at_106 pd2 rfl (W := 0) rfl rfl (by decide) (by decide) (by decide) (by decide) rfl rfl rfl
    subst ev254
    rw [eh254] at g254
    have G254 := g254 [(.int (fD ((own_B (nar .byte (fP x0)) (nar .byte (fP x1)) (nar .byte (fP x2)) (nar .byte (fP x3))) (own_s x4 (2 : Int32)).toInt.toNat)))] rfl
    have G255 := G254.istore (L' := #[.val (.int x0), .val (.int x1), .val (.int x2), .val (.int x3), .val (.int x4), .val (.int x5), .val (.ref a2), .val (.int (2 : Int32)), .val (.int ((x4 &&& (2147483647 : Int32)) % ((5 : Int32) - (2 : Int32)))), .val (.int (own_D (own_B (nar .byte (fP x0)) (nar .byte (fP x1)) (nar .byte (fP x2)) (nar .byte (fP x3))) 2 (own_s x4 (2 : Int32)).toInt.toNat (0 : Int32))), .val (.ref a216), .val (.int (1 : Int32)), .val (.int (0 : Int32)), .val (.int (fD ((own_B (nar .byte (fP x0)) (nar .byte (fP x1)) (nar .byte (fP x2)) (nar .byte (fP x3))) (own_s x4 (2 : Int32)).toInt.toNat)))]) (pc' := 111) at_109 rfl
    have G256 := G255.iload (v := (fD ((own_B (nar .byte (fP x0)) (nar .byte (fP x1)) (nar .byte (fP x2)) (nar .byte (fP x3))) (own_s x4 (2 : Int32)).toInt.toNat))) (pc' := 113) at_111 rfl
    obtain ⟨z1, e_z1, G261⟩ : ∃ z1 : Int32, z1 = (if (fD ((own_B (nar .byte (fP x0)) (nar .byte (fP x1)) (nar .byte (fP x2)) (nar .byte (fP x3))) (own_s x4 (2 : Int32)).toInt.toNat)) < (0 : Int32) then (0 : Int32) else (1 : Int32)) ∧ Go p l e room_1 s m #[(.int x0), (.int x1), (.int x2), (.int x3), (.int x4), (.int x5)] below meth c Z x.cls code maxLocals ret n0 s₀ h241 2 8 119 #[.val (.int x0), .val (.int x1), .val (.int x2), .val (.int x3), .val (.int x4), .val (.int x5), .val (.ref a2), .val (.int (2 : Int32)), .val (.int ((x4 &&& (2147483647 : Int32)) % ((5 : Int32) - (2 : Int32)))), .val (.int (own_D (own_B (nar .byte (fP x0)) (nar .byte (fP x1)) (nar .byte (fP x2)) (nar .byte (fP x3))) 2 (own_s x4 (2 : Int32)).toInt.toNat (0 : Int32))), .val (.ref a216), .val (.int z1), .val (.int (0 : Int32)), .val (.int (fD ((own_B (nar .byte (fP x0)) (nar .byte (fP x1)) (nar .byte (fP x2)) (nar .byte (fP x3))) (own_s x4 (2 : Int32)).toInt.toNat)))] [] := by
      by_cases c113_256 : (fD ((own_B (nar .byte (fP x0)) (nar .byte (fP x1)) (nar .byte (fP x2)) (nar .byte (fP x3))) (own_s x4 (2 : Int32)).toInt.toNat)) < (0 : Int32)
      · have G257 := G256.ifN at_113 116 (Jvm.Free.XT.i0_ge_f c113_256)
        have G258 := G257.iconst (v := (0 : Int32)) (pc' := 117) at_116
        have G259 := G258.istore (L' := #[.val (.int x0), .val (.int x1), .val (.int x2), .val (.int x3), .val (.int x4), .val (.int x5), .val (.ref a2), .val (.int (2 : Int32)), .val (.int ((x4 &&& (2147483647 : Int32)) % ((5 : Int32) - (2 : Int32)))), .val (.int (own_D (own_B (nar .byte (fP x0)) (nar .byte (fP x1)) (nar .byte (fP x2)) (nar .byte (fP x3))) 2 (own_s x4 (2 : Int32)).toInt.toNat (0 : Int32))), .val (.ref a216), .val (.int (0 : Int32)), .val (.int (0 : Int32)), .val (.int (fD ((own_B (nar .byte (fP x0)) (nar .byte (fP x1)) (nar .byte (fP x2)) (nar .byte (fP x3))) (own_s x4 (2 : Int32)).toInt.toNat)))]) (pc' := 119) at_117 rfl
        exact ⟨(0 : Int32), by rw [if_pos c113_256], G259⟩
      · have G260 := G256.ifY at_113 119 (Jvm.Free.XT.i0_ge_t c113_256)
        exact ⟨(1 : Int32), by rw [if_neg c113_256], G260⟩
    have G262 := G261.iload (v := (0 : Int32)) (pc' := 121) at_119 rfl
    have G263 := G262.iload (v := (fD ((own_B (nar .byte (fP x0)) (nar .byte (fP x1)) (nar .byte (fP x2)) (nar .byte (fP x3))) (own_s x4 (2 : Int32)).toInt.toNat))) (pc' := 123) at_121 rfl
    have G264 := G263.iconst (v := (0 : Int32)) (pc' := 124) at_123
    obtain ⟨v265, h265, ⟨ev265, eh265⟩, g265⟩ := G264.callS (argsL := [(.int (fD ((own_B (nar .byte (fP x0)) (nar .byte (fP x1)) (nar .byte (fP x2)) (nar .byte (fP x3))) (own_s x4 (2 : Int32)).toInt.toNat))), (.int (0 : Int32))]) (rest := [(.int (0 : Int32))]) (pc' := 127) (k' := 2) (j' := 8) (cn4 l Z a0 hw (fD ((own_B (nar .byte (fP x0)) (nar .byte (fP x1)) (nar .byte (fP x2)) (nar .byte (fP x3))) (own_s x4 (2 : Int32)).toInt.toNat)) (0 : Int32) h241 n0 G264.size) rfl (hw _ (List.mem_of_getElem? (i := 14) rfl)) (hw _ (List.mem_of_getElem? (i := 15) rfl)) (hw _ (List.mem_of_getElem? (i := 16) rfl)) (hw _ (List.mem_of_getElem? (i := 17) rfl)) (by decide) at_124 pd3 rfl (W := 1) rfl rfl (by decide) (by decide) (by decide) (by decide) rfl rfl rfl
    subst ev265
    rw [eh265] at g265
    have G265 := g265 [(.int (fM (fD ((own_B (nar .byte (fP x0)) (nar .byte (fP x1)) (nar .byte (fP x2)) (nar .byte (fP x3))) (own_s x4 (2 : Int32)).toInt.toNat)) (0 : Int32))), (.int (0 : Int32))] rfl
    have G266 := G265.aload (v := (.ref a216)) (pc' := 129) at_127 rfl
    have G267 := G266.iload (v := (2 : Int32)) (pc' := 131) at_129 rfl
    have G268 := G267.iconst (v := (1 : Int32)) (pc' := 132) at_131
    have G269 := G268.isub (pc' := 133) at_132
    have G270 := G269.ldI (i := 1) (v := (.int (10 : Int32))) (pc' := 134) V243 (by decide) rfl at_133
    have G271 := G270.imul (pc' := 135) at_134
    have G272 := G271.iadd (pc' := 136) at_135
    have G273 := G272.istore (L' := #[.val (.int x0), .val (.int x1), .val (.int x2), .val (.int x3), .val (.int x4), .val (.int x5), .val (.ref a2), .val (.int (2 : Int32)), .val (.int ((x4 &&& (2147483647 : Int32)) % ((5 : Int32) - (2 : Int32)))), .val (.int (own_D (own_B (nar .byte (fP x0)) (nar .byte (fP x1)) (nar .byte (fP x2)) (nar .byte (fP x3))) 2 (own_s x4 (2 : Int32)).toInt.toNat (0 : Int32))), .val (.ref a216), .val (.int z1), .val (.int ((0 : Int32) + ((fM (fD ((own_B (nar .byte (fP x0)) (nar .byte (fP x1)) (nar .byte (fP x2)) (nar .byte (fP x3))) (own_s x4 (2 : Int32)).toInt.toNat)) (0 : Int32)) * (10 : Int32)))), .val (.int (fD ((own_B (nar .byte (fP x0)) (nar .byte (fP x1)) (nar .byte (fP x2)) (nar .byte (fP x3))) (own_s x4 (2 : Int32)).toInt.toNat)))]) (pc' := 138) at_136 rfl
    have G274 := G273.iload (v := (2 : Int32)) (pc' := 140) at_138 rfl
    have G275 := G274.iconst (v := (1 : Int32)) (pc' := 141) at_140
    have G276 := G275.icmpN at_141 144 (Jvm.Free.XT.ii_le_f (by decide))
    have G277 := G276.aload (v := (.ref a2)) (pc' := 146) at_144 rfl
    have G278 := G277.iload (v := ((x4 &&& (2147483647 : Int32)) % ((5 : Int32) - (2 : Int32)))) (pc' := 148) at_146 rfl
    have G279 := G278.iconst (v := (1 : Int32)) (pc' := 149) at_148
    have G280 := G279.iadd (pc' := 150) at_149
    have G281 := G280.ldB (i := ((own_s x4 (2 : Int32)).toInt.toNat + 1)) (v := (.int ((own_B (nar .byte (fP x0)) (nar .byte (fP x1)) (nar .byte (fP x2)) (nar .byte (fP x3))) ((own_s x4 (2 : Int32)).toInt.toNat + 1)))) (pc' := 151) V242 (own_s3 x4 (2 : Int32) 2 (by decide) (by decide) (1 : Int32) 1 (by decide) (by decide)) (own_get _ _ _ _ _ (by have := own_s4 x4 (2 : Int32) 2 (by decide) (by decide); omega)) at_150
    obtain ⟨v282, h282, ⟨ev282, eh282⟩, g282⟩ := G281.callS (argsL := [(.int ((own_B (nar .byte (fP x0)) (nar .byte (fP x1)) (nar .byte (fP x2)) (nar .byte (fP x3))) ((own_s x4 (2 : Int32)).toInt.toNat + 1)))]) (rest := []) (pc' := 154) (k' := 2) (j' := 8) (cn3 l Z a0 hw ((own_B (nar .byte (fP x0)) (nar .byte (fP x1)) (nar .byte (fP x2)) (nar .byte (fP x3))) ((own_s x4 (2 : Int32)).toInt.toNat + 1)) h241 n0 G281.size) rfl (hw _ (List.mem_of_getElem? (i := 11) rfl)) (hw _ (List.mem_of_getElem? (i := 12) rfl)) (hw _ (List.mem_of_getElem? (i := 3) rfl)) (hw _ (List.mem_of_getElem? (i := 13) rfl)) (by decide) at_151 pd2 rfl (W := 0) rfl rfl (by decide) (by decide) (by decide) (by decide) rfl rfl rfl
    subst ev282
    rw [eh282] at g282
    have G282 := g282 [(.int (fD ((own_B (nar .byte (fP x0)) (nar .byte (fP x1)) (nar .byte (fP x2)) (nar .byte (fP x3))) ((own_s x4 (2 : Int32)).toInt.toNat + 1))))] rfl
    have G283 := G282.istore (L' := #[.val (.int x0), .val (.int x1), .val (.int x2), .val (.int x3), .val (.int x4), .val (.int x5), .val (.ref a2), .val (.int (2 : Int32)), .val (.int ((x4 &&& (2147483647 : Int32)) % ((5 : Int32) - (2 : Int32)))), .val (.int (own_D (own_B (nar .byte (fP x0)) (nar .byte (fP x1)) (nar .byte (fP x2)) (nar .byte (fP x3))) 2 (own_s x4 (2 : Int32)).toInt.toNat (0 : Int32))), .val (.ref a216), .val (.int z1), .val (.int ((0 : Int32) + ((fM (fD ((own_B (nar .byte (fP x0)) (nar .byte (fP x1)) (nar .byte (fP x2)) (nar .byte (fP x3))) (own_s x4 (2 : Int32)).toInt.toNat)) (0 : Int32)) * (10 : Int32)))), .val (.int (fD ((own_B (nar .byte (fP x0)) (nar .byte (fP x1)) (nar .byte (fP x2)) (nar .byte (fP x3))) ((own_s x4 (2 : Int32)).toInt.toNat + 1))))]) (pc' := 156) at_154 rfl
    have G284 := G283.iload (v := (fD ((own_B (nar .byte (fP x0)) (nar .byte (fP x1)) (nar .byte (fP x2)) (nar .byte (fP x3))) ((own_s x4 (2 : Int32)).toInt.toNat + 1)))) (pc' := 158) at_156 rfl
    obtain ⟨z2, e_z2, G289⟩ : ∃ z2 : Int32, z2 = (if (fD ((own_B (nar .byte (fP x0)) (nar .byte (fP x1)) (nar .byte (fP x2)) (nar .byte (fP x3))) ((own_s x4 (2 : Int32)).toInt.toNat + 1))) < (0 : Int32) then (0 : Int32) else z1) ∧ Go p l e room_1 s m #[(.int x0), (.int x1), (.int x2), (.int x3), (.int x4), (.int x5)] below meth c Z x.cls code maxLocals ret n0 s₀ h241 2 8 164 #[.val (.int x0), .val (.int x1), .val (.int x2), .val (.int x3), .val (.int x4), .val (.int x5), .val (.ref a2), .val (.int (2 : Int32)), .val (.int ((x4 &&& (2147483647 : Int32)) % ((5 : Int32) - (2 : Int32)))), .val (.int (own_D (own_B (nar .byte (fP x0)) (nar .byte (fP x1)) (nar .byte (fP x2)) (nar .byte (fP x3))) 2 (own_s x4 (2 : Int32)).toInt.toNat (0 : Int32))), .val (.ref a216), .val (.int z2), .val (.int ((0 : Int32) + ((fM (fD ((own_B (nar .byte (fP x0)) (nar .byte (fP x1)) (nar .byte (fP x2)) (nar .byte (fP x3))) (own_s x4 (2 : Int32)).toInt.toNat)) (0 : Int32)) * (10 : Int32)))), .val (.int (fD ((own_B (nar .byte (fP x0)) (nar .byte (fP x1)) (nar .byte (fP x2)) (nar .byte (fP x3))) ((own_s x4 (2 : Int32)).toInt.toNat + 1))))] [] := by
      by_cases c158_284 : (fD ((own_B (nar .byte (fP x0)) (nar .byte (fP x1)) (nar .byte (fP x2)) (nar .byte (fP x3))) ((own_s x4 (2 : Int32)).toInt.toNat + 1))) < (0 : Int32)
      · have G285 := G284.ifN at_158 161 (Jvm.Free.XT.i0_ge_f c158_284)
        have G286 := G285.iconst (v := (0 : Int32)) (pc' := 162) at_161
        have G287 := G286.istore (L' := #[.val (.int x0), .val (.int x1), .val (.int x2), .val (.int x3), .val (.int x4), .val (.int x5), .val (.ref a2), .val (.int (2 : Int32)), .val (.int ((x4 &&& (2147483647 : Int32)) % ((5 : Int32) - (2 : Int32)))), .val (.int (own_D (own_B (nar .byte (fP x0)) (nar .byte (fP x1)) (nar .byte (fP x2)) (nar .byte (fP x3))) 2 (own_s x4 (2 : Int32)).toInt.toNat (0 : Int32))), .val (.ref a216), .val (.int (0 : Int32)), .val (.int ((0 : Int32) + ((fM (fD ((own_B (nar .byte (fP x0)) (nar .byte (fP x1)) (nar .byte (fP x2)) (nar .byte (fP x3))) (own_s x4 (2 : Int32)).toInt.toNat)) (0 : Int32)) * (10 : Int32)))), .val (.int (fD ((own_B (nar .byte (fP x0)) (nar .byte (fP x1)) (nar .byte (fP x2)) (nar .byte (fP x3))) ((own_s x4 (2 : Int32)).toInt.toNat + 1))))]) (pc' := 164) at_162 rfl
        exact ⟨(0 : Int32), by rw [if_pos c158_284], G287⟩
      · have G288 := G284.ifY at_158 164 (Jvm.Free.XT.i0_ge_t c158_284)
        exact ⟨z1, by rw [if_neg c158_284], G288⟩
    have G290 := G289.iload (v := ((0 : Int32) + ((fM (fD ((own_B (nar .byte (fP x0)) (nar .byte (fP x1)) (nar .byte (fP x2)) (nar .byte (fP x3))) (own_s x4 (2 : Int32)).toInt.toNat)) (0 : Int32)) * (10 : Int32)))) (pc' := 166) at_164 rfl
    have G291 := G290.iload (v := (fD ((own_B (nar .byte (fP x0)) (nar .byte (fP x1)) (nar .byte (fP x2)) (nar .byte (fP x3))) ((own_s x4 (2 : Int32)).toInt.toNat + 1)))) (pc' := 168) at_166 rfl
    have G292 := G291.iconst (v := (0 : Int32)) (pc' := 169) at_168
    obtain ⟨v293, h293, ⟨ev293, eh293⟩, g293⟩ := G292.callS (argsL := [(.int (fD ((own_B (nar .byte (fP x0)) (nar .byte (fP x1)) (nar .byte (fP x2)) (nar .byte (fP x3))) ((own_s x4 (2 : Int32)).toInt.toNat + 1)))), (.int (0 : Int32))]) (rest := [(.int ((0 : Int32) + ((fM (fD ((own_B (nar .byte (fP x0)) (nar .byte (fP x1)) (nar .byte (fP x2)) (nar .byte (fP x3))) (own_s x4 (2 : Int32)).toInt.toNat)) (0 : Int32)) * (10 : Int32))))]) (pc' := 172) (k' := 2) (j' := 8) (cn4 l Z a0 hw (fD ((own_B (nar .byte (fP x0)) (nar .byte (fP x1)) (nar .byte (fP x2)) (nar .byte (fP x3))) ((own_s x4 (2 : Int32)).toInt.toNat + 1))) (0 : Int32) h241 n0 G292.size) rfl (hw _ (List.mem_of_getElem? (i := 14) rfl)) (hw _ (List.mem_of_getElem? (i := 15) rfl)) (hw _ (List.mem_of_getElem? (i := 16) rfl)) (hw _ (List.mem_of_getElem? (i := 17) rfl)) (by decide) at_169 pd3 rfl (W := 1) rfl rfl (by decide) (by decide) (by decide) (by decide) rfl rfl rfl
    subst ev293
    rw [eh293] at g293
    have G293 := g293 [(.int (fM (fD ((own_B (nar .byte (fP x0)) (nar .byte (fP x1)) (nar .byte (fP x2)) (nar .byte (fP x3))) ((own_s x4 (2 : Int32)).toInt.toNat + 1))) (0 : Int32))), (.int ((0 : Int32) + ((fM (fD ((own_B (nar .byte (fP x0)) (nar .byte (fP x1)) (nar .byte (fP x2)) (nar .byte (fP x3))) (own_s x4 (2 : Int32)).toInt.toNat)) (0 : Int32)) * (10 : Int32))))] rfl
    have G294 := G293.aload (v := (.ref a216)) (pc' := 174) at_172 rfl
    have G295 := G294.iload (v := (2 : Int32)) (pc' := 176) at_174 rfl
    have G296 := G295.iconst (v := (2 : Int32)) (pc' := 177) at_176
    have G297 := G296.isub (pc' := 178) at_177
    have G298 := G297.ldI (i := 0) (v := (.int (1 : Int32))) (pc' := 179) V243 (by decide) rfl at_178
    have G299 := G298.imul (pc' := 180) at_179
    have G300 := G299.iadd (pc' := 181) at_180
    have G301 := G300.istore (L' := #[.val (.int x0), .val (.int x1), .val (.int x2), .val (.int x3), .val (.int x4), .val (.int x5), .val (.ref a2), .val (.int (2 : Int32)), .val (.int ((x4 &&& (2147483647 : Int32)) % ((5 : Int32) - (2 : Int32)))), .val (.int (own_D (own_B (nar .byte (fP x0)) (nar .byte (fP x1)) (nar .byte (fP x2)) (nar .byte (fP x3))) 2 (own_s x4 (2 : Int32)).toInt.toNat (0 : Int32))), .val (.ref a216), .val (.int z2), .val (.int (((0 : Int32) + ((fM (fD ((own_B (nar .byte (fP x0)) (nar .byte (fP x1)) (nar .byte (fP x2)) (nar .byte (fP x3))) (own_s x4 (2 : Int32)).toInt.toNat)) (0 : Int32)) * (10 : Int32))) + ((fM (fD ((own_B (nar .byte (fP x0)) (nar .byte (fP x1)) (nar .byte (fP x2)) (nar .byte (fP x3))) ((own_s x4 (2 : Int32)).toInt.toNat + 1))) (0 : Int32)) * (1 : Int32)))), .val (.int (fD ((own_B (nar .byte (fP x0)) (nar .byte (fP x1)) (nar .byte (fP x2)) (nar .byte (fP x3))) ((own_s x4 (2 : Int32)).toInt.toNat + 1))))]) (pc' := 183) at_181 rfl
    have G302 := G301.iload (v := (2 : Int32)) (pc' := 185) at_183 rfl
    have G303 := G302.iconst (v := (2 : Int32)) (pc' := 186) at_185
    have G304 := G303.icmpY at_186 228 (Jvm.Free.XT.ii_le_t (by decide))
    have G305 := G304.iload (v := (2 : Int32)) (pc' := 230) at_228 rfl
    have G306 := G305.iconst (v := (3 : Int32)) (pc' := 231) at_230
    have G307 := G306.icmpY at_231 273 (Jvm.Free.XT.ii_le_t (by decide))
    have G308 := G307.iload (v := z2) (pc' := 275) at_273 rfl
    obtain ⟨zw, e_zw, G314⟩ : ∃ zw : Int32, zw = (if z2 = (0 : Int32) then (-1 : Int32) else (((0 : Int32) + ((fM (fD ((own_B (nar .byte (fP x0)) (nar .byte (fP x1)) (nar .byte (fP x2)) (nar .byte (fP x3))) (own_s x4 (2 : Int32)).toInt.toNat)) (0 : Int32)) * (10 : Int32))) + ((fM (fD ((own_B (nar .byte (fP x0)) (nar .byte (fP x1)) (nar .byte (fP x2)) (nar .byte (fP x3))) ((own_s x4 (2 : Int32)).toInt.toNat + 1))) (0 : Int32)) * (1 : Int32)))) ∧ Go p l e room_1 s m #[(.int x0), (.int x1), (.int x2), (.int x3), (.int x4), (.int x5)] below meth c Z x.cls code maxLocals ret n0 s₀ h241 2 8 284 #[.val (.int x0), .val (.int x1), .val (.int x2), .val (.int x3), .val (.int x4), .val (.int x5), .val (.ref a2), .val (.int (2 : Int32)), .val (.int ((x4 &&& (2147483647 : Int32)) % ((5 : Int32) - (2 : Int32)))), .val (.int (own_D (own_B (nar .byte (fP x0)) (nar .byte (fP x1)) (nar .byte (fP x2)) (nar .byte (fP x3))) 2 (own_s x4 (2 : Int32)).toInt.toNat (0 : Int32))), .val (.ref a216), .val (.int z2), .val (.int (((0 : Int32) + ((fM (fD ((own_B (nar .byte (fP x0)) (nar .byte (fP x1)) (nar .byte (fP x2)) (nar .byte (fP x3))) (own_s x4 (2 : Int32)).toInt.toNat)) (0 : Int32)) * (10 : Int32))) + ((fM (fD ((own_B (nar .byte (fP x0)) (nar .byte (fP x1)) (nar .byte (fP x2)) (nar .byte (fP x3))) ((own_s x4 (2 : Int32)).toInt.toNat + 1))) (0 : Int32)) * (1 : Int32)))), .val (.int (fD ((own_B (nar .byte (fP x0)) (nar .byte (fP x1)) (nar .byte (fP x2)) (nar .byte (fP x3))) ((own_s x4 (2 : Int32)).toInt.toNat + 1))))] [(.int zw)] := by
      by_cases c275_308 : z2 = (0 : Int32)
      · have G309 := G308.ifY at_275 283 (Jvm.Free.XT.i0_eq_t c275_308)
        have G310 := G309.iconst (v := (-1 : Int32)) (pc' := 284) at_283
        exact ⟨(-1 : Int32), by rw [if_pos c275_308], G310⟩
      · have G311 := G308.ifN at_275 278 (Jvm.Free.XT.i0_eq_f c275_308)
        have G312 := G311.iload (v := (((0 : Int32) + ((fM (fD ((own_B (nar .byte (fP x0)) (nar .byte (fP x1)) (nar .byte (fP x2)) (nar .byte (fP x3))) (own_s x4 (2 : Int32)).toInt.toNat)) (0 : Int32)) * (10 : Int32))) + ((fM (fD ((own_B (nar .byte (fP x0)) (nar .byte (fP x1)) (nar .byte (fP x2)) (nar .byte (fP x3))) ((own_s x4 (2 : Int32)).toInt.toNat + 1))) (0 : Int32)) * (1 : Int32)))) (pc' := 280) at_278 rfl
        have G313 := G312.goto at_280 284
        exact ⟨(((0 : Int32) + ((fM (fD ((own_B (nar .byte (fP x0)) (nar .byte (fP x1)) (nar .byte (fP x2)) (nar .byte (fP x3))) (own_s x4 (2 : Int32)).toInt.toNat)) (0 : Int32)) * (10 : Int32))) + ((fM (fD ((own_B (nar .byte (fP x0)) (nar .byte (fP x1)) (nar .byte (fP x2)) (nar .byte (fP x3))) ((own_s x4 (2 : Int32)).toInt.toNat + 1))) (0 : Int32)) * (1 : Int32))), by rw [if_neg c275_308], G313⟩
    have G315 := G314.istore (L' := #[.val (.int x0), .val (.int x1), .val (.int x2), .val (.int x3), .val (.int x4), .val (.int x5), .val (.ref a2), .val (.int (2 : Int32)), .val (.int ((x4 &&& (2147483647 : Int32)) % ((5 : Int32) - (2 : Int32)))), .val (.int (own_D (own_B (nar .byte (fP x0)) (nar .byte (fP x1)) (nar .byte (fP x2)) (nar .byte (fP x3))) 2 (own_s x4 (2 : Int32)).toInt.toNat (0 : Int32))), .val (.ref a216), .val (.int z2), .val (.int (((0 : Int32) + ((fM (fD ((own_B (nar .byte (fP x0)) (nar .byte (fP x1)) (nar .byte (fP x2)) (nar .byte (fP x3))) (own_s x4 (2 : Int32)).toInt.toNat)) (0 : Int32)) * (10 : Int32))) + ((fM (fD ((own_B (nar .byte (fP x0)) (nar .byte (fP x1)) (nar .byte (fP x2)) (nar .byte (fP x3))) ((own_s x4 (2 : Int32)).toInt.toNat + 1))) (0 : Int32)) * (1 : Int32)))), .val (.int zw)]) (pc' := 286) at_284 rfl
    have G316 := G315.iload (v := (own_D (own_B (nar .byte (fP x0)) (nar .byte (fP x1)) (nar .byte (fP x2)) (nar .byte (fP x3))) 2 (own_s x4 (2 : Int32)).toInt.toNat (0 : Int32))) (pc' := 288) at_286 rfl
    have G317 := G316.iload (v := zw) (pc' := 290) at_288 rfl
    have G318 := G317.icmpN at_290 293 (Jvm.Free.XT.ii_ne_f (own_fin2 (own_B (nar .byte (fP x0)) (nar .byte (fP x1)) (nar .byte (fP x2)) (nar .byte (fP x3))) (own_s x4 (2 : Int32)).toInt.toNat z1 z2 zw e_z1 e_z2 e_zw))
    have G319 := G318.iconst (v := (1 : Int32)) (pc' := 294) at_293
    have G320 := G319.goto at_294 298
    exact G320.retZ at_298 rfl (Or.inr rfl) rfl
  · rw [hc] at G33
    have G321 := G33.istore (L' := #[.val (.int x0), .val (.int x1), .val (.int x2), .val (.int x3), .val (.int x4), .val (.int x5), .val (.ref a2), .val (.int (3 : Int32)), .unset, .unset, .unset, .unset, .unset, .unset]) (pc' := 42) at_40 rfl
    have G322 := G321.iload (v := x4) (pc' := 44) at_42 rfl
    have G323 := G322.ldc (v := (2147483647 : Int32)) (pc' := 46) (hw _ (List.mem_of_getElem? (i := 5) rfl)) at_44
    have G324 := G323.iand (pc' := 47) at_46
    have G325 := G324.iconst (v := (5 : Int32)) (pc' := 48) at_47
    have G326 := G325.iload (v := (3 : Int32)) (pc' := 50) at_48 rfl
    have G327 := G326.isub (pc' := 51) at_50
    have G328 := G327.irem (pc' := 52) at_51 (by decide)
    have G329 := G328.istore (L' := #[.val (.int x0), .val (.int x1), .val (.int x2), .val (.int x3), .val (.int x4), .val (.int x5), .val (.ref a2), .val (.int (3 : Int32)), .val (.int ((x4 &&& (2147483647 : Int32)) % ((5 : Int32) - (3 : Int32)))), .unset, .unset, .unset, .unset, .unset]) (pc' := 54) at_52 rfl
    have G330 := G329.aload (v := (.ref a2)) (pc' := 56) at_54 rfl
    have G331 := G330.iload (v := ((x4 &&& (2147483647 : Int32)) % ((5 : Int32) - (3 : Int32)))) (pc' := 58) at_56 rfl
    have G332 := G331.iload (v := (3 : Int32)) (pc' := 60) at_58 rfl
    obtain ⟨v333, h333, ⟨ev333, eh333⟩, g333⟩ := G332.callS (argsL := [(.ref a2), (.int ((x4 &&& (2147483647 : Int32)) % ((5 : Int32) - (3 : Int32)))), (.int (3 : Int32))]) (rest := []) (pc' := 63) (k' := 1) (j' := 4) (cn2 l Z a0 hw a2 ((x4 &&& (2147483647 : Int32)) % ((5 : Int32) - (3 : Int32))) (3 : Int32) h26 n0 G332.size [(.int (nar .byte (fP x0))), (.int (nar .byte (fP x1))), (.int (nar .byte (fP x2))), (.int (nar .byte (fP x3)))] V27 (own_B (nar .byte (fP x0)) (nar .byte (fP x1)) (nar .byte (fP x2)) (nar .byte (fP x3))) (own_s x4 (3 : Int32)).toInt.toNat 3 (own_s4 x4 (3 : Int32) 3 (by decide) (by decide)) (own_s3 x4 (3 : Int32) 3 (by decide) (by decide) (3 : Int32) 3 (by decide) (by decide)) (own_s2 x4 (3 : Int32) 3 (by decide) (by decide)) (own_get _ _ _ _)) rfl (hw _ (List.mem_of_getElem? (i := 6) rfl)) (hw _ (List.mem_of_getElem? (i := 7) rfl)) (hw _ (List.mem_of_getElem? (i := 8) rfl)) (hw _ (List.mem_of_getElem? (i := 9) rfl)) (by decide) at_60 pd1 rfl (W := 0) rfl rfl (by decide) (by decide) (by decide) (by decide) rfl rfl rfl
    subst ev333
    rw [eh333] at g333
    have G333 := g333 [(.int (own_D (own_B (nar .byte (fP x0)) (nar .byte (fP x1)) (nar .byte (fP x2)) (nar .byte (fP x3))) 3 (own_s x4 (3 : Int32)).toInt.toNat (0 : Int32)))] rfl
    have G334 := G333.istore (L' := #[.val (.int x0), .val (.int x1), .val (.int x2), .val (.int x3), .val (.int x4), .val (.int x5), .val (.ref a2), .val (.int (3 : Int32)), .val (.int ((x4 &&& (2147483647 : Int32)) % ((5 : Int32) - (3 : Int32)))), .val (.int (own_D (own_B (nar .byte (fP x0)) (nar .byte (fP x1)) (nar .byte (fP x2)) (nar .byte (fP x3))) 3 (own_s x4 (3 : Int32)).toInt.toNat (0 : Int32))), .unset, .unset, .unset, .unset]) (pc' := 65) at_63 rfl
    have G335 := G334.iconst (v := (4 : Int32)) (pc' := 66) at_65
    obtain ⟨a336, h336, ea336, g_a336, X336, V336, G336⟩ := G335.newA (ty := .int) (dv := (.int (0 : Int32))) (N := 4) (cap := 4) (pc' := 68) (k' := 2) (j' := 8) (hw _ (List.mem_of_getElem? (i := 10) rfl)) at_66 rfl rfl (by decide) (by decide) (by decide) rfl rfl rfl (by decide) (by decide)
    have ne337 : a2 ≠ a336 := by rw [ea336]; exact Nat.ne_of_lt V27.lt
    have V338 : Av Z h336 a2 .byte [(.int (nar .byte (fP x0))), (.int (nar .byte (fP x1))), (.int (nar .byte (fP x2))), (.int (nar .byte (fP x3)))] := V27.ext X336
    have V339 : Av Z h336 a336 .int [(.int (0 : Int32)), (.int (0 : Int32)), (.int (0 : Int32)), (.int (0 : Int32))] := V336
    have G340 := G336.dup (pc' := 69) at_68
    have G341 := G340.iconst (v := (0 : Int32)) (pc' := 70) at_69
    have G342 := G341.iconst (v := (1 : Int32)) (pc' := 71) at_70
    obtain ⟨h343, W343, V343, G343⟩ := G342.stI (i := 0) (pc' := 72) V339 g_a336 (by decide) (by show 0 < 4; decide) at_71
    have V344 : Av Z h343 a2 .byte [(.int (nar .byte (fP x0))), (.int (nar .byte (fP x1))), (.int (nar .byte (fP x2))), (.int (nar .byte (fP x3)))] := V338.other W343 ne337
    have V345 : Av Z h343 a336 .int [(.int (1 : Int32)), (.int (0 : Int32)), (.int (0 : Int32)), (.int (0 : Int32))] := V343
    have G346 := G343.dup (pc' := 73) at_72
    have G347 := G346.iconst (v := (1 : Int32)) (pc' := 74) at_73
    have G348 := G347.bipush (v := (10 : Int32)) (pc' := 76) at_74
    obtain ⟨h349, W349, V349, G349⟩ := G348.stI (i := 1) (pc' := 77) V345 g_a336 (by decide) (by show 1 < 4; decide) at_76
    have V350 : Av Z h349 a2 .byte [(.int (nar .byte (fP x0))), (.int (nar .byte (fP x1))), (.int (nar .byte (fP x2))), (.int (nar .byte (fP x3)))] := V344.other W349 ne337
    have V351 : Av Z h349 a336 .int [(.int (1 : Int32)), (.int (10 : Int32)), (.int (0 : Int32)), (.int (0 : Int32))] := V349
    have G352 := G349.dup (pc' := 78) at_77
    have G353 := G352.iconst (v := (2 : Int32)) (pc' := 79) at_78
    have G354 := G353.bipush (v := (100 : Int32)) (pc' := 81) at_79
    obtain ⟨h355, W355, V355, G355⟩ := G354.stI (i := 2) (pc' := 82) V351 g_a336 (by decide) (by show 2 < 4; decide) at_81
    have V356 : Av Z h355 a2 .byte [(.int (nar .byte (fP x0))), (.int (nar .byte (fP x1))), (.int (nar .byte (fP x2))), (.int (nar .byte (fP x3)))] := V350.other W355 ne337
    have V357 : Av Z h355 a336 .int [(.int (1 : Int32)), (.int (10 : Int32)), (.int (100 : Int32)), (.int (0 : Int32))] := V355
    have G358 := G355.dup (pc' := 83) at_82
    have G359 := G358.iconst (v := (3 : Int32)) (pc' := 84) at_83
    have G360 := G359.sipush (v := (1000 : Int32)) (pc' := 87) at_84
    obtain ⟨h361, W361, V361, G361⟩ := G360.stI (i := 3) (pc' := 88) V357 g_a336 (by decide) (by show 3 < 4; decide) at_87
    have V362 : Av Z h361 a2 .byte [(.int (nar .byte (fP x0))), (.int (nar .byte (fP x1))), (.int (nar .byte (fP x2))), (.int (nar .byte (fP x3)))] := V356.other W361 ne337
    have V363 : Av Z h361 a336 .int [(.int (1 : Int32)), (.int (10 : Int32)), (.int (100 : Int32)), (.int (1000 : Int32))] := V361
    have G364 := G361.astore (L' := #[.val (.int x0), .val (.int x1), .val (.int x2), .val (.int x3), .val (.int x4), .val (.int x5), .val (.ref a2), .val (.int (3 : Int32)), .val (.int ((x4 &&& (2147483647 : Int32)) % ((5 : Int32) - (3 : Int32)))), .val (.int (own_D (own_B (nar .byte (fP x0)) (nar .byte (fP x1)) (nar .byte (fP x2)) (nar .byte (fP x3))) 3 (own_s x4 (3 : Int32)).toInt.toNat (0 : Int32))), .val (.ref a336), .unset, .unset, .unset]) (pc' := 90) at_88 rfl
    have G365 := G364.iconst (v := (1 : Int32)) (pc' := 91) at_90
    have G366 := G365.istore (L' := #[.val (.int x0), .val (.int x1), .val (.int x2), .val (.int x3), .val (.int x4), .val (.int x5), .val (.ref a2), .val (.int (3 : Int32)), .val (.int ((x4 &&& (2147483647 : Int32)) % ((5 : Int32) - (3 : Int32)))), .val (.int (own_D (own_B (nar .byte (fP x0)) (nar .byte (fP x1)) (nar .byte (fP x2)) (nar .byte (fP x3))) 3 (own_s x4 (3 : Int32)).toInt.toNat (0 : Int32))), .val (.ref a336), .val (.int (1 : Int32)), .unset, .unset]) (pc' := 93) at_91 rfl
    have G367 := G366.iconst (v := (0 : Int32)) (pc' := 94) at_93
    have G368 := G367.istore (L' := #[.val (.int x0), .val (.int x1), .val (.int x2), .val (.int x3), .val (.int x4), .val (.int x5), .val (.ref a2), .val (.int (3 : Int32)), .val (.int ((x4 &&& (2147483647 : Int32)) % ((5 : Int32) - (3 : Int32)))), .val (.int (own_D (own_B (nar .byte (fP x0)) (nar .byte (fP x1)) (nar .byte (fP x2)) (nar .byte (fP x3))) 3 (own_s x4 (3 : Int32)).toInt.toNat (0 : Int32))), .val (.ref a336), .val (.int (1 : Int32)), .val (.int (0 : Int32)), .unset]) (pc' := 96) at_94 rfl
    have G369 := G368.iload (v := (3 : Int32)) (pc' := 98) at_96 rfl
    have G370 := G369.ifN at_98 101 (Jvm.Free.XT.i0_le_f (by decide))
    have G371 := G370.aload (v := (.ref a2)) (pc' := 103) at_101 rfl
    have G372 := G371.iload (v := ((x4 &&& (2147483647 : Int32)) % ((5 : Int32) - (3 : Int32)))) (pc' := 105) at_103 rfl
    have G373 := G372.ldB (i := (own_s x4 (3 : Int32)).toInt.toNat) (v := (.int ((own_B (nar .byte (fP x0)) (nar .byte (fP x1)) (nar .byte (fP x2)) (nar .byte (fP x3))) (own_s x4 (3 : Int32)).toInt.toNat))) (pc' := 106) V362 (own_s2 x4 (3 : Int32) 3 (by decide) (by decide)) (own_get _ _ _ _ _ (by have := own_s4 x4 (3 : Int32) 3 (by decide) (by decide); omega)) at_105
    obtain ⟨v374, h374, ⟨ev374, eh374⟩, g374⟩ := G373.callS (argsL := [(.int ((own_B (nar .byte (fP x0)) (nar .byte (fP x1)) (nar .byte (fP x2)) (nar .byte (fP x3))) (own_s x4 (3 : Int32)).toInt.toNat))]) (rest := []) (pc' := 109) (k' := 2) (j' := 8) (cn3 l Z a0 hw ((own_B (nar .byte (fP x0)) (nar .byte (fP x1)) (nar .byte (fP x2)) (nar .byte (fP x3))) (own_s x4 (3 : Int32)).toInt.toNat) h361 n0 G373.size) rfl (hw _ (List.mem_of_getElem? (i := 11) rfl)) (hw _ (List.mem_of_getElem? (i := 12) rfl)) (hw _ (List.mem_of_getElem? (i := 3) rfl)) (hw _ (List.mem_of_getElem? (i := 13) rfl)) (by decide) at_106 pd2 rfl (W := 0) rfl rfl (by decide) (by decide) (by decide) (by decide) rfl rfl rfl
    subst ev374
    rw [eh374] at g374
    have G374 := g374 [(.int (fD ((own_B (nar .byte (fP x0)) (nar .byte (fP x1)) (nar .byte (fP x2)) (nar .byte (fP x3))) (own_s x4 (3 : Int32)).toInt.toNat)))] rfl
    have G375 := G374.istore (L' := #[.val (.int x0), .val (.int x1), .val (.int x2), .val (.int x3), .val (.int x4), .val (.int x5), .val (.ref a2), .val (.int (3 : Int32)), .val (.int ((x4 &&& (2147483647 : Int32)) % ((5 : Int32) - (3 : Int32)))), .val (.int (own_D (own_B (nar .byte (fP x0)) (nar .byte (fP x1)) (nar .byte (fP x2)) (nar .byte (fP x3))) 3 (own_s x4 (3 : Int32)).toInt.toNat (0 : Int32))), .val (.ref a336), .val (.int (1 : Int32)), .val (.int (0 : Int32)), .val (.int (fD ((own_B (nar .byte (fP x0)) (nar .byte (fP x1)) (nar .byte (fP x2)) (nar .byte (fP x3))) (own_s x4 (3 : Int32)).toInt.toNat)))]) (pc' := 111) at_109 rfl
    have G376 := G375.iload (v := (fD ((own_B (nar .byte (fP x0)) (nar .byte (fP x1)) (nar .byte (fP x2)) (nar .byte (fP x3))) (own_s x4 (3 : Int32)).toInt.toNat))) (pc' := 113) at_111 rfl
    obtain ⟨z1, e_z1, G381⟩ : ∃ z1 : Int32, z1 = (if (fD ((own_B (nar .byte (fP x0)) (nar .byte (fP x1)) (nar .byte (fP x2)) (nar .byte (fP x3))) (own_s x4 (3 : Int32)).toInt.toNat)) < (0 : Int32) then (0 : Int32) else (1 : Int32)) ∧ Go p l e room_1 s m #[(.int x0), (.int x1), (.int x2), (.int x3), (.int x4), (.int x5)] below meth c Z x.cls code maxLocals ret n0 s₀ h361 2 8 119 #[.val (.int x0), .val (.int x1), .val (.int x2), .val (.int x3), .val (.int x4), .val (.int x5), .val (.ref a2), .val (.int (3 : Int32)), .val (.int ((x4 &&& (2147483647 : Int32)) % ((5 : Int32) - (3 : Int32)))), .val (.int (own_D (own_B (nar .byte (fP x0)) (nar .byte (fP x1)) (nar .byte (fP x2)) (nar .byte (fP x3))) 3 (own_s x4 (3 : Int32)).toInt.toNat (0 : Int32))), .val (.ref a336), .val (.int z1), .val (.int (0 : Int32)), .val (.int (fD ((own_B (nar .byte (fP x0)) (nar .byte (fP x1)) (nar .byte (fP x2)) (nar .byte (fP x3))) (own_s x4 (3 : Int32)).toInt.toNat)))] [] := by
      by_cases c113_376 : (fD ((own_B (nar .byte (fP x0)) (nar .byte (fP x1)) (nar .byte (fP x2)) (nar .byte (fP x3))) (own_s x4 (3 : Int32)).toInt.toNat)) < (0 : Int32)
      · have G377 := G376.ifN at_113 116 (Jvm.Free.XT.i0_ge_f c113_376)
        have G378 := G377.iconst (v := (0 : Int32)) (pc' := 117) at_116
        have G379 := G378.istore (L' := #[.val (.int x0), .val (.int x1), .val (.int x2), .val (.int x3), .val (.int x4), .val (.int x5), .val (.ref a2), .val (.int (3 : Int32)), .val (.int ((x4 &&& (2147483647 : Int32)) % ((5 : Int32) - (3 : Int32)))), .val (.int (own_D (own_B (nar .byte (fP x0)) (nar .byte (fP x1)) (nar .byte (fP x2)) (nar .byte (fP x3))) 3 (own_s x4 (3 : Int32)).toInt.toNat (0 : Int32))), .val (.ref a336), .val (.int (0 : Int32)), .val (.int (0 : Int32)), .val (.int (fD ((own_B (nar .byte (fP x0)) (nar .byte (fP x1)) (nar .byte (fP x2)) (nar .byte (fP x3))) (own_s x4 (3 : Int32)).toInt.toNat)))]) (pc' := 119) at_117 rfl
        exact ⟨(0 : Int32), by rw [if_pos c113_376], G379⟩
      · have G380 := G376.ifY at_113 119 (Jvm.Free.XT.i0_ge_t c113_376)
        exact ⟨(1 : Int32), by rw [if_neg c113_376], G380⟩
    have G382 := G381.iload (v := (0 : Int32)) (pc' := 121) at_119 rfl
    have G383 := G382.iload (v := (fD ((own_B (nar .byte (fP x0)) (nar .byte (fP x1)) (nar .byte (fP x2)) (nar .byte (fP x3))) (own_s x4 (3 : Int32)).toInt.toNat))) (pc' := 123) at_121 rfl
    have G384 := G383.iconst (v := (0 : Int32)) (pc' := 124) at_123
    obtain ⟨v385, h385, ⟨ev385, eh385⟩, g385⟩ := G384.callS (argsL := [(.int (fD ((own_B (nar .byte (fP x0)) (nar .byte (fP x1)) (nar .byte (fP x2)) (nar .byte (fP x3))) (own_s x4 (3 : Int32)).toInt.toNat))), (.int (0 : Int32))]) (rest := [(.int (0 : Int32))]) (pc' := 127) (k' := 2) (j' := 8) (cn4 l Z a0 hw (fD ((own_B (nar .byte (fP x0)) (nar .byte (fP x1)) (nar .byte (fP x2)) (nar .byte (fP x3))) (own_s x4 (3 : Int32)).toInt.toNat)) (0 : Int32) h361 n0 G384.size) rfl (hw _ (List.mem_of_getElem? (i := 14) rfl)) (hw _ (List.mem_of_getElem? (i := 15) rfl)) (hw _ (List.mem_of_getElem? (i := 16) rfl)) (hw _ (List.mem_of_getElem? (i := 17) rfl)) (by decide) at_124 pd3 rfl (W := 1) rfl rfl (by decide) (by decide) (by decide) (by decide) rfl rfl rfl
    subst ev385
    rw [eh385] at g385
    have G385 := g385 [(.int (fM (fD ((own_B (nar .byte (fP x0)) (nar .byte (fP x1)) (nar .byte (fP x2)) (nar .byte (fP x3))) (own_s x4 (3 : Int32)).toInt.toNat)) (0 : Int32))), (.int (0 : Int32))] rfl
    have G386 := G385.aload (v := (.ref a336)) (pc' := 129) at_127 rfl
    have G387 := G386.iload (v := (3 : Int32)) (pc' := 131) at_129 rfl
    have G388 := G387.iconst (v := (1 : Int32)) (pc' := 132) at_131
    have G389 := G388.isub (pc' := 133) at_132
    have G390 := G389.ldI (i := 2) (v := (.int (100 : Int32))) (pc' := 134) V363 (by decide) rfl at_133
    have G391 := G390.imul (pc' := 135) at_134
    have G392 := G391.iadd (pc' := 136) at_135
    have G393 := G392.istore (L' := #[.val (.int x0), .val (.int x1), .val (.int x2), .val (.int x3), .val (.int x4), .val (.int x5), .val (.ref a2), .val (.int (3 : Int32)), .val (.int ((x4 &&& (2147483647 : Int32)) % ((5 : Int32) - (3 : Int32)))), .val (.int (own_D (own_B (nar .byte (fP x0)) (nar .byte (fP x1)) (nar .byte (fP x2)) (nar .byte (fP x3))) 3 (own_s x4 (3 : Int32)).toInt.toNat (0 : Int32))), .val (.ref a336), .val (.int z1), .val (.int ((0 : Int32) + ((fM (fD ((own_B (nar .byte (fP x0)) (nar .byte (fP x1)) (nar .byte (fP x2)) (nar .byte (fP x3))) (own_s x4 (3 : Int32)).toInt.toNat)) (0 : Int32)) * (100 : Int32)))), .val (.int (fD ((own_B (nar .byte (fP x0)) (nar .byte (fP x1)) (nar .byte (fP x2)) (nar .byte (fP x3))) (own_s x4 (3 : Int32)).toInt.toNat)))]) (pc' := 138) at_136 rfl
    have G394 := G393.iload (v := (3 : Int32)) (pc' := 140) at_138 rfl
    have G395 := G394.iconst (v := (1 : Int32)) (pc' := 141) at_140
    have G396 := G395.icmpN at_141 144 (Jvm.Free.XT.ii_le_f (by decide))
    have G397 := G396.aload (v := (.ref a2)) (pc' := 146) at_144 rfl
    have G398 := G397.iload (v := ((x4 &&& (2147483647 : Int32)) % ((5 : Int32) - (3 : Int32)))) (pc' := 148) at_146 rfl
    have G399 := G398.iconst (v := (1 : Int32)) (pc' := 149) at_148
    have G400 := G399.iadd (pc' := 150) at_149
    have G401 := G400.ldB (i := ((own_s x4 (3 : Int32)).toInt.toNat + 1)) (v := (.int ((own_B (nar .byte (fP x0)) (nar .byte (fP x1)) (nar .byte (fP x2)) (nar .byte (fP x3))) ((own_s x4 (3 : Int32)).toInt.toNat + 1)))) (pc' := 151) V362 (own_s3 x4 (3 : Int32) 3 (by decide) (by decide) (1 : Int32) 1 (by decide) (by decide)) (own_get _ _ _ _ _ (by have := own_s4 x4 (3 : Int32) 3 (by decide) (by decide); omega)) at_150
    obtain ⟨v402, h402, ⟨ev402, eh402⟩, g402⟩ := G401.callS (argsL := [(.int ((own_B (nar .byte (fP x0)) (nar .byte (fP x1)) (nar .byte (fP x2)) (nar .byte (fP x3))) ((own_s x4 (3 : Int32)).toInt.toNat + 1)))]) (rest := []) (pc' := 154) (k' := 2) (j' := 8) (cn3 l Z a0 hw ((own_B (nar .byte (fP x0)) (nar .byte (fP x1)) (nar .byte (fP x2)) (nar .byte (fP x3))) ((own_s x4 (3 : Int32)).toInt.toNat + 1)) h361 n0 G401.size) rfl (hw _ (List.mem_of_getElem? (i := 11) rfl)) (hw _ (List.mem_of_getElem? (i := 12) rfl)) (hw _ (List.mem_of_getElem? (i := 3) rfl)) (hw _ (List.mem_of_getElem? (i := 13) rfl)) (by decide) at_151 pd2 rfl (W := 0) rfl rfl (by decide) (by decide) (by decide) (by decide) rfl rfl rfl
    subst ev402
    rw [eh402] at g402
    have G402 := g402 [(.int (fD ((own_B (nar .byte (fP x0)) (nar .byte (fP x1)) (nar .byte (fP x2)) (nar .byte (fP x3))) ((own_s x4 (3 : Int32)).toInt.toNat + 1))))] rfl
    have G403 := G402.istore (L' := #[.val (.int x0), .val (.int x1), .val (.int x2), .val (.int x3), .val (.int x4), .val (.int x5), .val (.ref a2), .val (.int (3 : Int32)), .val (.int ((x4 &&& (2147483647 : Int32)) % ((5 : Int32) - (3 : Int32)))), .val (.int (own_D (own_B (nar .byte (fP x0)) (nar .byte (fP x1)) (nar .byte (fP x2)) (nar .byte (fP x3))) 3 (own_s x4 (3 : Int32)).toInt.toNat (0 : Int32))), .val (.ref a336), .val (.int z1), .val (.int ((0 : Int32) + ((fM (fD ((own_B (nar .byte (fP x0)) (nar .byte (fP x1)) (nar .byte (fP x2)) (nar .byte (fP x3))) (own_s x4 (3 : Int32)).toInt.toNat)) (0 : Int32)) * (100 : Int32)))), .val (.int (fD ((own_B (nar .byte (fP x0)) (nar .byte (fP x1)) (nar .byte (fP x2)) (nar .byte (fP x3))) ((own_s x4 (3 : Int32)).toInt.toNat + 1))))]) (pc' := 156) at_154 rfl
    have G404 := G403.iload (v := (fD ((own_B (nar .byte (fP x0)) (nar .byte (fP x1)) (nar .byte (fP x2)) (nar .byte (fP x3))) ((own_s x4 (3 : Int32)).toInt.toNat + 1)))) (pc' := 158) at_156 rfl
    obtain ⟨z2, e_z2, G409⟩ : ∃ z2 : Int32, z2 = (if (fD ((own_B (nar .byte (fP x0)) (nar .byte (fP x1)) (nar .byte (fP x2)) (nar .byte (fP x3))) ((own_s x4 (3 : Int32)).toInt.toNat + 1))) < (0 : Int32) then (0 : Int32) else z1) ∧ Go p l e room_1 s m #[(.int x0), (.int x1), (.int x2), (.int x3), (.int x4), (.int x5)] below meth c Z x.cls code maxLocals ret n0 s₀ h361 2 8 164 #[.val (.int x0), .val (.int x1), .val (.int x2), .val (.int x3), .val (.int x4), .val (.int x5), .val (.ref a2), .val (.int (3 : Int32)), .val (.int ((x4 &&& (2147483647 : Int32)) % ((5 : Int32) - (3 : Int32)))), .val (.int (own_D (own_B (nar .byte (fP x0)) (nar .byte (fP x1)) (nar .byte (fP x2)) (nar .byte (fP x3))) 3 (own_s x4 (3 : Int32)).toInt.toNat (0 : Int32))), .val (.ref a336), .val (.int z2), .val (.int ((0 : Int32) + ((fM (fD ((own_B (nar .byte (fP x0)) (nar .byte (fP x1)) (nar .byte (fP x2)) (nar .byte (fP x3))) (own_s x4 (3 : Int32)).toInt.toNat)) (0 : Int32)) * (100 : Int32)))), .val (.int (fD ((own_B (nar .byte (fP x0)) (nar .byte (fP x1)) (nar .byte (fP x2)) (nar .byte (fP x3))) ((own_s x4 (3 : Int32)).toInt.toNat + 1))))] [] := by
      by_cases c158_404 : (fD ((own_B (nar .byte (fP x0)) (nar .byte (fP x1)) (nar .byte (fP x2)) (nar .byte (fP x3))) ((own_s x4 (3 : Int32)).toInt.toNat + 1))) < (0 : Int32)
      · have G405 := G404.ifN at_158 161 (Jvm.Free.XT.i0_ge_f c158_404)
        have G406 := G405.iconst (v := (0 : Int32)) (pc' := 162) at_161
        have G407 := G406.istore (L' := #[.val (.int x0), .val (.int x1), .val (.int x2), .val (.int x3), .val (.int x4), .val (.int x5), .val (.ref a2), .val (.int (3 : Int32)), .val (.int ((x4 &&& (2147483647 : Int32)) % ((5 : Int32) - (3 : Int32)))), .val (.int (own_D (own_B (nar .byte (fP x0)) (nar .byte (fP x1)) (nar .byte (fP x2)) (nar .byte (fP x3))) 3 (own_s x4 (3 : Int32)).toInt.toNat (0 : Int32))), .val (.ref a336), .val (.int (0 : Int32)), .val (.int ((0 : Int32) + ((fM (fD ((own_B (nar .byte (fP x0)) (nar .byte (fP x1)) (nar .byte (fP x2)) (nar .byte (fP x3))) (own_s x4 (3 : Int32)).toInt.toNat)) (0 : Int32)) * (100 : Int32)))), .val (.int (fD ((own_B (nar .byte (fP x0)) (nar .byte (fP x1)) (nar .byte (fP x2)) (nar .byte (fP x3))) ((own_s x4 (3 : Int32)).toInt.toNat + 1))))]) (pc' := 164) at_162 rfl
        exact ⟨(0 : Int32), by rw [if_pos c158_404], G407⟩
      · have G408 := G404.ifY at_158 164 (Jvm.Free.XT.i0_ge_t c158_404)
        exact ⟨z1, by rw [if_neg c158_404], G408⟩
    have G410 := G409.iload (v := ((0 : Int32) + ((fM (fD ((own_B (nar .byte (fP x0)) (nar .byte (fP x1)) (nar .byte (fP x2)) (nar .byte (fP x3))) (own_s x4 (3 : Int32)).toInt.toNat)) (0 : Int32)) * (100 : Int32)))) (pc' := 166) at_164 rfl
    have G411 := G410.iload (v := (fD ((own_B (nar .byte (fP x0)) (nar .byte (fP x1)) (nar .byte (fP x2)) (nar .byte (fP x3))) ((own_s x4 (3 : Int32)).toInt.toNat + 1)))) (pc' := 168) at_166 rfl
    have G412 := G411.iconst (v := (0 : Int32)) (pc' := 169) at_168
    obtain ⟨v413, h413, ⟨ev413, eh413⟩, g413⟩ := G412.callS (argsL := [(.int (fD ((own_B (nar .byte (fP x0)) (nar .byte (fP x1)) (nar .byte (fP x2)) (nar .byte (fP x3))) ((own_s x4 (3 : Int32)).toInt.toNat + 1)))), (.int (0 : Int32))]) (rest := [(.int ((0 : Int32) + ((fM (fD ((own_B (nar .byte (fP x0)) (nar .byte (fP x1)) (nar .byte (fP x2)) (nar .byte (fP x3))) (own_s x4 (3 : Int32)).toInt.toNat)) (0 : Int32)) * (100 : Int32))))]) (pc' := 172) (k' := 2) (j' := 8) (cn4 l Z a0 hw (fD ((own_B (nar .byte (fP x0)) (nar .byte (fP x1)) (nar .byte (fP x2)) (nar .byte (fP x3))) ((own_s x4 (3 : Int32)).toInt.toNat + 1))) (0 : Int32) h361 n0 G412.size) rfl (hw _ (List.mem_of_getElem? (i := 14) rfl)) (hw _ (List.mem_of_getElem? (i := 15) rfl)) (hw _ (List.mem_of_getElem? (i := 16) rfl)) (hw _ (List.mem_of_getElem? (i := 17) rfl)) (by decide) at_169 pd3 rfl (W := 1) rfl rfl (by decide) (by decide) (by decide) (by decide) rfl rfl rfl
    subst ev413
    rw [eh413] at g413
    have G413 := g413 [(.int (fM (fD ((own_B (nar .byte (fP x0)) (nar .byte (fP x1)) (nar .byte (fP x2)) (nar .byte (fP x3))) ((own_s x4 (3 : Int32)).toInt.toNat + 1))) (0 : Int32))), (.int ((0 : Int32) + ((fM (fD ((own_B (nar .byte (fP x0)) (nar .byte (fP x1)) (nar .byte (fP x2)) (nar .byte (fP x3))) (own_s x4 (3 : Int32)).toInt.toNat)) (0 : Int32)) * (100 : Int32))))] rfl
    have G414 := G413.aload (v := (.ref a336)) (pc' := 174) at_172 rfl
    have G415 := G414.iload (v := (3 : Int32)) (pc' := 176) at_174 rfl
    have G416 := G415.iconst (v := (2 : Int32)) (pc' := 177) at_176
    have G417 := G416.isub (pc' := 178) at_177
    have G418 := G417.ldI (i := 1) (v := (.int (10 : Int32))) (pc' := 179) V363 (by decide) rfl at_178
    have G419 := G418.imul (pc' := 180) at_179
    have G420 := G419.iadd (pc' := 181) at_180
    have G421 := G420.istore (L' := #[.val (.int x0), .val (.int x1), .val (.int x2), .val (.int x3), .val (.int x4), .val (.int x5), .val (.ref a2), .val (.int (3 : Int32)), .val (.int ((x4 &&& (2147483647 : Int32)) % ((5 : Int32) - (3 : Int32)))), .val (.int (own_D (own_B (nar .byte (fP x0)) (nar .byte (fP x1)) (nar .byte (fP x2)) (nar .byte (fP x3))) 3 (own_s x4 (3 : Int32)).toInt.toNat (0 : Int32))), .val (.ref a336), .val (.int z2), .val (.int (((0 : Int32) + ((fM (fD ((own_B (nar .byte (fP x0)) (nar .byte (fP x1)) (nar .byte (fP x2)) (nar .byte (fP x3))) (own_s x4 (3 : Int32)).toInt.toNat)) (0 : Int32)) * (100 : Int32))) + ((fM (fD ((own_B (nar .byte (fP x0)) (nar .byte (fP x1)) (nar .byte (fP x2)) (nar .byte (fP x3))) ((own_s x4 (3 : Int32)).toInt.toNat + 1))) (0 : Int32)) * (10 : Int32)))), .val (.int (fD ((own_B (nar .byte (fP x0)) (nar .byte (fP x1)) (nar .byte (fP x2)) (nar .byte (fP x3))) ((own_s x4 (3 : Int32)).toInt.toNat + 1))))]) (pc' := 183) at_181 rfl
    have G422 := G421.iload (v := (3 : Int32)) (pc' := 185) at_183 rfl
    have G423 := G422.iconst (v := (2 : Int32)) (pc' := 186) at_185
    have G424 := G423.icmpN at_186 189 (Jvm.Free.XT.ii_le_f (by decide))
    have G425 := G424.aload (v := (.ref a2)) (pc' := 191) at_189 rfl
    have G426 := G425.iload (v := ((x4 &&& (2147483647 : Int32)) % ((5 : Int32) - (3 : Int32)))) (pc' := 193) at_191 rfl
    have G427 := G426.iconst (v := (2 : Int32)) (pc' := 194) at_193
    have G428 := G427.iadd (pc' := 195) at_194
    have G429 := G428.ldB (i := ((own_s x4 (3 : Int32)).toInt.toNat + 2)) (v := (.int ((own_B (nar .byte (fP x0)) (nar .byte (fP x1)) (nar .byte (fP x2)) (nar .byte (fP x3))) ((own_s x4 (3 : Int32)).toInt.toNat + 2)))) (pc' := 196) V362 (own_s3 x4 (3 : Int32) 3 (by decide) (by decide) (2 : Int32) 2 (by decide) (by decide)) (own_get _ _ _ _ _ (by have := own_s4 x4 (3 : Int32) 3 (by decide) (by decide); omega)) at_195
    obtain ⟨v430, h430, ⟨ev430, eh430⟩, g430⟩ := G429.callS (argsL := [(.int ((own_B (nar .byte (fP x0)) (nar .byte (fP x1)) (nar .byte (fP x2)) (nar .byte (fP x3))) ((own_s x4 (3 : Int32)).toInt.toNat + 2)))]) (rest := []) (pc' := 199) (k' := 2) (j' := 8) (cn3 l Z a0 hw ((own_B (nar .byte (fP x0)) (nar .byte (fP x1)) (nar .byte (fP x2)) (nar .byte (fP x3))) ((own_s x4 (3 : Int32)).toInt.toNat + 2)) h361 n0 G429.size) rfl (hw _ (List.mem_of_getElem? (i := 11) rfl)) (hw _ (List.mem_of_getElem? (i := 12) rfl)) (hw _ (List.mem_of_getElem? (i := 3) rfl)) (hw _ (List.mem_of_getElem? (i := 13) rfl)) (by decide) at_196 pd2 rfl (W := 0) rfl rfl (by decide) (by decide) (by decide) (by decide) rfl rfl rfl
    subst ev430
    rw [eh430] at g430
    have G430 := g430 [(.int (fD ((own_B (nar .byte (fP x0)) (nar .byte (fP x1)) (nar .byte (fP x2)) (nar .byte (fP x3))) ((own_s x4 (3 : Int32)).toInt.toNat + 2))))] rfl
    have G431 := G430.istore (L' := #[.val (.int x0), .val (.int x1), .val (.int x2), .val (.int x3), .val (.int x4), .val (.int x5), .val (.ref a2), .val (.int (3 : Int32)), .val (.int ((x4 &&& (2147483647 : Int32)) % ((5 : Int32) - (3 : Int32)))), .val (.int (own_D (own_B (nar .byte (fP x0)) (nar .byte (fP x1)) (nar .byte (fP x2)) (nar .byte (fP x3))) 3 (own_s x4 (3 : Int32)).toInt.toNat (0 : Int32))), .val (.ref a336), .val (.int z2), .val (.int (((0 : Int32) + ((fM (fD ((own_B (nar .byte (fP x0)) (nar .byte (fP x1)) (nar .byte (fP x2)) (nar .byte (fP x3))) (own_s x4 (3 : Int32)).toInt.toNat)) (0 : Int32)) * (100 : Int32))) + ((fM (fD ((own_B (nar .byte (fP x0)) (nar .byte (fP x1)) (nar .byte (fP x2)) (nar .byte (fP x3))) ((own_s x4 (3 : Int32)).toInt.toNat + 1))) (0 : Int32)) * (10 : Int32)))), .val (.int (fD ((own_B (nar .byte (fP x0)) (nar .byte (fP x1)) (nar .byte (fP x2)) (nar .byte (fP x3))) ((own_s x4 (3 : Int32)).toInt.toNat + 2))))]) (pc' := 201) at_199 rfl
    have G432 := G431.iload (v := (fD ((own_B (nar .byte (fP x0)) (nar .byte (fP x1)) (nar .byte (fP x2)) (nar .byte (fP x3))) ((own_s x4 (3 : Int32)).toInt.toNat + 2)))) (pc' := 203) at_201 rfl
    obtain ⟨z3, e_z3, G437⟩ : ∃ z3 : Int32, z3 = (if (fD ((own_B (nar .byte (fP x0)) (nar .byte (fP x1)) (nar .byte (fP x2)) (nar .byte (fP x3))) ((own_s x4 (3 : Int32)).toInt.toNat + 2))) < (0 : Int32) then (0 : Int32) else z2) ∧ Go p l e room_1 s m #[(.int x0), (.int x1), (.int x2), (.int x3), (.int x4), (.int x5)] below meth c Z x.cls code maxLocals ret n0 s₀ h361 2 8 209 #[.val (.int x0), .val (.int x1), .val (.int x2), .val (.int x3), .val (.int x4), .val (.int x5), .val (.ref a2), .val (.int (3 : Int32)), .val (.int ((x4 &&& (2147483647 : Int32)) % ((5 : Int32) - (3 : Int32)))), .val (.int (own_D (own_B (nar .byte (fP x0)) (nar .byte (fP x1)) (nar .byte (fP x2)) (nar .byte (fP x3))) 3 (own_s x4 (3 : Int32)).toInt.toNat (0 : Int32))), .val (.ref a336), .val (.int z3), .val (.int (((0 : Int32) + ((fM (fD ((own_B (nar .byte (fP x0)) (nar .byte (fP x1)) (nar .byte (fP x2)) (nar .byte (fP x3))) (own_s x4 (3 : Int32)).toInt.toNat)) (0 : Int32)) * (100 : Int32))) + ((fM (fD ((own_B (nar .byte (fP x0)) (nar .byte (fP x1)) (nar .byte (fP x2)) (nar .byte (fP x3))) ((own_s x4 (3 : Int32)).toInt.toNat + 1))) (0 : Int32)) * (10 : Int32)))), .val (.int (fD ((own_B (nar .byte (fP x0)) (nar .byte (fP x1)) (nar .byte (fP x2)) (nar .byte (fP x3))) ((own_s x4 (3 : Int32)).toInt.toNat + 2))))] [] := by
      by_cases c203_432 : (fD ((own_B (nar .byte (fP x0)) (nar .byte (fP x1)) (nar .byte (fP x2)) (nar .byte (fP x3))) ((own_s x4 (3 : Int32)).toInt.toNat + 2))) < (0 : Int32)
      · have G433 := G432.ifN at_203 206 (Jvm.Free.XT.i0_ge_f c203_432)
        have G434 := G433.iconst (v := (0 : Int32)) (pc' := 207) at_206
        have G435 := G434.istore (L' := #[.val (.int x0), .val (.int x1), .val (.int x2), .val (.int x3), .val (.int x4), .val (.int x5), .val (.ref a2), .val (.int (3 : Int32)), .val (.int ((x4 &&& (2147483647 : Int32)) % ((5 : Int32) - (3 : Int32)))), .val (.int (own_D (own_B (nar .byte (fP x0)) (nar .byte (fP x1)) (nar .byte (fP x2)) (nar .byte (fP x3))) 3 (own_s x4 (3 : Int32)).toInt.toNat (0 : Int32))), .val (.ref a336), .val (.int (0 : Int32)), .val (.int (((0 : Int32) + ((fM (fD ((own_B (nar .byte (fP x0)) (nar .byte (fP x1)) (nar .byte (fP x2)) (nar .byte (fP x3))) (own_s x4 (3 : Int32)).toInt.toNat)) (0 : Int32)) * (100 : Int32))) + ((fM (fD ((own_B (nar .byte (fP x0)) (nar .byte (fP x1)) (nar .byte (fP x2)) (nar .byte (fP x3))) ((own_s x4 (3 : Int32)).toInt.toNat + 1))) (0 : Int32)) * (10 : Int32)))), .val (.int (fD ((own_B (nar .byte (fP x0)) (nar .byte (fP x1)) (nar .byte (fP x2)) (nar .byte (fP x3))) ((own_s x4 (3 : Int32)).toInt.toNat + 2))))]) (pc' := 209) at_207 rfl
        exact ⟨(0 : Int32), by rw [if_pos c203_432], G435⟩
      · have G436 := G432.ifY at_203 209 (Jvm.Free.XT.i0_ge_t c203_432)
        exact ⟨z2, by rw [if_neg c203_432], G436⟩
    have G438 := G437.iload (v := (((0 : Int32) + ((fM (fD ((own_B (nar .byte (fP x0)) (nar .byte (fP x1)) (nar .byte (fP x2)) (nar .byte (fP x3))) (own_s x4 (3 : Int32)).toInt.toNat)) (0 : Int32)) * (100 : Int32))) + ((fM (fD ((own_B (nar .byte (fP x0)) (nar .byte (fP x1)) (nar .byte (fP x2)) (nar .byte (fP x3))) ((own_s x4 (3 : Int32)).toInt.toNat + 1))) (0 : Int32)) * (10 : Int32)))) (pc' := 211) at_209 rfl
    have G439 := G438.iload (v := (fD ((own_B (nar .byte (fP x0)) (nar .byte (fP x1)) (nar .byte (fP x2)) (nar .byte (fP x3))) ((own_s x4 (3 : Int32)).toInt.toNat + 2)))) (pc' := 213) at_211 rfl
    have G440 := G439.iconst (v := (0 : Int32)) (pc' := 214) at_213
    obtain ⟨v441, h441, ⟨ev441, eh441⟩, g441⟩ := G440.callS (argsL := [(.int (fD ((own_B (nar .byte (fP x0)) (nar .byte (fP x1)) (nar .byte (fP x2)) (nar .byte (fP x3))) ((own_s x4 (3 : Int32)).toInt.toNat + 2)))), (.int (0 : Int32))]) (rest := [(.int (((0 : Int32) + ((fM (fD ((own_B (nar .byte (fP x0)) (nar .byte (fP x1)) (nar .byte (fP x2)) (nar .byte (fP x3))) (own_s x4 (3 : Int32)).toInt.toNat)) (0 : Int32)) * (100 : Int32))) + ((fM (fD ((own_B (nar .byte (fP x0)) (nar .byte (fP x1)) (nar .byte (fP x2)) (nar .byte (fP x3))) ((own_s x4 (3 : Int32)).toInt.toNat + 1))) (0 : Int32)) * (10 : Int32))))]) (pc' := 217) (k' := 2) (j' := 8) (cn4 l Z a0 hw (fD ((own_B (nar .byte (fP x0)) (nar .byte (fP x1)) (nar .byte (fP x2)) (nar .byte (fP x3))) ((own_s x4 (3 : Int32)).toInt.toNat + 2))) (0 : Int32) h361 n0 G440.size) rfl (hw _ (List.mem_of_getElem? (i := 14) rfl)) (hw _ (List.mem_of_getElem? (i := 15) rfl)) (hw _ (List.mem_of_getElem? (i := 16) rfl)) (hw _ (List.mem_of_getElem? (i := 17) rfl)) (by decide) at_214 pd3 rfl (W := 1) rfl rfl (by decide) (by decide) (by decide) (by decide) rfl rfl rfl
    subst ev441
    rw [eh441] at g441
    have G441 := g441 [(.int (fM (fD ((own_B (nar .byte (fP x0)) (nar .byte (fP x1)) (nar .byte (fP x2)) (nar .byte (fP x3))) ((own_s x4 (3 : Int32)).toInt.toNat + 2))) (0 : Int32))), (.int (((0 : Int32) + ((fM (fD ((own_B (nar .byte (fP x0)) (nar .byte (fP x1)) (nar .byte (fP x2)) (nar .byte (fP x3))) (own_s x4 (3 : Int32)).toInt.toNat)) (0 : Int32)) * (100 : Int32))) + ((fM (fD ((own_B (nar .byte (fP x0)) (nar .byte (fP x1)) (nar .byte (fP x2)) (nar .byte (fP x3))) ((own_s x4 (3 : Int32)).toInt.toNat + 1))) (0 : Int32)) * (10 : Int32))))] rfl
    have G442 := G441.aload (v := (.ref a336)) (pc' := 219) at_217 rfl
    have G443 := G442.iload (v := (3 : Int32)) (pc' := 221) at_219 rfl
    have G444 := G443.iconst (v := (3 : Int32)) (pc' := 222) at_221
    have G445 := G444.isub (pc' := 223) at_222
    have G446 := G445.ldI (i := 0) (v := (.int (1 : Int32))) (pc' := 224) V363 (by decide) rfl at_223
    have G447 := G446.imul (pc' := 225) at_224
    have G448 := G447.iadd (pc' := 226) at_225
    have G449 := G448.istore (L' := #[.val (.int x0), .val (.int x1), .val (.int x2), .val (.int x3), .val (.int x4), .val (.int x5), .val (.ref a2), .val (.int (3 : Int32)), .val (.int ((x4 &&& (2147483647 : Int32)) % ((5 : Int32) - (3 : Int32)))), .val (.int (own_D (own_B (nar .byte (fP x0)) (nar .byte (fP x1)) (nar .byte (fP x2)) (nar .byte (fP x3))) 3 (own_s x4 (3 : Int32)).toInt.toNat (0 : Int32))), .val (.ref a336), .val (.int z3), .val (.int ((((0 : Int32) + ((fM (fD ((own_B (nar .byte (fP x0)) (nar .byte (fP x1)) (nar .byte (fP x2)) (nar .byte (fP x3))) (own_s x4 (3 : Int32)).toInt.toNat)) (0 : Int32)) * (100 : Int32))) + ((fM (fD ((own_B (nar .byte (fP x0)) (nar .byte (fP x1)) (nar .byte (fP x2)) (nar .byte (fP x3))) ((own_s x4 (3 : Int32)).toInt.toNat + 1))) (0 : Int32)) * (10 : Int32))) + ((fM (fD ((own_B (nar .byte (fP x0)) (nar .byte (fP x1)) (nar .byte (fP x2)) (nar .byte (fP x3))) ((own_s x4 (3 : Int32)).toInt.toNat + 2))) (0 : Int32)) * (1 : Int32)))), .val (.int (fD ((own_B (nar .byte (fP x0)) (nar .byte (fP x1)) (nar .byte (fP x2)) (nar .byte (fP x3))) ((own_s x4 (3 : Int32)).toInt.toNat + 2))))]) (pc' := 228) at_226 rfl
    have G450 := G449.iload (v := (3 : Int32)) (pc' := 230) at_228 rfl
    have G451 := G450.iconst (v := (3 : Int32)) (pc' := 231) at_230
    have G452 := G451.icmpY at_231 273 (Jvm.Free.XT.ii_le_t (by decide))
    have G453 := G452.iload (v := z3) (pc' := 275) at_273 rfl
    obtain ⟨zw, e_zw, G459⟩ : ∃ zw : Int32, zw = (if z3 = (0 : Int32) then (-1 : Int32) else ((((0 : Int32) + ((fM (fD ((own_B (nar .byte (fP x0)) (nar .byte (fP x1)) (nar .byte (fP x2)) (nar .byte (fP x3))) (own_s x4 (3 : Int32)).toInt.toNat)) (0 : Int32)) * (100 : Int32))) + ((fM (fD ((own_B (nar .byte (fP x0)) (nar .byte (fP x1)) (nar .byte (fP x2)) (nar .byte (fP x3))) ((own_s x4 (3 : Int32)).toInt.toNat + 1))) (0 : Int32)) * (10 : Int32))) + ((fM (fD ((own_B (nar .byte (fP x0)) (nar .byte (fP x1)) (nar .byte (fP x2)) (nar .byte (fP x3))) ((own_s x4 (3 : Int32)).toInt.toNat + 2))) (0 : Int32)) * (1 : Int32)))) ∧ Go p l e room_1 s m #[(.int x0), (.int x1), (.int x2), (.int x3), (.int x4), (.int x5)] below meth c Z x.cls code maxLocals ret n0 s₀ h361 2 8 284 #[.val (.int x0), .val (.int x1), .val (.int x2), .val (.int x3), .val (.int x4), .val (.int x5), .val (.ref a2), .val (.int (3 : Int32)), .val (.int ((x4 &&& (2147483647 : Int32)) % ((5 : Int32) - (3 : Int32)))), .val (.int (own_D (own_B (nar .byte (fP x0)) (nar .byte (fP x1)) (nar .byte (fP x2)) (nar .byte (fP x3))) 3 (own_s x4 (3 : Int32)).toInt.toNat (0 : Int32))), .val (.ref a336), .val (.int z3), .val (.int ((((0 : Int32) + ((fM (fD ((own_B (nar .byte (fP x0)) (nar .byte (fP x1)) (nar .byte (fP x2)) (nar .byte (fP x3))) (own_s x4 (3 : Int32)).toInt.toNat)) (0 : Int32)) * (100 : Int32))) + ((fM (fD ((own_B (nar .byte (fP x0)) (nar .byte (fP x1)) (nar .byte (fP x2)) (nar .byte (fP x3))) ((own_s x4 (3 : Int32)).toInt.toNat + 1))) (0 : Int32)) * (10 : Int32))) + ((fM (fD ((own_B (nar .byte (fP x0)) (nar .byte (fP x1)) (nar .byte (fP x2)) (nar .byte (fP x3))) ((own_s x4 (3 : Int32)).toInt.toNat + 2))) (0 : Int32)) * (1 : Int32)))), .val (.int (fD ((own_B (nar .byte (fP x0)) (nar .byte (fP x1)) (nar .byte (fP x2)) (nar .byte (fP x3))) ((own_s x4 (3 : Int32)).toInt.toNat + 2))))] [(.int zw)] := by
      by_cases c275_453 : z3 = (0 : Int32)
      · have G454 := G453.ifY at_275 283 (Jvm.Free.XT.i0_eq_t c275_453)
        have G455 := G454.iconst (v := (-1 : Int32)) (pc' := 284) at_283
        exact ⟨(-1 : Int32), by rw [if_pos c275_453], G455⟩
      · have G456 := G453.ifN at_275 278 (Jvm.Free.XT.i0_eq_f c275_453)
        have G457 := G456.iload (v := ((((0 : Int32) + ((fM (fD ((own_B (nar .byte (fP x0)) (nar .byte (fP x1)) (nar .byte (fP x2)) (nar .byte (fP x3))) (own_s x4 (3 : Int32)).toInt.toNat)) (0 : Int32)) * (100 : Int32))) + ((fM (fD ((own_B (nar .byte (fP x0)) (nar .byte (fP x1)) (nar .byte (fP x2)) (nar .byte (fP x3))) ((own_s x4 (3 : Int32)).toInt.toNat + 1))) (0 : Int32)) * (10 : Int32))) + ((fM (fD ((own_B (nar .byte (fP x0)) (nar .byte (fP x1)) (nar .byte (fP x2)) (nar .byte (fP x3))) ((own_s x4 (3 : Int32)).toInt.toNat + 2))) (0 : Int32)) * (1 : Int32)))) (pc' := 280) at_278 rfl
        have G458 := G457.goto at_280 284
        exact ⟨((((0 : Int32) + ((fM (fD ((own_B (nar .byte (fP x0)) (nar .byte (fP x1)) (nar .byte (fP x2)) (nar .byte (fP x3))) (own_s x4 (3 : Int32)).toInt.toNat)) (0 : Int32)) * (100 : Int32))) + ((fM (fD ((own_B (nar .byte (fP x0)) (nar .byte (fP x1)) (nar .byte (fP x2)) (nar .byte (fP x3))) ((own_s x4 (3 : Int32)).toInt.toNat + 1))) (0 : Int32)) * (10 : Int32))) + ((fM (fD ((own_B (nar .byte (fP x0)) (nar .byte (fP x1)) (nar .byte (fP x2)) (nar .byte (fP x3))) ((own_s x4 (3 : Int32)).toInt.toNat + 2))) (0 : Int32)) * (1 : Int32))), by rw [if_neg c275_453], G458⟩
    have G460 := G459.istore (L' := #[.val (.int x0), .val (.int x1), .val (.int x2), .val (.int x3), .val (.int x4), .val (.int x5), .val (.ref a2), .val (.int (3 : Int32)), .val (.int ((x4 &&& (2147483647 : Int32)) % ((5 : Int32) - (3 : Int32)))), .val (.int (own_D (own_B (nar .byte (fP x0)) (nar .byte (fP x1)) (nar .byte (fP x2)) (nar .byte (fP x3))) 3 (own_s x4 (3 : Int32)).toInt.toNat (0 : Int32))), .val (.ref a336), .val (.int z3), .val (.int ((((0 : Int32) + ((fM (fD ((own_B (nar .byte (fP x0)) (nar .byte (fP x1)) (nar .byte (fP x2)) (nar .byte (fP x3))) (own_s x4 (3 : Int32)).toInt.toNat)) (0 : Int32)) * (100 : Int32))) + ((fM (fD ((own_B (nar .byte (fP x0)) (nar .byte (fP x1)) (nar .byte (fP x2)) (nar .byte (fP x3))) ((own_s x4 (3 : Int32)).toInt.toNat + 1))) (0 : Int32)) * (10 : Int32))) + ((fM (fD ((own_B (nar .byte (fP x0)) (nar .byte (fP x1)) (nar .byte (fP x2)) (nar .byte (fP x3))) ((own_s x4 (3 : Int32)).toInt.toNat + 2))) (0 : Int32)) * (1 : Int32)))), .val (.int zw)]) (pc' := 286) at_284 rfl
    have G461 := G460.iload (v := (own_D (own_B (nar .byte (fP x0)) (nar .byte (fP x1)) (nar .byte (fP x2)) (nar .byte (fP x3))) 3 (own_s x4 (3 : Int32)).toInt.toNat (0 : Int32))) (pc' := 288) at_286 rfl
    have G462 := G461.iload (v := zw) (pc' := 290) at_288 rfl
    have G463 := G462.icmpN at_290 293 (Jvm.Free.XT.ii_ne_f (own_fin3 (own_B (nar .byte (fP x0)) (nar .byte (fP x1)) (nar .byte (fP x2)) (nar .byte (fP x3))) (own_s x4 (3 : Int32)).toInt.toNat z1 z2 z3 zw e_z1 e_z2 e_z3 e_zw))
    have G464 := G463.iconst (v := (1 : Int32)) (pc' := 294) at_293
    have G465 := G464.goto at_294 298
    exact G465.retZ at_298 rfl (Or.inr rfl) rfl
  · rw [hc] at G33
    have G466 := G33.istore (L' := #[.val (.int x0), .val (.int x1), .val (.int x2), .val (.int x3), .val (.int x4), .val (.int x5), .val (.ref a2), .val (.int (4 : Int32)), .unset, .unset, .unset, .unset, .unset, .unset]) (pc' := 42) at_40 rfl
    have G467 := G466.iload (v := x4) (pc' := 44) at_42 rfl
    have G468 := G467.ldc (v := (2147483647 : Int32)) (pc' := 46) (hw _ (List.mem_of_getElem? (i := 5) rfl)) at_44
    have G469 := G468.iand (pc' := 47) at_46
    have G470 := G469.iconst (v := (5 : Int32)) (pc' := 48) at_47
    have G471 := G470.iload (v := (4 : Int32)) (pc' := 50) at_48 rfl
    have G472 := G471.isub (pc' := 51) at_50
    have G473 := G472.irem (pc' := 52) at_51 (by decide)
    have G474 := G473.istore (L' := #[.val (.int x0), .val (.int x1), .val (.int x2), .val (.int x3), .val (.int x4), .val (.int x5), .val (.ref a2), .val (.int (4 : Int32)), .val (.int ((x4 &&& (2147483647 : Int32)) % ((5 : Int32) - (4 : Int32)))), .unset, .unset, .unset, .unset, .unset]) (pc' := 54) at_52 rfl
    have G475 := G474.aload (v := (.ref a2)) (pc' := 56) at_54 rfl
    have G476 := G475.iload (v := ((x4 &&& (2147483647 : Int32)) % ((5 : Int32) - (4 : Int32)))) (pc' := 58) at_56 rfl
    have G477 := G476.iload (v := (4 : Int32)) (pc' := 60) at_58 rfl
    obtain ⟨v478, h478, ⟨ev478, eh478⟩, g478⟩ := G477.callS (argsL := [(.ref a2), (.int ((x4 &&& (2147483647 : Int32)) % ((5 : Int32) - (4 : Int32)))), (.int (4 : Int32))]) (rest := []) (pc' := 63) (k' := 1) (j' := 4) (cn2 l Z a0 hw a2 ((x4 &&& (2147483647 : Int32)) % ((5 : Int32) - (4 : Int32))) (4 : Int32) h26 n0 G477.size [(.int (nar .byte (fP x0))), (.int (nar .byte (fP x1))), (.int (nar .byte (fP x2))), (.int (nar .byte (fP x3)))] V27 (own_B (nar .byte (fP x0)) (nar .byte (fP x1)) (nar .byte (fP x2)) (nar .byte (fP x3))) (own_s x4 (4 : Int32)).toInt.toNat 4 (own_s4 x4 (4 : Int32) 4 (by decide) (by decide)) (own_s3 x4 (4 : Int32) 4 (by decide) (by decide) (4 : Int32) 4 (by decide) (by decide)) (own_s2 x4 (4 : Int32) 4 (by decide) (by decide)) (own_get _ _ _ _)) rfl (hw _ (List.mem_of_getElem? (i := 6) rfl)) (hw _ (List.mem_of_getElem? (i := 7) rfl)) (hw _ (List.mem_of_getElem? (i := 8) rfl)) (hw _ (List.mem_of_getElem? (i := 9) rfl)) (by decide) at_60 pd1 rfl (W := 0) rfl rfl (by decide) (by decide) (by decide) (by decide) rfl rfl rfl
    subst ev478
    rw [eh478] at g478
    have G478 := g478 [(.int (own_D (own_B (nar .byte (fP x0)) (nar .byte (fP x1)) (nar .byte (fP x2)) (nar .byte (fP x3))) 4 (own_s x4 (4 : Int32)).toInt.toNat (0 : Int32)))] rfl
    have G479 := G478.istore (L' := #[.val (.int x0), .val (.int x1), .val (.int x2), .val (.int x3), .val (.int x4), .val (.int x5), .val (.ref a2), .val (.int (4 : Int32)), .val (.int ((x4 &&& (2147483647 : Int32)) % ((5 : Int32) - (4 : Int32)))), .val (.int (own_D (own_B (nar .byte (fP x0)) (nar .byte (fP x1)) (nar .byte (fP x2)) (nar .byte (fP x3))) 4 (own_s x4 (4 : Int32)).toInt.toNat (0 : Int32))), .unset, .unset, .unset, .unset]) (pc' := 65) at_63 rfl
    have G480 := G479.iconst (v := (4 : Int32)) (pc' := 66) at_65
    obtain ⟨a481, h481, ea481, g_a481, X481, V481, G481⟩ := G480.newA (ty := .int) (dv := (.int (0 : Int32))) (N := 4) (cap := 4) (pc' := 68) (k' := 2) (j' := 8) (hw _ (List.mem_of_getElem? (i := 10) rfl)) at_66 rfl rfl (by decide) (by decide) (by decide) rfl rfl rfl (by decide) (by decide)
    have ne482 : a2 ≠ a481 := by rw [ea481]; exact Nat.ne_of_lt V27.lt
    have V483 : Av Z h481 a2 .byte [(.int (nar .byte (fP x0))), (.int (nar .byte (fP x1))), (.int (nar .byte (fP x2))), (.int (nar .byte (fP x3)))] := V27.ext X481
    have V484 : Av Z h481 a481 .int [(.int (0 : Int32)), (.int (0 : Int32)), (.int (0 : Int32)), (.int (0 : Int32))] := V481
    have G485 := G481.dup (pc' := 69) at_68
    have G486 := G485.iconst (v := (0 : Int32)) (pc' := 70) at_69
    have G487 := G486.iconst (v := (1 : Int32)) (pc' := 71) at_70
    obtain ⟨h488, W488, V488, G488⟩ := G487.stI (i := 0) (pc' := 72) V484 g_a481 (by decide) (by show 0 < 4; decide) at_71
    have V489 : Av Z h488 a2 .byte [(.int (nar .byte (fP x0))), (.int (nar .byte (fP x1))), (.int (nar .byte (fP x2))), (.int (nar .byte (fP x3)))] := V483.other W488 ne482
    have V490 : Av Z h488 a481 .int [(.int (1 : Int32)), (.int (0 : Int32)), (.int (0 : Int32)), (.int (0 : Int32))] := V488
    have G491 := G488.dup (pc' := 73) at_72
    have G492 := G491.iconst (v := (1 : Int32)) (pc' := 74) at_73
    have G493 := G492.bipush (v := (10 : Int32)) (pc' := 76) at_74
    obtain ⟨h494, W494, V494, G494⟩ := G493.stI (i := 1) (pc' := 77) V490 g_a481 (by decide) (by show 1 < 4; decide) at_76
    have V495 : Av Z h494 a2 .byte [(.int (nar .byte (fP x0))), (.int (nar .byte (fP x1))), (.int (nar .byte (fP x2))), (.int (nar .byte (fP x3)))] := V489.other W494 ne482
    have V496 : Av Z h494 a481 .int [(.int (1 : Int32)), (.int (10 : Int32)), (.int (0 : Int32)), (.int (0 : Int32))] := V494
    have G497 := G494.dup (pc' := 78) at_77
    have G498 := G497.iconst (v := (2 : Int32)) (pc' := 79) at_78
    have G499 := G498.bipush (v := (100 : Int32)) (pc' := 81) at_79
    obtain ⟨h500, W500, V500, G500⟩ := G499.stI (i := 2) (pc' := 82) V496 g_a481 (by decide) (by show 2 < 4; decide) at_81
    have V501 : Av Z h500 a2 .byte [(.int (nar .byte (fP x0))), (.int (nar .byte (fP x1))), (.int (nar .byte (fP x2))), (.int (nar .byte (fP x3)))] := V495.other W500 ne482
    have V502 : Av Z h500 a481 .int [(.int (1 : Int32)), (.int (10 : Int32)), (.int (100 : Int32)), (.int (0 : Int32))] := V500
    have G503 := G500.dup (pc' := 83) at_82
    have G504 := G503.iconst (v := (3 : Int32)) (pc' := 84) at_83
    have G505 := G504.sipush (v := (1000 : Int32)) (pc' := 87) at_84
    obtain ⟨h506, W506, V506, G506⟩ := G505.stI (i := 3) (pc' := 88) V502 g_a481 (by decide) (by show 3 < 4; decide) at_87
    have V507 : Av Z h506 a2 .byte [(.int (nar .byte (fP x0))), (.int (nar .byte (fP x1))), (.int (nar .byte (fP x2))), (.int (nar .byte (fP x3)))] := V501.other W506 ne482
    have V508 : Av Z h506 a481 .int [(.int (1 : Int32)), (.int (10 : Int32)), (.int (100 : Int32)), (.int (1000 : Int32))] := V506
    have G509 := G506.astore (L' := #[.val (.int x0), .val (.int x1), .val (.int x2), .val (.int x3), .val (.int x4), .val (.int x5), .val (.ref a2), .val (.int (4 : Int32)), .val (.int ((x4 &&& (2147483647 : Int32)) % ((5 : Int32) - (4 : Int32)))), .val (.int (own_D (own_B (nar .byte (fP x0)) (nar .byte (fP x1)) (nar .byte (fP x2)) (nar .byte (fP x3))) 4 (own_s x4 (4 : Int32)).toInt.toNat (0 : Int32))), .val (.ref a481), .unset, .unset, .unset]) (pc' := 90) at_88 rfl
    have G510 := G509.iconst (v := (1 : Int32)) (pc' := 91) at_90
    have G511 := G510.istore (L' := #[.val (.int x0), .val (.int x1), .val (.int x2), .val (.int x3), .val (.int x4), .val (.int x5), .val (.ref a2), .val (.int (4 : Int32)), .val (.int ((x4 &&& (2147483647 : Int32)) % ((5 : Int32) - (4 : Int32)))), .val (.int (own_D (own_B (nar .byte (fP x0)) (nar .byte (fP x1)) (nar .byte (fP x2)) (nar .byte (fP x3))) 4 (own_s x4 (4 : Int32)).toInt.toNat (0 : Int32))), .val (.ref a481), .val (.int (1 : Int32)), .unset, .unset]) (pc' := 93) at_91 rfl
    have G512 := G511.iconst (v := (0 : Int32)) (pc' := 94) at_93
    have G513 := G512.istore (L' := #[.val (.int x0), .val (.int x1), .val (.int x2), .val (.int x3), .val (.int x4), .val (.int x5), .val (.ref a2), .val (.int (4 : Int32)), .val (.int ((x4 &&& (2147483647 : Int32)) % ((5 : Int32) - (4 : Int32)))), .val (.int (own_D (own_B (nar .byte (fP x0)) (nar .byte (fP x1)) (nar .byte (fP x2)) (nar .byte (fP x3))) 4 (own_s x4 (4 : Int32)).toInt.toNat (0 : Int32))), .val (.ref a481), .val (.int (1 : Int32)), .val (.int (0 : Int32)), .unset]) (pc' := 96) at_94 rfl
    have G514 := G513.iload (v := (4 : Int32)) (pc' := 98) at_96 rfl
    have G515 := G514.ifN at_98 101 (Jvm.Free.XT.i0_le_f (by decide))
    have G516 := G515.aload (v := (.ref a2)) (pc' := 103) at_101 rfl
    have G517 := G516.iload (v := ((x4 &&& (2147483647 : Int32)) % ((5 : Int32) - (4 : Int32)))) (pc' := 105) at_103 rfl
    have G518 := G517.ldB (i := (own_s x4 (4 : Int32)).toInt.toNat) (v := (.int ((own_B (nar .byte (fP x0)) (nar .byte (fP x1)) (nar .byte (fP x2)) (nar .byte (fP x3))) (own_s x4 (4 : Int32)).toInt.toNat))) (pc' := 106) V507 (own_s2 x4 (4 : Int32) 4 (by decide) (by decide)) (own_get _ _ _ _ _ (by have := own_s4 x4 (4 : Int32) 4 (by decide) (by decide); omega)) at_105
    obtain ⟨v519, h519, ⟨ev519, eh519⟩, g519⟩ := G518.callS (argsL := [(.int ((own_B (nar .byte (fP x0)) (nar .byte (fP x1)) (nar .byte (fP x2)) (nar .byte (fP x3))) (own_s x4 (4 : Int32)).toInt.toNat))]) (rest := []) (pc' := 109) (k' := 2) (j' := 8) (cn3 l Z a0 hw ((own_B (nar .byte (fP x0)) (nar .byte (fP x1)) (nar .byte (fP x2)) (nar .byte (fP x3))) (own_s x4 (4 : Int32)).toInt.toNat) h506 n0 G518.size) rfl (hw _ (List.mem_of_getElem? (i := 11) rfl)) (hw _ (List.mem_of_getElem? (i := 12) rfl)) (hw _ (List.mem_of_getElem? (i := 3) rfl)) (hw _ (List.mem_of_getElem? (i := 13) rfl)) (by decide) at_106 pd2 rfl (W := 0) rfl rfl (by decide) (by decide) (by decide) (by decide) rfl rfl rfl
    subst ev519
    rw [eh519] at g519
    have G519 := g519 [(.int (fD ((own_B (nar .byte (fP x0)) (nar .byte (fP x1)) (nar .byte (fP x2)) (nar .byte (fP x3))) (own_s x4 (4 : Int32)).toInt.toNat)))] rfl
    have G520 := G519.istore (L' := #[.val (.int x0), .val (.int x1), .val (.int x2), .val (.int x3), .val (.int x4), .val (.int x5), .val (.ref a2), .val (.int (4 : Int32)), .val (.int ((x4 &&& (2147483647 : Int32)) % ((5 : Int32) - (4 : Int32)))), .val (.int (own_D (own_B (nar .byte (fP x0)) (nar .byte (fP x1)) (nar .byte (fP x2)) (nar .byte (fP x3))) 4 (own_s x4 (4 : Int32)).toInt.toNat (0 : Int32))), .val (.ref a481), .val (.int (1 : Int32)), .val (.int (0 : Int32)), .val (.int (fD ((own_B (nar .byte (fP x0)) (nar .byte (fP x1)) (nar .byte (fP x2)) (nar .byte (fP x3))) (own_s x4 (4 : Int32)).toInt.toNat)))]) (pc' := 111) at_109 rfl
    have G521 := G520.iload (v := (fD ((own_B (nar .byte (fP x0)) (nar .byte (fP x1)) (nar .byte (fP x2)) (nar .byte (fP x3))) (own_s x4 (4 : Int32)).toInt.toNat))) (pc' := 113) at_111 rfl
    obtain ⟨z1, e_z1, G526⟩ : ∃ z1 : Int32, z1 = (if (fD ((own_B (nar .byte (fP x0)) (nar .byte (fP x1)) (nar .byte (fP x2)) (nar .byte (fP x3))) (own_s x4 (4 : Int32)).toInt.toNat)) < (0 : Int32) then (0 : Int32) else (1 : Int32)) ∧ Go p l e room_1 s m #[(.int x0), (.int x1), (.int x2), (.int x3), (.int x4), (.int x5)] below meth c Z x.cls code maxLocals ret n0 s₀ h506 2 8 119 #[.val (.int x0), .val (.int x1), .val (.int x2), .val (.int x3), .val (.int x4), .val (.int x5), .val (.ref a2), .val (.int (4 : Int32)), .val (.int ((x4 &&& (2147483647 : Int32)) % ((5 : Int32) - (4 : Int32)))), .val (.int (own_D (own_B (nar .byte (fP x0)) (nar .byte (fP x1)) (nar .byte (fP x2)) (nar .byte (fP x3))) 4 (own_s x4 (4 : Int32)).toInt.toNat (0 : Int32))), .val (.ref a481), .val (.int z1), .val (.int (0 : Int32)), .val (.int (fD ((own_B (nar .byte (fP x0)) (nar .byte (fP x1)) (nar .byte (fP x2)) (nar .byte (fP x3))) (own_s x4 (4 : Int32)).toInt.toNat)))] [] := by
      by_cases c113_521 : (fD ((own_B (nar .byte (fP x0)) (nar .byte (fP x1)) (nar .byte (fP x2)) (nar .byte (fP x3))) (own_s x4 (4 : Int32)).toInt.toNat)) < (0 : Int32)
      · have G522 := G521.ifN at_113 116 (Jvm.Free.XT.i0_ge_f c113_521)
        have G523 := G522.iconst (v := (0 : Int32)) (pc' := 117) at_116
        have G524 := G523.istore (L' := #[.val (.int x0), .val (.int x1), .val (.int x2), .val (.int x3), .val (.int x4), .val (.int x5), .val (.ref a2), .val (.int (4 : Int32)), .val (.int ((x4 &&& (2147483647 : Int32)) % ((5 : Int32) - (4 : Int32)))), .val (.int (own_D (own_B (nar .byte (fP x0)) (nar .byte (fP x1)) (nar .byte (fP x2)) (nar .byte (fP x3))) 4 (own_s x4 (4 : Int32)).toInt.toNat (0 : Int32))), .val (.ref a481), .val (.int (0 : Int32)), .val (.int (0 : Int32)), .val (.int (fD ((own_B (nar .byte (fP x0)) (nar .byte (fP x1)) (nar .byte (fP x2)) (nar .byte (fP x3))) (own_s x4 (4 : Int32)).toInt.toNat)))]) (pc' := 119) at_117 rfl
        exact ⟨(0 : Int32), by rw [if_pos c113_521], G524⟩
      · have G525 := G521.ifY at_113 119 (Jvm.Free.XT.i0_ge_t c113_521)
        exact ⟨(1 : Int32), by rw [if_neg c113_521], G525⟩
    have G527 := G526.iload (v := (0 : Int32)) (pc' := 121) at_119 rfl
    have G528 := G527.iload (v := (fD ((own_B (nar .byte (fP x0)) (nar .byte (fP x1)) (nar .byte (fP x2)) (nar .byte (fP x3))) (own_s x4 (4 : Int32)).toInt.toNat))) (pc' := 123) at_121 rfl
    have G529 := G528.iconst (v := (0 : Int32)) (pc' := 124) at_123
    obtain ⟨v530, h530, ⟨ev530, eh530⟩, g530⟩ := G529.callS (argsL := [(.int (fD ((own_B (nar .byte (fP x0)) (nar .byte (fP x1)) (nar .byte (fP x2)) (nar .byte (fP x3))) (own_s x4 (4 : Int32)).toInt.toNat))), (.int (0 : Int32))]) (rest := [(.int (0 : Int32))]) (pc' := 127) (k' := 2) (j' := 8) (cn4 l Z a0 hw (fD ((own_B (nar .byte (fP x0)) (nar .byte (fP x1)) (nar .byte (fP x2)) (nar .byte (fP x3))) (own_s x4 (4 : Int32)).toInt.toNat)) (0 : Int32) h506 n0 G529.size) rfl (hw _ (List.mem_of_getElem? (i := 14) rfl)) (hw _ (List.mem_of_getElem? (i := 15) rfl)) (hw _ (List.mem_of_getElem? (i := 16) rfl)) (hw _ (List.mem_of_getElem? (i := 17) rfl)) (by decide) at_124 pd3 rfl (W := 1) rfl rfl (by decide) (by decide) (by decide) (by decide) rfl rfl rfl
    subst ev530
    rw [eh530] at g530
    have G530 := g530 [(.int (fM (fD ((own_B (nar .byte (fP x0)) (nar .byte (fP x1)) (nar .byte (fP x2)) (nar .byte (fP x3))) (own_s x4 (4 : Int32)).toInt.toNat)) (0 : Int32))), (.int (0 : Int32))] rfl
    have G531 := G530.aload (v := (.ref a481)) (pc' := 129) at_127 rfl
    have G532 := G531.iload (v := (4 : Int32)) (pc' := 131) at_129 rfl
    have G533 := G532.iconst (v := (1 : Int32)) (pc' := 132) at_131
    have G534 := G533.isub (pc' := 133) at_132
    have G535 := G534.ldI (i := 3) (v := (.int (1000 : Int32))) (pc' := 134) V508 (by decide) rfl at_133
    have G536 := G535.imul (pc' := 135) at_134
    have G537 := G536.iadd (pc' := 136) at_135
    have G538 := G537.istore (L' := #[.val (.int x0), .val (.int x1), .val (.int x2), .val (.int x3), .val (.int x4), .val (.int x5), .val (.ref a2), .val (.int (4 : Int32)), .val (.int ((x4 &&& (2147483647 : Int32)) % ((5 : Int32) - (4 : Int32)))), .val (.int (own_D (own_B (nar .byte (fP x0)) (nar .byte (fP x1)) (nar .byte (fP x2)) (nar .byte (fP x3))) 4 (own_s x4 (4 : Int32)).toInt.toNat (0 : Int32))), .val (.ref a481), .val (.int z1), .val (.int ((0 : Int32) + ((fM (fD ((own_B (nar .byte (fP x0)) (nar .byte (fP x1)) (nar .byte (fP x2)) (nar .byte (fP x3))) (own_s x4 (4 : Int32)).toInt.toNat)) (0 : Int32)) * (1000 : Int32)))), .val (.int (fD ((own_B (nar .byte (fP x0)) (nar .byte (fP x1)) (nar .byte (fP x2)) (nar .byte (fP x3))) (own_s x4 (4 : Int32)).toInt.toNat)))]) (pc' := 138) at_136 rfl
    have G539 := G538.iload (v := (4 : Int32)) (pc' := 140) at_138 rfl
    have G540 := G539.iconst (v := (1 : Int32)) (pc' := 141) at_140
    have G541 := G540.icmpN at_141 144 (Jvm.Free.XT.ii_le_f (by decide))
    have G542 := G541.aload (v := (.ref a2)) (pc' := 146) at_144 rfl
    have G543 := G542.iload (v := ((x4 &&& (2147483647 : Int32)) % ((5 : Int32) - (4 : Int32)))) (pc' := 148) at_146 rfl
    have G544 := G543.iconst (v := (1 : Int32)) (pc' := 149) at_148
    have G545 := G544.iadd (pc' := 150) at_149
    have G546 := G545.ldB (i := ((own_s x4 (4 : Int32)).toInt.toNat + 1)) (v := (.int ((own_B (nar .byte (fP x0)) (nar .byte (fP x1)) (nar .byte (fP x2)) (nar .byte (fP x3))) ((own_s x4 (4 : Int32)).toInt.toNat + 1)))) (pc' := 151) V507 (own_s3 x4 (4 : Int32) 4 (by decide) (by decide) (1 : Int32) 1 (by decide) (by decide)) (own_get _ _ _ _ _ (by have := own_s4 x4 (4 : Int32) 4 (by decide) (by decide); omega)) at_150
    obtain ⟨v547, h547, ⟨ev547, eh547⟩, g547⟩ := G546.callS (argsL := [(.int ((own_B (nar .byte (fP x0)) (nar .byte (fP x1)) (nar .byte (fP x2)) (nar .byte (fP x3))) ((own_s x4 (4 : Int32)).toInt.toNat + 1)))]) (rest := []) (pc' := 154) (k' := 2) (j' := 8) (cn3 l Z a0 hw ((own_B (nar .byte (fP x0)) (nar .byte (fP x1)) (nar .byte (fP x2)) (nar .byte (fP x3))) ((own_s x4 (4 : Int32)).toInt.toNat + 1)) h506 n0 G546.size) rfl (hw _ (List.mem_of_getElem? (i := 11) rfl)) (hw _ (List.mem_of_getElem? (i := 12) rfl)) (hw _ (List.mem_of_getElem? (i := 3) rfl)) (hw _ (List.mem_of_getElem? (i := 13) rfl)) (by decide) at_151 pd2 rfl (W := 0) rfl rfl (by decide) (by decide) (by decide) (by decide) rfl rfl rfl
    subst ev547
    rw [eh547] at g547
    have G547 := g547 [(.int (fD ((own_B (nar .byte (fP x0)) (nar .byte (fP x1)) (nar .byte (fP x2)) (nar .byte (fP x3))) ((own_s x4 (4 : Int32)).toInt.toNat + 1))))] rfl
    have G548 := G547.istore (L' := #[.val (.int x0), .val (.int x1), .val (.int x2), .val (.int x3), .val (.int x4), .val (.int x5), .val (.ref a2), .val (.int (4 : Int32)), .val (.int ((x4 &&& (2147483647 : Int32)) % ((5 : Int32) - (4 : Int32)))), .val (.int (own_D (own_B (nar .byte (fP x0)) (nar .byte (fP x1)) (nar .byte (fP x2)) (nar .byte (fP x3))) 4 (own_s x4 (4 : Int32)).toInt.toNat (0 : Int32))), .val (.ref a481), .val (.int z1), .val (.int ((0 : Int32) + ((fM (fD ((own_B (nar .byte (fP x0)) (nar .byte (fP x1)) (nar .byte (fP x2)) (nar .byte (fP x3))) (own_s x4 (4 : Int32)).toInt.toNat)) (0 : Int32)) * (1000 : Int32)))), .val (.int (fD ((own_B (nar .byte (fP x0)) (nar .byte (fP x1)) (nar .byte (fP x2)) (nar .byte (fP x3))) ((own_s x4 (4 : Int32)).toInt.toNat + 1))))]) (pc' := 156) at_154 rfl
    have G549 := G548.iload (v := (fD ((own_B (nar .byte (fP x0)) (nar .byte (fP x1)) (nar .byte (fP x2)) (nar .byte (fP x3))) ((own_s x4 (4 : Int32)).toInt.toNat + 1)))) (pc' := 158) at_156 rfl
    obtain ⟨z2, e_z2, G554⟩ : ∃ z2 : Int32, z2 = (if (fD ((own_B (nar .byte (fP x0)) (nar .byte (fP x1)) (nar .byte (fP x2)) (nar .byte (fP x3))) ((own_s x4 (4 : Int32)).toInt.toNat + 1))) < (0 : Int32) then (0 : Int32) else z1) ∧ Go p l e room_1 s m #[(.int x0), (.int x1), (.int x2), (.int x3), (.int x4), (.int x5)] below meth c Z x.cls code maxLocals ret n0 s₀ h506 2 8 164 #[.val (.int x0), .val (.int x1), .val (.int x2), .val (.int x3), .val (.int x4), .val (.int x5), .val (.ref a2), .val (.int (4 : Int32)), .val (.int ((x4 &&& (2147483647 : Int32)) % ((5 : Int32) - (4 : Int32)))), .val (.int (own_D (own_B (nar .byte (fP x0)) (nar .byte (fP x1)) (nar .byte (fP x2)) (nar .byte (fP x3))) 4 (own_s x4 (4 : Int32)).toInt.toNat (0 : Int32))), .val (.ref a481), .val (.int z2), .val (.int ((0 : Int32) + ((fM (fD ((own_B (nar .byte (fP x0)) (nar .byte (fP x1)) (nar .byte (fP x2)) (nar .byte (fP x3))) (own_s x4 (4 : Int32)).toInt.toNat)) (0 : Int32)) * (1000 : Int32)))), .val (.int (fD ((own_B (nar .byte (fP x0)) (nar .byte (fP x1)) (nar .byte (fP x2)) (nar .byte (fP x3))) ((own_s x4 (4 : Int32)).toInt.toNat + 1))))] [] := by
      by_cases c158_549 : (fD ((own_B (nar .byte (fP x0)) (nar .byte (fP x1)) (nar .byte (fP x2)) (nar .byte (fP x3))) ((own_s x4 (4 : Int32)).toInt.toNat + 1))) < (0 : Int32)
      · have G550 := G549.ifN at_158 161 (Jvm.Free.XT.i0_ge_f c158_549)
        have G551 := G550.iconst (v := (0 : Int32)) (pc' := 162) at_161
        have G552 := G551.istore (L' := #[.val (.int x0), .val (.int x1), .val (.int x2), .val (.int x3), .val (.int x4), .val (.int x5), .val (.ref a2), .val (.int (4 : Int32)), .val (.int ((x4 &&& (2147483647 : Int32)) % ((5 : Int32) - (4 : Int32)))), .val (.int (own_D (own_B (nar .byte (fP x0)) (nar .byte (fP x1)) (nar .byte (fP x2)) (nar .byte (fP x3))) 4 (own_s x4 (4 : Int32)).toInt.toNat (0 : Int32))), .val (.ref a481), .val (.int (0 : Int32)), .val (.int ((0 : Int32) + ((fM (fD ((own_B (nar .byte (fP x0)) (nar .byte (fP x1)) (nar .byte (fP x2)) (nar .byte (fP x3))) (own_s x4 (4 : Int32)).toInt.toNat)) (0 : Int32)) * (1000 : Int32)))), .val (.int (fD ((own_B (nar .byte (fP x0)) (nar .byte (fP x1)) (nar .byte (fP x2)) (nar .byte (fP x3))) ((own_s x4 (4 : Int32)).toInt.toNat + 1))))]) (pc' := 164) at_162 rfl
        exact ⟨(0 : Int32), by rw [if_pos c158_549], G552⟩
      · have G553 := G549.ifY at_158 164 (Jvm.Free.XT.i0_ge_t c158_549)
        exact ⟨z1, by rw [if_neg c158_549], G553⟩
    have G555 := G554.iload (v := ((0 : Int32) + ((fM (fD ((own_B (nar .byte (fP x0)) (nar .byte (fP x1)) (nar .byte (fP x2)) (nar .byte (fP x3))) (own_s x4 (4 : Int32)).toInt.toNat)) (0 : Int32)) * (1000 : Int32)))) (pc' := 166) at_164 rfl
    have G556 := G555.iload (v := (fD ((own_B (nar .byte (fP x0)) (nar .byte (fP x1)) (nar .byte (fP x2)) (nar .byte (fP x3))) ((own_s x4 (4 : Int32)).toInt.toNat + 1)))) (pc' := 168) at_166 rfl
    have G557 := G556.iconst (v := (0 : Int32)) (pc' := 169) at_168
    obtain ⟨v558, h558, ⟨ev558, eh558⟩, g558⟩ := G557.callS (argsL := [(.int (fD ((own_B (nar .byte (fP x0)) (nar .byte (fP x1)) (nar .byte (fP x2)) (nar .byte (fP x3))) ((own_s x4 (4 : Int32)).toInt.toNat + 1)))), (.int (0 : Int32))]) (rest := [(.int ((0 : Int32) + ((fM (fD ((own_B (nar .byte (fP x0)) (nar .byte (fP x1)) (nar .byte (fP x2)) (nar .byte (fP x3))) (own_s x4 (4 : Int32)).toInt.toNat)) (0 : Int32)) * (1000 : Int32))))]) (pc' := 172) (k' := 2) (j' := 8) (cn4 l Z a0 hw (fD ((own_B (nar .byte (fP x0)) (nar .byte (fP x1)) (nar .byte (fP x2)) (nar .byte (fP x3))) ((own_s x4 (4 : Int32)).toInt.toNat + 1))) (0 : Int32) h506 n0 G557.size) rfl (hw _ (List.mem_of_getElem? (i := 14) rfl)) (hw _ (List.mem_of_getElem? (i := 15) rfl)) (hw _ (List.mem_of_getElem? (i := 16) rfl)) (hw _ (List.mem_of_getElem? (i := 17) rfl)) (by decide) at_169 pd3 rfl (W := 1) rfl rfl (by decide) (by decide) (by decide) (by decide) rfl rfl rfl
    subst ev558
    rw [eh558] at g558
    have G558 := g558 [(.int (fM (fD ((own_B (nar .byte (fP x0)) (nar .byte (fP x1)) (nar .byte (fP x2)) (nar .byte (fP x3))) ((own_s x4 (4 : Int32)).toInt.toNat + 1))) (0 : Int32))), (.int ((0 : Int32) + ((fM (fD ((own_B (nar .byte (fP x0)) (nar .byte (fP x1)) (nar .byte (fP x2)) (nar .byte (fP x3))) (own_s x4 (4 : Int32)).toInt.toNat)) (0 : Int32)) * (1000 : Int32))))] rfl
    have G559 := G558.aload (v := (.ref a481)) (pc' := 174) at_172 rfl
    have G560 := G559.iload (v := (4 : Int32)) (pc' := 176) at_174 rfl
    have G561 := G560.iconst (v := (2 : Int32)) (pc' := 177) at_176
    have G562 := G561.isub (pc' := 178) at_177
    have G563 := G562.ldI (i := 2) (v := (.int (100 : Int32))) (pc' := 179) V508 (by decide) rfl at_178
    have G564 := G563.imul (pc' := 180) at_179
    have G565 := G564.iadd (pc' := 181) at_180
    have G566 := G565.istore (L' := #[.val (.int x0), .val (.int x1), .val (.int x2), .val (.int x3), .val (.int x4), .val (.int x5), .val (.ref a2), .val (.int (4 : Int32)), .val (.int ((x4 &&& (2147483647 : Int32)) % ((5 : Int32) - (4 : Int32)))), .val (.int (own_D (own_B (nar .byte (fP x0)) (nar .byte (fP x1)) (nar .byte (fP x2)) (nar .byte (fP x3))) 4 (own_s x4 (4 : Int32)).toInt.toNat (0 : Int32))), .val (.ref a481), .val (.int z2), .val (.int (((0 : Int32) + ((fM (fD ((own_B (nar .byte (fP x0)) (nar .byte (fP x1)) (nar .byte (fP x2)) (nar .byte (fP x3))) (own_s x4 (4 : Int32)).toInt.toNat)) (0 : Int32)) * (1000 : Int32))) + ((fM (fD ((own_B (nar .byte (fP x0)) (nar .byte (fP x1)) (nar .byte (fP x2)) (nar .byte (fP x3))) ((own_s x4 (4 : Int32)).toInt.toNat + 1))) (0 : Int32)) * (100 : Int32)))), .val (.int (fD ((own_B (nar .byte (fP x0)) (nar .byte (fP x1)) (nar .byte (fP x2)) (nar .byte (fP x3))) ((own_s x4 (4 : Int32)).toInt.toNat + 1))))]) (pc' := 183) at_181 rfl
    have G567 := G566.iload (v := (4 : Int32)) (pc' := 185) at_183 rfl
    have G568 := G567.iconst (v := (2 : Int32)) (pc' := 186) at_185
    have G569 := G568.icmpN at_186 189 (Jvm.Free.XT.ii_le_f (by decide))
    have G570 := G569.aload (v := (.ref a2)) (pc' := 191) at_189 rfl
    have G571 := G570.iload (v := ((x4 &&& (2147483647 : Int32)) % ((5 : Int32) - (4 : Int32)))) (pc' := 193) at_191 rfl
    have G572 := G571.iconst (v := (2 : Int32)) (pc' := 194) at_193
    have G573 := G572.iadd (pc' := 195) at_194
    have G574 := G573.ldB (i := ((own_s x4 (4 : Int32)).toInt.toNat + 2)) (v := (.int ((own_B (nar .byte (fP x0)) (nar .byte (fP x1)) (nar .byte (fP x2)) (nar .byte (fP x3))) ((own_s x4 (4 : Int32)).toInt.toNat + 2)))) (pc' := 196) V507 (own_s3 x4 (4 : Int32) 4 (by decide) (by decide) (2 : Int32) 2 (by decide) (by decide)) (own_get _ _ _ _ _ (by have := own_s4 x4 (4 : Int32) 4 (by decide) (by decide); omega)) at_195
    obtain ⟨v575, h575, ⟨ev575, eh575⟩, g575⟩ := G574.callS (argsL := [(.int ((own_B (nar .byte (fP x0)) (nar .byte (fP x1)) (nar .byte (fP x2)) (nar .byte (fP x3))) ((own_s x4 (4 : Int32)).toInt.toNat + 2)))]) (rest := []) (pc' := 199) (k' := 2) (j' := 8) (cn3 l Z a0 hw ((own_B (nar .byte (fP x0)) (nar .byte (fP x1)) (nar .byte (fP x2)) (nar .byte (fP x3))) ((own_s x4 (4 : Int32)).toInt.toNat + 2)) h506 n0 G574.size) rfl (hw _ (List.mem_of_getElem? (i := 11) rfl)) (hw _ (List.mem_of_getElem? (i := 12) rfl)) (hw _ (List.mem_of_getElem? (i := 3) rfl)) (hw _ (List.mem_of_getElem? (i := 13) rfl)) (by decide) at_196 pd2 rfl (W := 0) rfl rfl (by decide) (by decide) (by decide) (by decide) rfl rfl rfl
    subst ev575
    rw [eh575] at g575
    have G575 := g575 [(.int (fD ((own_B (nar .byte (fP x0)) (nar .byte (fP x1)) (nar .byte (fP x2)) (nar .byte (fP x3))) ((own_s x4 (4 : Int32)).toInt.toNat + 2))))] rfl
    have G576 := G575.istore (L' := #[.val (.int x0), .val (.int x1), .val (.int x2), .val (.int x3), .val (.int x4), .val (.int x5), .val (.ref a2), .val (.int (4 : Int32)), .val (.int ((x4 &&& (2147483647 : Int32)) % ((5 : Int32) - (4 : Int32)))), .val (.int (own_D (own_B (nar .byte (fP x0)) (nar .byte (fP x1)) (nar .byte (fP x2)) (nar .byte (fP x3))) 4 (own_s x4 (4 : Int32)).toInt.toNat (0 : Int32))), .val (.ref a481), .val (.int z2), .val (.int (((0 : Int32) + ((fM (fD ((own_B (nar .byte (fP x0)) (nar .byte (fP x1)) (nar .byte (fP x2)) (nar .byte (fP x3))) (own_s x4 (4 : Int32)).toInt.toNat)) (0 : Int32)) * (1000 : Int32))) + ((fM (fD ((own_B (nar .byte (fP x0)) (nar .byte (fP x1)) (nar .byte (fP x2)) (nar .byte (fP x3))) ((own_s x4 (4 : Int32)).toInt.toNat + 1))) (0 : Int32)) * (100 : Int32)))), .val (.int (fD ((own_B (nar .byte (fP x0)) (nar .byte (fP x1)) (nar .byte (fP x2)) (nar .byte (fP x3))) ((own_s x4 (4 : Int32)).toInt.toNat + 2))))]) (pc' := 201) at_199 rfl
    have G577 := G576.iload (v := (fD ((own_B (nar .byte (fP x0)) (nar .byte (fP x1)) (nar .byte (fP x2)) (nar .byte (fP x3))) ((own_s x4 (4 : Int32)).toInt.toNat + 2)))) (pc' := 203) at_201 rfl
    obtain ⟨z3, e_z3, G582⟩ : ∃ z3 : Int32, z3 = (if (fD ((own_B (nar .byte (fP x0)) (nar .byte (fP x1)) (nar .byte (fP x2)) (nar .byte (fP x3))) ((own_s x4 (4 : Int32)).toInt.toNat + 2))) < (0 : Int32) then (0 : Int32) else z2) ∧ Go p l e room_1 s m #[(.int x0), (.int x1), (.int x2), (.int x3), (.int x4), (.int x5)] below meth c Z x.cls code maxLocals ret n0 s₀ h506 2 8 209 #[.val (.int x0), .val (.int x1), .val (.int x2), .val (.int x3), .val (.int x4), .val (.int x5), .val (.ref a2), .val (.int (4 : Int32)), .val (.int ((x4 &&& (2147483647 : Int32)) % ((5 : Int32) - (4 : Int32)))), .val (.int (own_D (own_B (nar .byte (fP x0)) (nar .byte (fP x1)) (nar .byte (fP x2)) (nar .byte (fP x3))) 4 (own_s x4 (4 : Int32)).toInt.toNat (0 : Int32))), .val (.ref a481), .val (.int z3), .val (.int (((0 : Int32) + ((fM (fD ((own_B (nar .byte (fP x0)) (nar .byte (fP x1)) (nar .byte (fP x2)) (nar .byte (fP x3))) (own_s x4 (4 : Int32)).toInt.toNat)) (0 : Int32)) * (1000 : Int32))) + ((fM (fD ((own_B (nar .byte (fP x0)) (nar .byte (fP x1)) (nar .byte (fP x2)) (nar .byte (fP x3))) ((own_s x4 (4 : Int32)).toInt.toNat + 1))) (0 : Int32)) * (100 : Int32)))), .val (.int (fD ((own_B (nar .byte (fP x0)) (nar .byte (fP x1)) (nar .byte (fP x2)) (nar .byte (fP x3))) ((own_s x4 (4 : Int32)).toInt.toNat + 2))))] [] := by
      by_cases c203_577 : (fD ((own_B (nar .byte (fP x0)) (nar .byte (fP x1)) (nar .byte (fP x2)) (nar .byte (fP x3))) ((own_s x4 (4 : Int32)).toInt.toNat + 2))) < (0 : Int32)
      · have G578 := G577.ifN at_203 206 (Jvm.Free.XT.i0_ge_f c203_577)
        have G579 := G578.iconst (v := (0 : Int32)) (pc' := 207) at_206
        have G580 := G579.istore (L' := #[.val (.int x0), .val (.int x1), .val (.int x2), .val (.int x3), .val (.int x4), .val (.int x5), .val (.ref a2), .val (.int (4 : Int32)), .val (.int ((x4 &&& (2147483647 : Int32)) % ((5 : Int32) - (4 : Int32)))), .val (.int (own_D (own_B (nar .byte (fP x0)) (nar .byte (fP x1)) (nar .byte (fP x2)) (nar .byte (fP x3))) 4 (own_s x4 (4 : Int32)).toInt.toNat (0 : Int32))), .val (.ref a481), .val (.int (0 : Int32)), .val (.int (((0 : Int32) + ((fM (fD ((own_B (nar .byte (fP x0)) (nar .byte (fP x1)) (nar .byte (fP x2)) (nar .byte (fP x3))) (own_s x4 (4 : Int32)).toInt.toNat)) (0 : Int32)) * (1000 : Int32))) + ((fM (fD ((own_B (nar .byte (fP x0)) (nar .byte (fP x1)) (nar .byte (fP x2)) (nar .byte (fP x3))) ((own_s x4 (4 : Int32)).toInt.toNat + 1))) (0 : Int32)) * (100 : Int32)))), .val (.int (fD ((own_B (nar .byte (fP x0)) (nar .byte (fP x1)) (nar .byte (fP x2)) (nar .byte (fP x3))) ((own_s x4 (4 : Int32)).toInt.toNat + 2))))]) (pc' := 209) at_207 rfl
        exact ⟨(0 : Int32), by rw [if_pos c203_577], G580⟩
      · have G581 := G577.ifY at_203 209 (Jvm.Free.XT.i0_ge_t c203_577)
        exact ⟨z2, by rw [if_neg c203_577], G581⟩
    have G583 := G582.iload (v := (((0 : Int32) + ((fM (fD ((own_B (nar .byte (fP x0)) (nar .byte (fP x1)) (nar .byte (fP x2)) (nar .byte (fP x3))) (own_s x4 (4 : Int32)).toInt.toNat)) (0 : Int32)) * (1000 : Int32))) + ((fM (fD ((own_B (nar .byte (fP x0)) (nar .byte (fP x1)) (nar .byte (fP x2)) (nar .byte (fP x3))) ((own_s x4 (4 : Int32)).toInt.toNat + 1))) (0 : Int32)) * (100 : Int32)))) (pc' := 211) at_209 rfl
    have G584 := G583.iload (v := (fD ((own_B (nar .byte (fP x0)) (nar .byte (fP x1)) (nar .byte (fP x2)) (nar .byte (fP x3))) ((own_s x4 (4 : Int32)).toInt.toNat + 2)))) (pc' := 213) at_211 rfl
    have G585 := G584.iconst (v := (0 : Int32)) (pc' := 214) at_213
    obtain ⟨v586, h586, ⟨ev586, eh586⟩, g586⟩ := G585.callS (argsL := [(.int (fD ((own_B (nar .byte (fP x0)) (nar .byte (fP x1)) (nar .byte (fP x2)) (nar .byte (fP x3))) ((own_s x4 (4 : Int32)).toInt.toNat + 2)))), (.int (0 : Int32))]) (rest := [(.int (((0 : Int32) + ((fM (fD ((own_B (nar .byte (fP x0)) (nar .byte (fP x1)) (nar .byte (fP x2)) (nar .byte (fP x3))) (own_s x4 (4 : Int32)).toInt.toNat)) (0 : Int32)) * (1000 : Int32))) + ((fM (fD ((own_B (nar .byte (fP x0)) (nar .byte (fP x1)) (nar .byte (fP x2)) (nar .byte (fP x3))) ((own_s x4 (4 : Int32)).toInt.toNat + 1))) (0 : Int32)) * (100 : Int32))))]) (pc' := 217) (k' := 2) (j' := 8) (cn4 l Z a0 hw (fD ((own_B (nar .byte (fP x0)) (nar .byte (fP x1)) (nar .byte (fP x2)) (nar .byte (fP x3))) ((own_s x4 (4 : Int32)).toInt.toNat + 2))) (0 : Int32) h506 n0 G585.size) rfl (hw _ (List.mem_of_getElem? (i := 14) rfl)) (hw _ (List.mem_of_getElem? (i := 15) rfl)) (hw _ (List.mem_of_getElem? (i := 16) rfl)) (hw _ (List.mem_of_getElem? (i := 17) rfl)) (by decide) at_214 pd3 rfl (W := 1) rfl rfl (by decide) (by decide) (by decide) (by decide) rfl rfl rfl
    subst ev586
    rw [eh586] at g586
    have G586 := g586 [(.int (fM (fD ((own_B (nar .byte (fP x0)) (nar .byte (fP x1)) (nar .byte (fP x2)) (nar .byte (fP x3))) ((own_s x4 (4 : Int32)).toInt.toNat + 2))) (0 : Int32))), (.int (((0 : Int32) + ((fM (fD ((own_B (nar .byte (fP x0)) (nar .byte (fP x1)) (nar .byte (fP x2)) (nar .byte (fP x3))) (own_s x4 (4 : Int32)).toInt.toNat)) (0 : Int32)) * (1000 : Int32))) + ((fM (fD ((own_B (nar .byte (fP x0)) (nar .byte (fP x1)) (nar .byte (fP x2)) (nar .byte (fP x3))) ((own_s x4 (4 : Int32)).toInt.toNat + 1))) (0 : Int32)) * (100 : Int32))))] rfl
    have G587 := G586.aload (v := (.ref a481)) (pc' := 219) at_217 rfl
    have G588 := G587.iload (v := (4 : Int32)) (pc' := 221) at_219 rfl
    have G589 := G588.iconst (v := (3 : Int32)) (pc' := 222) at_221
    have G590 := G589.isub (pc' := 223) at_222
    have G591 := G590.ldI (i := 1) (v := (.int (10 : Int32))) (pc' := 224) V508 (by decide) rfl at_223
    have G592 := G591.imul (pc' := 225) at_224
    have G593 := G592.iadd (pc' := 226) at_225
    have G594 := G593.istore (L' := #[.val (.int x0), .val (.int x1), .val (.int x2), .val (.int x3), .val (.int x4), .val (.int x5), .val (.ref a2), .val (.int (4 : Int32)), .val (.int ((x4 &&& (2147483647 : Int32)) % ((5 : Int32) - (4 : Int32)))), .val (.int (own_D (own_B (nar .byte (fP x0)) (nar .byte (fP x1)) (nar .byte (fP x2)) (nar .byte (fP x3))) 4 (own_s x4 (4 : Int32)).toInt.toNat (0 : Int32))), .val (.ref a481), .val (.int z3), .val (.int ((((0 : Int32) + ((fM (fD ((own_B (nar .byte (fP x0)) (nar .byte (fP x1)) (nar .byte (fP x2)) (nar .byte (fP x3))) (own_s x4 (4 : Int32)).toInt.toNat)) (0 : Int32)) * (1000 : Int32))) + ((fM (fD ((own_B (nar .byte (fP x0)) (nar .byte (fP x1)) (nar .byte (fP x2)) (nar .byte (fP x3))) ((own_s x4 (4 : Int32)).toInt.toNat + 1))) (0 : Int32)) * (100 : Int32))) + ((fM (fD ((own_B (nar .byte (fP x0)) (nar .byte (fP x1)) (nar .byte (fP x2)) (nar .byte (fP x3))) ((own_s x4 (4 : Int32)).toInt.toNat + 2))) (0 : Int32)) * (10 : Int32)))), .val (.int (fD ((own_B (nar .byte (fP x0)) (nar .byte (fP x1)) (nar .byte (fP x2)) (nar .byte (fP x3))) ((own_s x4 (4 : Int32)).toInt.toNat + 2))))]) (pc' := 228) at_226 rfl
    have G595 := G594.iload (v := (4 : Int32)) (pc' := 230) at_228 rfl
    have G596 := G595.iconst (v := (3 : Int32)) (pc' := 231) at_230
    have G597 := G596.icmpN at_231 234 (Jvm.Free.XT.ii_le_f (by decide))
    have G598 := G597.aload (v := (.ref a2)) (pc' := 236) at_234 rfl
    have G599 := G598.iload (v := ((x4 &&& (2147483647 : Int32)) % ((5 : Int32) - (4 : Int32)))) (pc' := 238) at_236 rfl
    have G600 := G599.iconst (v := (3 : Int32)) (pc' := 239) at_238
    have G601 := G600.iadd (pc' := 240) at_239
    have G602 := G601.ldB (i := ((own_s x4 (4 : Int32)).toInt.toNat + 3)) (v := (.int ((own_B (nar .byte (fP x0)) (nar .byte (fP x1)) (nar .byte (fP x2)) (nar .byte (fP x3))) ((own_s x4 (4 : Int32)).toInt.toNat + 3)))) (pc' := 241) V507 (own_s3 x4 (4 : Int32) 4 (by decide) (by decide) (3 : Int32) 3 (by decide) (by decide)) (own_get _ _ _ _ _ (by have := own_s4 x4 (4 : Int32) 4 (by decide) (by decide); omega)) at_240
    obtain ⟨v603, h603, ⟨ev603, eh603⟩, g603⟩ := G602.callS (argsL := [(.int ((own_B (nar .byte (fP x0)) (nar .byte (fP x1)) (nar .byte (fP x2)) (nar .byte (fP x3))) ((own_s x4 (4 : Int32)).toInt.toNat + 3)))]) (rest := []) (pc' := 244) (k' := 2) (j' := 8) (cn3 l Z a0 hw ((own_B (nar .byte (fP x0)) (nar .byte (fP x1)) (nar .byte (fP x2)) (nar .byte (fP x3))) ((own_s x4 (4 : Int32)).toInt.toNat + 3)) h506 n0 G602.size) rfl (hw _ (List.mem_of_getElem? (i := 11) rfl)) (hw _ (List.mem_of_getElem? (i := 12) rfl)) (hw _ (List.mem_of_getElem? (i := 3) rfl)) (hw _ (List.mem_of_getElem? (i := 13) rfl)) (by decide) at_241 pd2 rfl (W := 0) rfl rfl (by decide) (by decide) (by decide) (by decide) rfl rfl rfl
    subst ev603
    rw [eh603] at g603
    have G603 := g603 [(.int (fD ((own_B (nar .byte (fP x0)) (nar .byte (fP x1)) (nar .byte (fP x2)) (nar .byte (fP x3))) ((own_s x4 (4 : Int32)).toInt.toNat + 3))))] rfl
    have G604 := G603.istore (L' := #[.val (.int x0), .val (.int x1), .val (.int x2), .val (.int x3), .val (.int x4), .val (.int x5), .val (.ref a2), .val (.int (4 : Int32)), .val (.int ((x4 &&& (2147483647 : Int32)) % ((5 : Int32) - (4 : Int32)))), .val (.int (own_D (own_B (nar .byte (fP x0)) (nar .byte (fP x1)) (nar .byte (fP x2)) (nar .byte (fP x3))) 4 (own_s x4 (4 : Int32)).toInt.toNat (0 : Int32))), .val (.ref a481), .val (.int z3), .val (.int ((((0 : Int32) + ((fM (fD ((own_B (nar .byte (fP x0)) (nar .byte (fP x1)) (nar .byte (fP x2)) (nar .byte (fP x3))) (own_s x4 (4 : Int32)).toInt.toNat)) (0 : Int32)) * (1000 : Int32))) + ((fM (fD ((own_B (nar .byte (fP x0)) (nar .byte (fP x1)) (nar .byte (fP x2)) (nar .byte (fP x3))) ((own_s x4 (4 : Int32)).toInt.toNat + 1))) (0 : Int32)) * (100 : Int32))) + ((fM (fD ((own_B (nar .byte (fP x0)) (nar .byte (fP x1)) (nar .byte (fP x2)) (nar .byte (fP x3))) ((own_s x4 (4 : Int32)).toInt.toNat + 2))) (0 : Int32)) * (10 : Int32)))), .val (.int (fD ((own_B (nar .byte (fP x0)) (nar .byte (fP x1)) (nar .byte (fP x2)) (nar .byte (fP x3))) ((own_s x4 (4 : Int32)).toInt.toNat + 3))))]) (pc' := 246) at_244 rfl
    have G605 := G604.iload (v := (fD ((own_B (nar .byte (fP x0)) (nar .byte (fP x1)) (nar .byte (fP x2)) (nar .byte (fP x3))) ((own_s x4 (4 : Int32)).toInt.toNat + 3)))) (pc' := 248) at_246 rfl
    obtain ⟨z4, e_z4, G610⟩ : ∃ z4 : Int32, z4 = (if (fD ((own_B (nar .byte (fP x0)) (nar .byte (fP x1)) (nar .byte (fP x2)) (nar .byte (fP x3))) ((own_s x4 (4 : Int32)).toInt.toNat + 3))) < (0 : Int32) then (0 : Int32) else z3) ∧ Go p l e room_1 s m #[(.int x0), (.int x1), (.int x2), (.int x3), (.int x4), (.int x5)] below meth c Z x.cls code maxLocals ret n0 s₀ h506 2 8 254 #[.val (.int x0), .val (.int x1), .val (.int x2), .val (.int x3), .val (.int x4), .val (.int x5), .val (.ref a2), .val (.int (4 : Int32)), .val (.int ((x4 &&& (2147483647 : Int32)) % ((5 : Int32) - (4 : Int32)))), .val (.int (own_D (own_B (nar .byte (fP x0)) (nar .byte (fP x1)) (nar .byte (fP x2)) (nar .byte (fP x3))) 4 (own_s x4 (4 : Int32)).toInt.toNat (0 : Int32))), .val (.ref a481), .val (.int z4), .val (.int ((((0 : Int32) + ((fM (fD ((own_B (nar .byte (fP x0)) (nar .byte (fP x1)) (nar .byte (fP x2)) (nar .byte (fP x3))) (own_s x4 (4 : Int32)).toInt.toNat)) (0 : Int32)) * (1000 : Int32))) + ((fM (fD ((own_B (nar .byte (fP x0)) (nar .byte (fP x1)) (nar .byte (fP x2)) (nar .byte (fP x3))) ((own_s x4 (4 : Int32)).toInt.toNat + 1))) (0 : Int32)) * (100 : Int32))) + ((fM (fD ((own_B (nar .byte (fP x0)) (nar .byte (fP x1)) (nar .byte (fP x2)) (nar .byte (fP x3))) ((own_s x4 (4 : Int32)).toInt.toNat + 2))) (0 : Int32)) * (10 : Int32)))), .val (.int (fD ((own_B (nar .byte (fP x0)) (nar .byte (fP x1)) (nar .byte (fP x2)) (nar .byte (fP x3))) ((own_s x4 (4 : Int32)).toInt.toNat + 3))))] [] := by
      by_cases c248_605 : (fD ((own_B (nar .byte (fP x0)) (nar .byte (fP x1)) (nar .byte (fP x2)) (nar .byte (fP x3))) ((own_s x4 (4 : Int32)).toInt.toNat + 3))) < (0 : Int32)
      · have G606 := G605.ifN at_248 251 (Jvm.Free.XT.i0_ge_f c248_605)
        have G607 := G606.iconst (v := (0 : Int32)) (pc' := 252) at_251
        have G608 := G607.istore (L' := #[.val (.int x0), .val (.int x1), .val (.int x2), .val (.int x3), .val (.int x4), .val (.int x5), .val (.ref a2), .val (.int (4 : Int32)), .val (.int ((x4 &&& (2147483647 : Int32)) % ((5 : Int32) - (4 : Int32)))), .val (.int (own_D (own_B (nar .byte (fP x0)) (nar .byte (fP x1)) (nar .byte (fP x2)) (nar .byte (fP x3))) 4 (own_s x4 (4 : Int32)).toInt.toNat (0 : Int32))), .val (.ref a481), .val (.int (0 : Int32)), .val (.int ((((0 : Int32) + ((fM (fD ((own_B (nar .byte (fP x0)) (nar .byte (fP x1)) (nar .byte (fP x2)) (nar .byte (fP x3))) (own_s x4 (4 : Int32)).toInt.toNat)) (0 : Int32)) * (1000 : Int32))) + ((fM (fD ((own_B (nar .byte (fP x0)) (nar .byte (fP x1)) (nar .byte (fP x2)) (nar .byte (fP x3))) ((own_s x4 (4 : Int32)).toInt.toNat + 1))) (0 : Int32)) * (100 : Int32))) + ((fM (fD ((own_B (nar .byte (fP x0)) (nar .byte (fP x1)) (nar .byte (fP x2)) (nar .byte (fP x3))) ((own_s x4 (4 : Int32)).toInt.toNat + 2))) (0 : Int32)) * (10 : Int32)))), .val (.int (fD ((own_B (nar .byte (fP x0)) (nar .byte (fP x1)) (nar .byte (fP x2)) (nar .byte (fP x3))) ((own_s x4 (4 : Int32)).toInt.toNat + 3))))]) (pc' := 254) at_252 rfl
        exact ⟨(0 : Int32), by rw [if_pos c248_605], G608⟩
      · have G609 := G605.ifY at_248 254 (Jvm.Free.XT.i0_ge_t c248_605)
        exact ⟨z3, by rw [if_neg c248_605], G609⟩
    have G611 := G610.iload (v := ((((0 : Int32) + ((fM (fD ((own_B (nar .byte (fP x0)) (nar .byte (fP x1)) (nar .byte (fP x2)) (nar .byte (fP x3))) (own_s x4 (4 : Int32)).toInt.toNat)) (0 : Int32)) * (1000 : Int32))) + ((fM (fD ((own_B (nar .byte (fP x0)) (nar .byte (fP x1)) (nar .byte (fP x2)) (nar .byte (fP x3))) ((own_s x4 (4 : Int32)).toInt.toNat + 1))) (0 : Int32)) * (100 : Int32))) + ((fM (fD ((own_B (nar .byte (fP x0)) (nar .byte (fP x1)) (nar .byte (fP x2)) (nar .byte (fP x3))) ((own_s x4 (4 : Int32)).toInt.toNat + 2))) (0 : Int32)) * (10 : Int32)))) (pc' := 256) at_254 rfl
    have G612 := G611.iload (v := (fD ((own_B (nar .byte (fP x0)) (nar .byte (fP x1)) (nar .byte (fP x2)) (nar .byte (fP x3))) ((own_s x4 (4 : Int32)).toInt.toNat + 3)))) (pc' := 258) at_256 rfl
    have G613 := G612.iconst (v := (0 : Int32)) (pc' := 259) at_258
    obtain ⟨v614, h614, ⟨ev614, eh614⟩, g614⟩ := G613.callS (argsL := [(.int (fD ((own_B (nar .byte (fP x0)) (nar .byte (fP x1)) (nar .byte (fP x2)) (nar .byte (fP x3))) ((own_s x4 (4 : Int32)).toInt.toNat + 3)))), (.int (0 : Int32))]) (rest := [(.int ((((0 : Int32) + ((fM (fD ((own_B (nar .byte (fP x0)) (nar .byte (fP x1)) (nar .byte (fP x2)) (nar .byte (fP x3))) (own_s x4 (4 : Int32)).toInt.toNat)) (0 : Int32)) * (1000 : Int32))) + ((fM (fD ((own_B (nar .byte (fP x0)) (nar .byte (fP x1)) (nar .byte (fP x2)) (nar .byte (fP x3))) ((own_s x4 (4 : Int32)).toInt.toNat + 1))) (0 : Int32)) * (100 : Int32))) + ((fM (fD ((own_B (nar .byte (fP x0)) (nar .byte (fP x1)) (nar .byte (fP x2)) (nar .byte (fP x3))) ((own_s x4 (4 : Int32)).toInt.toNat + 2))) (0 : Int32)) * (10 : Int32))))]) (pc' := 262) (k' := 2) (j' := 8) (cn4 l Z a0 hw (fD ((own_B (nar .byte (fP x0)) (nar .byte (fP x1)) (nar .byte (fP x2)) (nar .byte (fP x3))) ((own_s x4 (4 : Int32)).toInt.toNat + 3))) (0 : Int32) h506 n0 G613.size) rfl (hw _ (List.mem_of_getElem? (i := 14) rfl)) (hw _ (List.mem_of_getElem? (i := 15) rfl)) (hw _ (List.mem_of_getElem? (i := 16) rfl)) (hw _ (List.mem_of_getElem? (i := 17) rfl)) (by decide) at_259 pd3 rfl (W := 1) rfl rfl (by decide) (by decide) (by decide) (by decide) rfl rfl rfl
    subst ev614
    rw [eh614] at g614
    have G614 := g614 [(.int (fM (fD ((own_B (nar .byte (fP x0)) (nar .byte (fP x1)) (nar .byte (fP x2)) (nar .byte (fP x3))) ((own_s x4 (4 : Int32)).toInt.toNat + 3))) (0 : Int32))), (.int ((((0 : Int32) + ((fM (fD ((own_B (nar .byte (fP x0)) (nar .byte (fP x1)) (nar .byte (fP x2)) (nar .byte (fP x3))) (own_s x4 (4 : Int32)).toInt.toNat)) (0 : Int32)) * (1000 : Int32))) + ((fM (fD ((own_B (nar .byte (fP x0)) (nar .byte (fP x1)) (nar .byte (fP x2)) (nar .byte (fP x3))) ((own_s x4 (4 : Int32)).toInt.toNat + 1))) (0 : Int32)) * (100 : Int32))) + ((fM (fD ((own_B (nar .byte (fP x0)) (nar .byte (fP x1)) (nar .byte (fP x2)) (nar .byte (fP x3))) ((own_s x4 (4 : Int32)).toInt.toNat + 2))) (0 : Int32)) * (10 : Int32))))] rfl
    have G615 := G614.aload (v := (.ref a481)) (pc' := 264) at_262 rfl
    have G616 := G615.iload (v := (4 : Int32)) (pc' := 266) at_264 rfl
    have G617 := G616.iconst (v := (4 : Int32)) (pc' := 267) at_266
    have G618 := G617.isub (pc' := 268) at_267
    have G619 := G618.ldI (i := 0) (v := (.int (1 : Int32))) (pc' := 269) V508 (by decide) rfl at_268
    have G620 := G619.imul (pc' := 270) at_269
    have G621 := G620.iadd (pc' := 271) at_270
    have G622 := G621.istore (L' := #[.val (.int x0), .val (.int x1), .val (.int x2), .val (.int x3), .val (.int x4), .val (.int x5), .val (.ref a2), .val (.int (4 : Int32)), .val (.int ((x4 &&& (2147483647 : Int32)) % ((5 : Int32) - (4 : Int32)))), .val (.int (own_D (own_B (nar .byte (fP x0)) (nar .byte (fP x1)) (nar .byte (fP x2)) (nar .byte (fP x3))) 4 (own_s x4 (4 : Int32)).toInt.toNat (0 : Int32))), .val (.ref a481), .val (.int z4), .val (.int (((((0 : Int32) + ((fM (fD ((own_B (nar .byte (fP x0)) (nar .byte (fP x1)) (nar .byte (fP x2)) (nar .byte (fP x3))) (own_s x4 (4 : Int32)).toInt.toNat)) (0 : Int32)) * (1000 : Int32))) + ((fM (fD ((own_B (nar .byte (fP x0)) (nar .byte (fP x1)) (nar .byte (fP x2)) (nar .byte (fP x3))) ((own_s x4 (4 : Int32)).toInt.toNat + 1))) (0 : Int32)) * (100 : Int32))) + ((fM (fD ((own_B (nar .byte (fP x0)) (nar .byte (fP x1)) (nar .byte (fP x2)) (nar .byte (fP x3))) ((own_s x4 (4 : Int32)).toInt.toNat + 2))) (0 : Int32)) * (10 : Int32))) + ((fM (fD ((own_B (nar .byte (fP x0)) (nar .byte (fP x1)) (nar .byte (fP x2)) (nar .byte (fP x3))) ((own_s x4 (4 : Int32)).toInt.toNat + 3))) (0 : Int32)) * (1 : Int32)))), .val (.int (fD ((own_B (nar .byte (fP x0)) (nar .byte (fP x1)) (nar .byte (fP x2)) (nar .byte (fP x3))) ((own_s x4 (4 : Int32)).toInt.toNat + 3))))]) (pc' := 273) at_271 rfl
    have G623 := G622.iload (v := z4) (pc' := 275) at_273 rfl
    obtain ⟨zw, e_zw, G629⟩ : ∃ zw : Int32, zw = (if z4 = (0 : Int32) then (-1 : Int32) else (((((0 : Int32) + ((fM (fD ((own_B (nar .byte (fP x0)) (nar .byte (fP x1)) (nar .byte (fP x2)) (nar .byte (fP x3))) (own_s x4 (4 : Int32)).toInt.toNat)) (0 : Int32)) * (1000 : Int32))) + ((fM (fD ((own_B (nar .byte (fP x0)) (nar .byte (fP x1)) (nar .byte (fP x2)) (nar .byte (fP x3))) ((own_s x4 (4 : Int32)).toInt.toNat + 1))) (0 : Int32)) * (100 : Int32))) + ((fM (fD ((own_B (nar .byte (fP x0)) (nar .byte (fP x1)) (nar .byte (fP x2)) (nar .byte (fP x3))) ((own_s x4 (4 : Int32)).toInt.toNat + 2))) (0 : Int32)) * (10 : Int32))) + ((fM (fD ((own_B (nar .byte (fP x0)) (nar .byte (fP x1)) (nar .byte (fP x2)) (nar .byte (fP x3))) ((own_s x4 (4 : Int32)).toInt.toNat + 3))) (0 : Int32)) * (1 : Int32)))) ∧ Go p l e room_1 s m #[(.int x0), (.int x1), (.int x2), (.int x3), (.int x4), (.int x5)] below meth c Z x.cls code maxLocals ret n0 s₀ h506 2 8 284 #[.val (.int x0), .val (.int x1), .val (.int x2), .val (.int x3), .val (.int x4), .val (.int x5), .val (.ref a2), .val (.int (4 : Int32)), .val (.int ((x4 &&& (2147483647 : Int32)) % ((5 : Int32) - (4 : Int32)))), .val (.int (own_D (own_B (nar .byte (fP x0)) (nar .byte (fP x1)) (nar .byte (fP x2)) (nar .byte (fP x3))) 4 (own_s x4 (4 : Int32)).toInt.toNat (0 : Int32))), .val (.ref a481), .val (.int z4), .val (.int (((((0 : Int32) + ((fM (fD ((own_B (nar .byte (fP x0)) (nar .byte (fP x1)) (nar .byte (fP x2)) (nar .byte (fP x3))) (own_s x4 (4 : Int32)).toInt.toNat)) (0 : Int32)) * (1000 : Int32))) + ((fM (fD ((own_B (nar .byte (fP x0)) (nar .byte (fP x1)) (nar .byte (fP x2)) (nar .byte (fP x3))) ((own_s x4 (4 : Int32)).toInt.toNat + 1))) (0 : Int32)) * (100 : Int32))) + ((fM (fD ((own_B (nar .byte (fP x0)) (nar .byte (fP x1)) (nar .byte (fP x2)) (nar .byte (fP x3))) ((own_s x4 (4 : Int32)).toInt.toNat + 2))) (0 : Int32)) * (10 : Int32))) + ((fM (fD ((own_B (nar .byte (fP x0)) (nar .byte (fP x1)) (nar .byte (fP x2)) (nar .byte (fP x3))) ((own_s x4 (4 : Int32)).toInt.toNat + 3))) (0 : Int32)) * (1 : Int32)))), .val (.int (fD ((own_B (nar .byte (fP x0)) (nar .byte (fP x1)) (nar .byte (fP x2)) (nar .byte (fP x3))) ((own_s x4 (4 : Int32)).toInt.toNat + 3))))] [(.int zw)] := by
      by_cases c275_623 : z4 = (0 : Int32)
      · have G624 := G623.ifY at_275 283 (Jvm.Free.XT.i0_eq_t c275_623)
        have G625 := G624.iconst (v := (-1 : Int32)) (pc' := 284) at_283
        exact ⟨(-1 : Int32), by rw [if_pos c275_623], G625⟩
      · have G626 := G623.ifN at_275 278 (Jvm.Free.XT.i0_eq_f c275_623)
        have G627 := G626.iload (v := (((((0 : Int32) + ((fM (fD ((own_B (nar .byte (fP x0)) (nar .byte (fP x1)) (nar .byte (fP x2)) (nar .byte (fP x3))) (own_s x4 (4 : Int32)).toInt.toNat)) (0 : Int32)) * (1000 : Int32))) + ((fM (fD ((own_B (nar .byte (fP x0)) (nar .byte (fP x1)) (nar .byte (fP x2)) (nar .byte (fP x3))) ((own_s x4 (4 : Int32)).toInt.toNat + 1))) (0 : Int32)) * (100 : Int32))) + ((fM (fD ((own_B (nar .byte (fP x0)) (nar .byte (fP x1)) (nar .byte (fP x2)) (nar .byte (fP x3))) ((own_s x4 (4 : Int32)).toInt.toNat + 2))) (0 : Int32)) * (10 : Int32))) + ((fM (fD ((own_B (nar .byte (fP x0)) (nar .byte (fP x1)) (nar .byte (fP x2)) (nar .byte (fP x3))) ((own_s x4 (4 : Int32)).toInt.toNat + 3))) (0 : Int32)) * (1 : Int32)))) (pc' := 280) at_278 rfl
        have G628 := G627.goto at_280 284
        exact ⟨(((((0 : Int32) + ((fM (fD ((own_B (nar .byte (fP x0)) (nar .byte (fP x1)) (nar .byte (fP x2)) (nar .byte (fP x3))) (own_s x4 (4 : Int32)).toInt.toNat)) (0 : Int32)) * (1000 : Int32))) + ((fM (fD ((own_B (nar .byte (fP x0)) (nar .byte (fP x1)) (nar .byte (fP x2)) (nar .byte (fP x3))) ((own_s x4 (4 : Int32)).toInt.toNat + 1))) (0 : Int32)) * (100 : Int32))) + ((fM (fD ((own_B (nar .byte (fP x0)) (nar .byte (fP x1)) (nar .byte (fP x2)) (nar .byte (fP x3))) ((own_s x4 (4 : Int32)).toInt.toNat + 2))) (0 : Int32)) * (10 : Int32))) + ((fM (fD ((own_B (nar .byte (fP x0)) (nar .byte (fP x1)) (nar .byte (fP x2)) (nar .byte (fP x3))) ((own_s x4 (4 : Int32)).toInt.toNat + 3))) (0 : Int32)) * (1 : Int32))), by rw [if_neg c275_623], G628⟩
    have G630 := G629.istore (L' := #[.val (.int x0), .val (.int x1), .val (.int x2), .val (.int x3), .val (.int x4), .val (.int x5), .val (.ref a2), .val (.int (4 : Int32)), .val (.int ((x4 &&& (2147483647 : Int32)) % ((5 : Int32) - (4 : Int32)))), .val (.int (own_D (own_B (nar .byte (fP x0)) (nar .byte (fP x1)) (nar .byte (fP x2)) (nar .byte (fP x3))) 4 (own_s x4 (4 : Int32)).toInt.toNat (0 : Int32))), .val (.ref a481), .val (.int z4), .val (.int (((((0 : Int32) + ((fM (fD ((own_B (nar .byte (fP x0)) (nar .byte (fP x1)) (nar .byte (fP x2)) (nar .byte (fP x3))) (own_s x4 (4 : Int32)).toInt.toNat)) (0 : Int32)) * (1000 : Int32))) + ((fM (fD ((own_B (nar .byte (fP x0)) (nar .byte (fP x1)) (nar .byte (fP x2)) (nar .byte (fP x3))) ((own_s x4 (4 : Int32)).toInt.toNat + 1))) (0 : Int32)) * (100 : Int32))) + ((fM (fD ((own_B (nar .byte (fP x0)) (nar .byte (fP x1)) (nar .byte (fP x2)) (nar .byte (fP x3))) ((own_s x4 (4 : Int32)).toInt.toNat + 2))) (0 : Int32)) * (10 : Int32))) + ((fM (fD ((own_B (nar .byte (fP x0)) (nar .byte (fP x1)) (nar .byte (fP x2)) (nar .byte (fP x3))) ((own_s x4 (4 : Int32)).toInt.toNat + 3))) (0 : Int32)) * (1 : Int32)))), .val (.int zw)]) (pc' := 286) at_284 rfl
    have G631 := G630.iload (v := (own_D (own_B (nar .byte (fP x0)) (nar .byte (fP x1)) (nar .byte (fP x2)) (nar .byte (fP x3))) 4 (own_s x4 (4 : Int32)).toInt.toNat (0 : Int32))) (pc' := 288) at_286 rfl
    have G632 := G631.iload (v := zw) (pc' := 290) at_288 rfl
    have G633 := G632.icmpN at_290 293 (Jvm.Free.XT.ii_ne_f (own_fin4 (own_B (nar .byte (fP x0)) (nar .byte (fP x1)) (nar .byte (fP x2)) (nar .byte (fP x3))) (own_s x4 (4 : Int32)).toInt.toNat z1 z2 z3 z4 zw e_z1 e_z2 e_z3 e_z4 e_zw))
    have G634 := G633.iconst (v := (1 : Int32)) (pc' := 294) at_293
    have G635 := G634.goto at_294 298
    exact G635.retZ at_298 rfl (Or.inr rfl) rfl
set_option maxRecDepth 65536 in
set_option maxHeartbeats 40000000 in
theorem comes_1 {Post : Tables → Env → Array Value → State → Outcome → State → Prop} (hpost : ∀ tb e args s v u, (limb_1_1.after args s (.returned v) u = true ∧ limb_1_2.after args s (.returned v) u = true) → FrameEnd s (.returned v) u (Jvm.fieldLocs frame_1_writes args s ++ Jvm.arrayLocs frame_1_arrays args s ++ Jvm.staticLocs frame_1_statics s) 16 128 → Post tb e args s (.returned v) u) :
    ArmFor flags0 classFile x code maxLocals ret World_1 tables_1 room_1 Calls_1 rest_1 Pre_1 Post := by
  intro l hfl _ _ p e ha hc hk s m args below hf hA hF happ hP
  obtain ⟨hcalls, hrest, hpre⟩ := hP
  obtain ⟨-, -, -, hnamed, -, -, -, hat⟩ := (Spec.applies_iff hf).mp happ
  obtain ⟨hg, hn⟩ := and_e (Cond.before_iff.mp (show (Jvm.Cond.and given_1 narrow_1).before args s = true from hpre))
  obtain ⟨hcount, hg0⟩ := and_e hg
  obtain ⟨ga0, hg1⟩ := and_e hg0
  obtain ⟨ga1, hg2⟩ := and_e hg1
  obtain ⟨ga2, hg3⟩ := and_e hg2
  obtain ⟨ga3, hg4⟩ := and_e hg3
  obtain ⟨ga4, hg5⟩ := and_e hg4
  have ga5 := hg5
  obtain ⟨w0, w1, w2, w3, w4, w5, rfl⟩ : ∃ w0 w1 w2 w3 w4 w5 : Value, args = #[w0, w1, w2, w3, w4, w5] := by
    have hs : args.size = 6 := by simpa [Cond.value, given_1] using hcount
    obtain ⟨L⟩ := args
    match L, hs with
    | [w0, w1, w2, w3, w4, w5], _ => exact ⟨w0, w1, w2, w3, w4, w5, rfl⟩
  have hw := fun d (hd : d ∈ tables_1) => atoms_spec (ws := Jvm.Cond.code x code maxLocals ret :: tables_1) hat d (List.mem_cons_of_mem _ hd)
  obtain ⟨i0, ei0⟩ := is_v ga0
  obtain rfl : w0 = (.int i0) := Option.some.inj ei0
  obtain ⟨i1, ei1⟩ := is_v ga1
  obtain rfl : w1 = (.int i1) := Option.some.inj ei1
  obtain ⟨i2, ei2⟩ := is_v ga2
  obtain rfl : w2 = (.int i2) := Option.some.inj ei2
  obtain ⟨i3, ei3⟩ := is_v ga3
  obtain rfl : w3 = (.int i3) := Option.some.inj ei3
  obtain ⟨i4, ei4⟩ := is_v ga4
  obtain rfl : w4 = (.int i4) := Option.some.inj ei4
  obtain ⟨i5, ei5⟩ := is_v ga5
  obtain rfl : w5 = (.int i5) := Option.some.inj ei5
  obtain ⟨n, o, h1, h2, h3, _, L, rfl, ⟨rfl, N⟩, hq⟩ := lawc l s _ hw i0 i1 i2 i3 i4 i5 s.heap s.heap.size (Nat.le_refl _) p e ha hc hk s m _ below hf ((Spec.applies_iff_loose hf).mp happ).1 ⟨rfl, State.Warmed39.refl s, rfl⟩ trivial
  refine ⟨n, _, h1, h2, h3, hpost _ _ _ _ _ _ ⟨Cond.after_iff.mpr rfl, Cond.after_iff.mpr (eq_i res_at (Term.int_eval (1)) rfl)⟩ ⟨hq.1, hq.2.1, (hq.2.2.sift fun y hy => Or.inr (N y hy)).mono (by decide) (by decide)⟩⟩
theorem main_1_1 : Claimed_1_1 := comes_1 fun _ _ _ _ _ _ h hF => ⟨h.1, hF⟩
theorem main_1_2 : Claimed_1_2 := comes_1 fun _ _ _ _ _ _ h hF => ⟨h.2, hF⟩
end Jvm.Pilot.@@N@@
namespace Jvm.Pilot.@@N@@
open Jvm Jvm.ClassFile Sem Op Lib Jvm.Free Jvm.Stand Jvm.Pilot.@@N@@.Jvm.D
/-! MADE BY PROGRAM (witnessworld.py) out of the Statement's table words and the real class files: 10 classes; the members and pool entries that the words name. The judged class is class 1, her method 3. -/
namespace start1
open Jvm.ClassFile
def u (s : String) : CpInfo := .utf8 (stringToUtf16 s)
/-- a pool by its gaps: so many unusable entries, then the entry; so many at the end -/
def gap : Nat → List CpInfo → List CpInfo
  | 0, r => r
  | n + 1, r => .unusable :: gap n r
def poolList (es : List (Nat × CpInfo)) (last : Nat) : List CpInfo := es.foldr (fun e r => gap e.1 (e.2 :: r)) (gap last [])
def pool (es : List (Nat × CpInfo)) (last : Nat) : Array CpInfo := ⟨poolList es last⟩
def fileOf (pool : Array CpInfo) (this : Nat) (attrs : Array Attribute := #[]) (ms : Array MethodInfo := #[]) (fl : Nat := 33) (sup : Nat := 0) (ifs : Array Nat := #[]) (fds : Array FieldInfo := #[]) : ClassFile where
  minorVersion := 0
  majorVersion := 65
  constantPool := pool
  accessFlags := fl
  thisClass := this
  superClass := sup
  interfaces := ifs
  fields := fds
  methods := ms
  attributes := attrs
def plain (name : String) (sup : Option ClassId) : Class where
  name := name
  kind := .ordinary
  loader := none
  accessFlags := 33
  super := sup
  interfaces := #[]
  cf := none
  fields := #[]
  methods := #[]
  instanceTypes := #[]
  staticTypes := #[]
  resolved := #[]
  callSites := []
  init := .initialized
  statics := none
  mirror := none

def pool0 : Array CpInfo := pool [(5, u "<init>"), (0, u "()V"), (1, .class_ 10), (1, u "java/lang/Object")] 113

def k0m0 : Method := { name := "<init>", desc := "()V", sig := { parameters := [], returnType := none }, accessFlags := 1, code := none }
/-- java/lang/Object -/
def k0 : Class := { plain "java/lang/Object" none with
  accessFlags := 33
  interfaces := #[]
  cf := some (fileOf pool0 8 #[] #[{ accessFlags := 1, nameIndex := 5, descriptorIndex := 6, attributes := #[] }] 33 0 #[] #[])
  fields := #[]
  methods := #[k0m0]
  instanceTypes := #[]
  staticTypes := #[]
  resolved := Array.replicate 124 none
  statics := none }

def pool1 : Array CpInfo := pool [(2, .class_ 4), (1, u "java/lang/Object"), (0, u "<init>"), (0, u "()V"), (0, .methodref 8 9), (0, .class_ 10), (0, .nameAndType 11 12), (0, u "com/example/stackwise/stackwise/input/DecimalsDigitsPinLaw"), (0, u "pick"), (0, u "(I)B"), (0, .integer 2147483647), (0, .methodref 15 16), (0, .class_ 17), (0, .nameAndType 18 19), (0, u "com/example/stackwise/stackwise/input/Decimals"), (0, u "digits"), (0, u "([BII)I"), (0, .methodref 8 21), (0, .nameAndType 22 23), (0, u "dig"), (0, u "(B)I"), (0, .methodref 25 26), (0, .class_ 27), (0, .nameAndType 28 29), (0, u "java/lang/Math"), (0, u "max"), (0, u "(II)I"), (3, u "law"), (0, u "(IIIIII)Z")] 6

def k1m0 : Method := { name := "<init>", desc := "()V", sig := { parameters := [], returnType := none }, accessFlags := 2, code := none }
def k1c1 : Code := { maxStack := 3, maxLocals := 1, code := method_2_code, exceptionTable := #[], attributes := #[] }
def k1m1 : Method := { name := "pick", desc := "(I)B", sig := { parameters := [.int], returnType := some .byte }, accessFlags := 10, code := some k1c1 }
def k1c2 : Code := { maxStack := 2, maxLocals := 2, code := method_3_code, exceptionTable := #[], attributes := #[] }
def k1m2 : Method := { name := "dig", desc := "(B)I", sig := { parameters := [.byte], returnType := some .int }, accessFlags := 10, code := some k1c2 }
def k1c3 : Code := { maxStack := 5, maxLocals := 14, code := code, exceptionTable := #[], attributes := #[] }
def k1m3 : Method := { name := "law", desc := "(IIIIII)Z", sig := { parameters := [.int, .int, .int, .int, .int, .int], returnType := some .boolean }, accessFlags := 9, code := some k1c3 }
/-- com/example/stackwise/stackwise/input/DecimalsDigitsPinLaw -/
def k1 : Class := { plain "com/example/stackwise/stackwise/input/DecimalsDigitsPinLaw" (some 0) with
  accessFlags := 49
  interfaces := #[]
  cf := some (fileOf pool1 8 #[] #[{ accessFlags := 2, nameIndex := 5, descriptorIndex := 6, attributes := #[] }, { accessFlags := 10, nameIndex := 11, descriptorIndex := 12, attributes := #[] }, { accessFlags := 10, nameIndex := 22, descriptorIndex := 23, attributes := #[] }, { accessFlags := 9, nameIndex := 33, descriptorIndex := 34, attributes := #[] }] 49 2 #[] #[])
  fields := #[]
  methods := #[k1m0, k1m1, k1m2, k1m3]
  instanceTypes := #[]
  staticTypes := #[]
  resolved := Array.replicate 41 none
  statics := none }

def pool2 : Array CpInfo := pool [(2, .class_ 4), (1, u "java/lang/Object"), (0, u "<init>"), (0, u "()V"), (18, .class_ 26), (0, u "com/example/stackwise/stackwise/input/Decimals$Reading"), (40, .class_ 68), (0, u "com/example/stackwise/stackwise/input/Decimals"), (2, u "MAX_DIGITS"), (0, u "I"), (2, u "LONG_DIGITS"), (8, u "digits"), (0, u "([BII)I")] 21

def k2m0 : Method := { name := "<init>", desc := "()V", sig := { parameters := [], returnType := none }, accessFlags := 2, code := none }
def k2c1 : Code := { maxStack := 3, maxLocals := 6, code := prog_15_method_3_code, exceptionTable := #[], attributes := #[] }
def k2m1 : Method := { name := "digits", desc := "([BII)I", sig := { parameters := [(.array .byte), .int, .int], returnType := some .int }, accessFlags := 9, code := some k2c1 }
/-- com/example/stackwise/stackwise/input/Decimals -/
def k2 : Class := { plain "com/example/stackwise/stackwise/input/Decimals" (some 0) with
  accessFlags := 49
  interfaces := #[]
  cf := some (fileOf pool2 67 #[.nestMembers #[25]] #[{ accessFlags := 2, nameIndex := 5, descriptorIndex := 6, attributes := #[] }, { accessFlags := 9, nameIndex := 84, descriptorIndex := 85, attributes := #[] }] 49 2 #[] #[{ accessFlags := 24, nameIndex := 71, descriptorIndex := 72, attributes := #[] }, { accessFlags := 26, nameIndex := 75, descriptorIndex := 72, attributes := #[] }])
  fields := #[{ name := "MAX_DIGITS", type := .int, accessFlags := 24, slot := 0, constantValue := 0 }, { name := "LONG_DIGITS", type := .int, accessFlags := 26, slot := 1, constantValue := 0 }]
  methods := #[k2m0, k2m1]
  instanceTypes := #[]
  staticTypes := #[.int, .int]
  resolved := Array.replicate 107 none
  statics := none }

def pool3 : Array CpInfo := pool [(1, .class_ 2), (0, u "java/lang/Math"), (1, .class_ 6), (1, u "java/lang/Object"), (0, u "<init>"), (0, u "()V"), (89, .class_ 100), (1, u "java/lang/Math$RandomNumberGeneratorHolder"), (71, u "negativeZeroFloatBits"), (0, u "J"), (2, u "negativeZeroDoubleBits"), (21, u "max"), (46, u "$assertionsDisabled"), (0, u "Z"), (88, u "(II)I"), (2, u "twoToTheDoubleScaleDown"), (0, u "D"), (4, u "twoToTheDoubleScaleUp"), (9, u "E"), (3, u "PI"), (2, u "TAU"), (2, u "DEGREES_TO_RADIANS"), (0, u "RADIANS_TO_DEGREES")] 94

def k3m0 : Method := { name := "<init>", desc := "()V", sig := { parameters := [], returnType := none }, accessFlags := 2, code := none }
def k3c1 : Code := { maxStack := 2, maxLocals := 2, code := jdk_29_method_65_code, exceptionTable := #[], attributes := #[] }
def k3m1 : Method := { name := "max", desc := "(II)I", sig := { parameters := [.int, .int], returnType := some .int }, accessFlags := 9, code := some k3c1 }
/-- java/lang/Math -/
def k3 : Class := { plain "java/lang/Math" (some 0) with
  accessFlags := 49
  interfaces := #[]
  cf := some (fileOf pool3 1 #[.nestMembers #[98]] #[{ accessFlags := 2, nameIndex := 7, descriptorIndex := 8, attributes := #[] }, { accessFlags := 9, nameIndex := 198, descriptorIndex := 335, attributes := #[] }] 49 4 #[] #[{ accessFlags := 25, nameIndex := 354, descriptorIndex := 339, attributes := #[] }, { accessFlags := 25, nameIndex := 358, descriptorIndex := 339, attributes := #[] }, { accessFlags := 25, nameIndex := 361, descriptorIndex := 339, attributes := #[] }, { accessFlags := 26, nameIndex := 364, descriptorIndex := 339, attributes := #[] }, { accessFlags := 26, nameIndex := 365, descriptorIndex := 339, attributes := #[] }, { accessFlags := 26, nameIndex := 172, descriptorIndex := 173, attributes := #[] }, { accessFlags := 26, nameIndex := 176, descriptorIndex := 173, attributes := #[] }, { accessFlags := 8, nameIndex := 344, descriptorIndex := 339, attributes := #[] }, { accessFlags := 8, nameIndex := 338, descriptorIndex := 339, attributes := #[] }, { accessFlags := 4120, nameIndex := 245, descriptorIndex := 246, attributes := #[] }])
  fields := #[{ name := "E", type := .double, accessFlags := 25, slot := 0, constantValue := 0 }, { name := "PI", type := .double, accessFlags := 25, slot := 1, constantValue := 0 }, { name := "TAU", type := .double, accessFlags := 25, slot := 2, constantValue := 0 }, { name := "DEGREES_TO_RADIANS", type := .double, accessFlags := 26, slot := 3, constantValue := 0 }, { name := "RADIANS_TO_DEGREES", type := .double, accessFlags := 26, slot := 4, constantValue := 0 }, { name := "negativeZeroFloatBits", type := .long, accessFlags := 26, slot := 5, constantValue := 0 }, { name := "negativeZeroDoubleBits", type := .long, accessFlags := 26, slot := 6, constantValue := 0 }, { name := "twoToTheDoubleScaleUp", type := .double, accessFlags := 8, slot := 7, constantValue := 0 }, { name := "twoToTheDoubleScaleDown", type := .double, accessFlags := 8, slot := 8, constantValue := 0 }, { name := "$assertionsDisabled", type := .boolean, accessFlags := 4120, slot := 9, constantValue := 0 }]
  methods := #[k3m0, k3m1]
  instanceTypes := #[]
  staticTypes := #[.double, .double, .double, .double, .double, .long, .long, .double, .double, .boolean]
  resolved := Array.replicate 460 none
  statics := none }

def pool4 : Array CpInfo := pool [(1, u "java/lang/Cloneable"), (0, .class_ 1), (0, u "java/lang/Object"), (0, .class_ 3)] 3

/-- java/lang/Cloneable -/
def k4 : Class := { plain "java/lang/Cloneable" (some 0) with
  accessFlags := 1537
  interfaces := #[]
  cf := some (fileOf pool4 2 #[] #[] 1537 4 #[] #[])
  fields := #[]
  methods := #[]
  instanceTypes := #[]
  staticTypes := #[]
  resolved := Array.replicate 8 none
  statics := none }

def pool5 : Array CpInfo := pool [(1, u "java/io/Serializable"), (0, .class_ 1), (0, u "java/lang/Object"), (0, .class_ 3)] 3

/-- java/io/Serializable -/
def k5 : Class := { plain "java/io/Serializable" (some 0) with
  accessFlags := 1537
  interfaces := #[]
  cf := some (fileOf pool5 2 #[] #[] 1537 4 #[] #[])
  fields := #[]
  methods := #[]
  instanceTypes := #[]
  staticTypes := #[]
  resolved := Array.replicate 8 none
  statics := none }

/-- the primitive byte -/
def k6 : Class := { plain "byte" none with kind := .primitive 'B', accessFlags := 0x411 }
/-- [B -/
def k7 : Class := { plain "[B" (some 0) with kind := .array 6 .byte, interfaces := #[4, 5], accessFlags := 1041 }

/-- the primitive int -/
def k8 : Class := { plain "int" none with kind := .primitive 'I', accessFlags := 0x411 }
/-- [I -/
def k9 : Class := { plain "[I" (some 0) with kind := .array 8 .int, interfaces := #[4, 5], accessFlags := 1041 }

def heap : Heap := #[]
def classes : Array Class := #[k0, k1, k2, k3, k4, k5, k6, k7, k8, k9]
def interned : List (Array UInt16 × Addr) := []
def slotsUsed : Nat := 0
def theMethod : MethodId := ⟨1, 3⟩
def args0 : Array Value := #[.int 5, .int 6, .int 7, .int 8, .int 9, .int 10]
def aboutOver (below : List Frame) : State where
  vm := { classes := classes, interned := interned.toArray }
  heap := heap
  slotsUsed := slotsUsed
  threads := #[{ frames := .invoking theMethod args0 :: below }]
def below0 : List Frame := [.native { method := ⟨0, 0⟩, args := #[] }]
def about1 : State := aboutOver below0
def p0 : Program := .bare "" "" ""
def e0 : Env := launch0.env 0 0 0
theorem w_frames : about1.frames = Frame.invoking theMethod args0 :: below0 := rfl
set_option maxRecDepth 65536 in
theorem w_args : argsFit about1.vm theMethod args0 = true := by decide +kernel
set_option maxRecDepth 65536 in
theorem w_heap : heapFits about1 = true := by decide +kernel
set_option maxRecDepth 65536 in
theorem w_runnable : about1.curStatus? = some .runnable := by decide +kernel
set_option maxRecDepth 65536 in
theorem w_alone : about1.alone = true := by decide +kernel
set_option maxRecDepth 65536 in
theorem w_named : about1.methodNamed? x = some theMethod := by decide +kernel
set_option maxRecDepth 65536 in
theorem w_hears : about1.hears theMethod below0 = true := by decide +kernel
set_option maxRecDepth 65536 in
theorem w_ripe : about1.ripe theMethod args0 below0 = true := by decide +kernel
theorem w_running : about1.status = .running := rfl
set_option maxRecDepth 65536 in
theorem w_room : about1.hasRoom e0.platform room_1 = true :=
  launch0.hasRoom_least _ room_1 (by decide +kernel) (by decide +kernel) (by decide +kernel) (by decide +kernel) (by decide +kernel) (by decide +kernel)
theorem allAtoms_all (ts : List Jvm.Cond) (a : Array Jvm.Value) (st : Jvm.State) : (allAtoms ts).before a st = ts.all (fun c => c.before a st) := by
  induction ts with
  | nil => rfl
  | cons c t ih =>
    show (Jvm.Cond.and c (allAtoms t)).before a st = _
    rw [Jvm.Cond.before_and, ih, List.all_cons]
def words1 : List Jvm.Cond := Jvm.Cond.code x code maxLocals ret :: tables_1
/-- a 'code' word, met by the world's own term for the bytes: nothing is compared byte by byte -/
theorem code_word {y : MethodName} {bytes : ByteArray} {mx : Nat} {rt : Option FieldType} {a : Array Value} {s : State} {m : MethodId} {meth : Method} {c : Code} (h1 : s.methodNamed? y = some m) (h2 : s.vm.method? m = some meth) (h3 : meth.code = some c) (h4 : c.code = bytes)
    (h5 : (c.maxLocals == mx && c.exceptionTable.isEmpty && decide (c.maxStack ≤ mostOperands) && decide (meth.sig.returnType = rt) && !meth.locks && decide (parseMethodDescriptor y.desc = some meth.sig)) = true) : (Jvm.Cond.code y bytes mx rt).before a s = true := by
  simp only [Bool.and_eq_true, beq_iff_eq, Bool.not_eq_true', decide_eq_true_eq] at h5
  obtain ⟨⟨⟨⟨⟨g1, g2⟩, g3⟩, g4⟩, g5⟩, g6⟩ := h5
  simp [Cond.before, Cond.holds, Cond.value, h1, h2, h3, h4, g1, g2, g3, g4, g5, g6]
def isCode : Jvm.Cond → Bool
  | .code _ _ _ _ => true
  | _ => false
theorem all_split {L : List Jvm.Cond} {P : Jvm.Cond → Bool} (h1 : L.all (fun c => isCode c || P c) = true) (h2 : ∀ c ∈ L.filter isCode, P c = true) : L.all P = true := by
  refine List.all_eq_true.mpr fun c hc => ?_
  have h := List.all_eq_true.mp h1 c hc
  rcases Bool.eq_false_or_eq_true (isCode c) with hi | hi
  · exact h2 c (List.mem_filter.mpr ⟨hc, hi⟩)
  · simpa [hi] using h
set_option maxRecDepth 65536 in
theorem w_c0 : (Jvm.Cond.code x code maxLocals ret).before args0 about1 = true := code_word (m := ⟨1, 3⟩) (meth := k1m3) (c := k1c3) (by decide +kernel) rfl rfl rfl (by decide +kernel)
set_option maxRecDepth 65536 in
theorem w_c1 : (Jvm.Cond.code ({ cls := "com/example/stackwise/stackwise/input/DecimalsDigitsPinLaw", name := "pick", desc := "(I)B" } : Jvm.MethodName) method_2_code (1 : Nat) (Option.some Jvm.ClassFile.FieldType.byte)).before args0 about1 = true := code_word (m := ⟨1, 1⟩) (meth := k1m1) (c := k1c1) (by decide +kernel) rfl rfl rfl (by decide +kernel)
set_option maxRecDepth 65536 in
theorem w_c2 : (Jvm.Cond.code ({ cls := "com/example/stackwise/stackwise/input/Decimals", name := "digits", desc := "([BII)I" } : Jvm.MethodName) prog_15_method_3_code (6 : Nat) (Option.some Jvm.ClassFile.FieldType.int)).before args0 about1 = true := code_word (m := ⟨2, 1⟩) (meth := k2m1) (c := k2c1) (by decide +kernel) rfl rfl rfl (by decide +kernel)
set_option maxRecDepth 65536 in
theorem w_c3 : (Jvm.Cond.code ({ cls := "com/example/stackwise/stackwise/input/DecimalsDigitsPinLaw", name := "dig", desc := "(B)I" } : Jvm.MethodName) method_3_code (2 : Nat) (Option.some Jvm.ClassFile.FieldType.int)).before args0 about1 = true := code_word (m := ⟨1, 2⟩) (meth := k1m2) (c := k1c2) (by decide +kernel) rfl rfl rfl (by decide +kernel)
set_option maxRecDepth 65536 in
theorem w_c4 : (Jvm.Cond.code ({ cls := "java/lang/Math", name := "max", desc := "(II)I" } : Jvm.MethodName) jdk_29_method_65_code (2 : Nat) (Option.some Jvm.ClassFile.FieldType.int)).before args0 about1 = true := code_word (m := ⟨3, 1⟩) (meth := k3m1) (c := k3c1) (by decide +kernel) rfl rfl rfl (by decide +kernel)
def codes1 : List Jvm.Cond := [Jvm.Cond.code x code maxLocals ret, Jvm.Cond.code ({ cls := "com/example/stackwise/stackwise/input/DecimalsDigitsPinLaw", name := "pick", desc := "(I)B" } : Jvm.MethodName) method_2_code (1 : Nat) (Option.some Jvm.ClassFile.FieldType.byte), Jvm.Cond.code ({ cls := "com/example/stackwise/stackwise/input/Decimals", name := "digits", desc := "([BII)I" } : Jvm.MethodName) prog_15_method_3_code (6 : Nat) (Option.some Jvm.ClassFile.FieldType.int), Jvm.Cond.code ({ cls := "com/example/stackwise/stackwise/input/DecimalsDigitsPinLaw", name := "dig", desc := "(B)I" } : Jvm.MethodName) method_3_code (2 : Nat) (Option.some Jvm.ClassFile.FieldType.int), Jvm.Cond.code ({ cls := "java/lang/Math", name := "max", desc := "(II)I" } : Jvm.MethodName) jdk_29_method_65_code (2 : Nat) (Option.some Jvm.ClassFile.FieldType.int)]
set_option maxRecDepth 65536 in
theorem codes_eq : words1.filter isCode = codes1 := rfl
theorem w_codes : ∀ c ∈ words1.filter isCode, c.before args0 about1 = true := by
  rw [codes_eq]
  intro c hc
  simp only [codes1, List.mem_cons, List.not_mem_nil, or_false] at hc
  rcases hc with rfl | rfl | rfl | rfl | rfl
  · exact w_c0
  · exact w_c1
  · exact w_c2
  · exact w_c3
  · exact w_c4
set_option maxRecDepth 65536 in
theorem w_t1 : words1.all (fun c => isCode c || c.before args0 about1) = true := by decide +kernel
theorem w_tables : (allAtoms (Jvm.Cond.code x code maxLocals ret :: tables_1)).before args0 about1 = true := by
  rw [allAtoms_all]
  show words1.all (fun c => c.before args0 about1) = true
  refine all_split ?_ w_codes
  rw [w_t1]
set_option maxRecDepth 65536 in
theorem w_case : (Jvm.Cond.and given_1 narrow_1).before args0 about1 = true := by decide +kernel
theorem w_applies : (headSpec (Jvm.Cond.code x code maxLocals ret :: tables_1) room_1).applies x e0.platform about1 = true :=
  (Spec.applies_iff w_frames).mpr ⟨w_running, w_runnable, w_alone, w_named, w_hears, w_ripe, w_room, w_tables⟩
theorem atStart : AtStart classFile x code maxLocals ret World_1 tables_1 room_1 Calls_1 rest_1 Pre_1 launch0 p0 e0 about1 theMethod args0 below0 :=
  ⟨lists_1, trivial, launch0.admits_env _ _ _, launch0.least_env, fairChoices_fair.cas, fairChoices_fair.clock, w_frames, w_args, w_heap, w_applies, trivial, trivial, w_case⟩
end start1
theorem witness_1 : WitnessClaimed_1 := ⟨start1.p0, start1.e0, start1.about1, start1.theMethod, start1.args0, start1.below0, start1.atStart⟩
end Jvm.Pilot.@@N@@
