import JvmDerived
import JvmDerived.Pilot.@@N@@Statement
import JvmDerived.Pilot.@@N@@Code
set_option linter.unusedVariables false
set_option linter.unusedSimpArgs false
namespace Jvm.OwnKit
open Sem ClassFile Op Lib Jvm.Stand Jvm.Free Jvm.LawKit Jvm.RoadKit
section OwnKit
set_option maxHeartbeats 4000000
variable {p : Program} {l : Launch} {e : Env} {R : Room} {s : State} {m : MethodId} {args : Array Value} {below : List Frame} {meth : Method} {c : Code} {Z : State} {own : String} {bytes : ByteArray} {maxL : Nat} {ret : Option FieldType} {n0 : Nat} {s₀ : State} {h : Heap} {k j pc : Nat} {L : Array Slot} {S : List Value} {a0 : Array Value}
/-- where a walk stands -/
def Go (p : Program) (l : Launch) (e : Env) (R : Room) (s : State) (m : MethodId) (args : Array Value) (below : List Frame) (meth : Method) (c : Code) (Z : State) (own : String) (bytes : ByteArray) (maxL : Nat) (ret : Option FieldType) (n0 : Nat) (s₀ : State) (h : Heap) (k j pc : Nat) (L : Array Slot) (S : List Value) : Prop :=
  (p.tables.exec = Jvm.exec ∧ c.code = bytes ∧ c.maxLocals = maxL ∧ Z.Warmed39 s.vm ∧ s.vm.findClass own = some m.cls ∧ meth.sig.returnType = ret ∧ meth.locks = false ∧ n0 ≤ s.heap.size) ∧
  ∃ (T : State) (locs : List Loc), Stand p l e R s m args below meth c T locs k j ∧ T.heap = h ∧ Fr n0 locs ∧ ∀ t, Steps p.tables e below (T.setTop (mkF m pc L S)) t → Steps p.tables e below s₀ t
/-- how a walk ends -/
def Fini (p : Program) (e : Env) (below : List Frame) (s s₀ : State) (n0 kc js : Nat) (Q : Option Value → Heap → Prop) : Prop :=
  ∃ s₂ o, Steps p.tables e below s₀ s₂ ∧ s₂.status = .running ∧ Ended s₂ below o ∧ ∃ v L, o = .returned v ∧ (Q v s₂.heap ∧ Fr n0 L) ∧ FrameEnd s o s₂ L kc js
/-- a body's contract at one heap and these arguments -/
def Con (l : Launch) (y : MethodName) (bytes : ByteArray) (maxL : Nat) (ret : Option FieldType) (ws : List Cond) (rm : Room) (kc js : Nat) (Z : State) (as' : Array Value) (h0 : Heap) (n0 : Nat) (Q : Option Value → Heap → Prop) : Prop :=
  MetFree l y (head1 (Cond.code y bytes maxL ret :: ws) rm) (fun a U => a = as' ∧ Z.Warmed39 U.vm ∧ U.heap = h0) (fun _ _ _ _ _ => True) (fun _ U o U' => ∃ v L, o = .returned v ∧ (Q v U'.heap ∧ Fr n0 L) ∧ FrameEnd U o U' L kc js)
theorem Con.of {y : MethodName} {ws : List Cond} {rm : Room} {kc js : Nat} {as' : Array Value} {h0 : Heap} {L0 : Array Slot} {Q : Option Value → Heap → Prop} (hpl : plainFor y = true) (hn : n0 ≤ h0.size) (hef : ∀ m, entryFrame m as' maxL = mkF m 0 L0 [])
    (body : ∀ (p : Program) (e : Env) (s : State) (m : MethodId) (below : List Frame) (meth : Method) (c : Code) (s₀ : State), meth.name = y.name → Go p l e rm s m as' below meth c Z y.cls bytes maxL ret n0 s₀ h0 0 0 0 L0 [] → Fini p e below s s₀ n0 kc js Q) : Con l y bytes maxL ret ws rm kc js Z as' h0 n0 Q := by
  refine MetFree.of_bodySF hpl hisR ?_
  intro p e s m args below meth c s₁ Bd hml0 hP hK
  obtain ⟨rfl, hZ, hh⟩ := hP
  have hx := Bd.exec
  have X0 : Stand p l e rm s m args below meth c s₁ [] 0 0 := Stand.of_body Bd
  exact body p e s m below meth c _ (name_of_methodNamed Bd.named Bd.method).1 ⟨⟨hx, Bd.bytes, hml0, hZ, findClass_of_methodNamed Bd.named, Bd.returns, Bd.notSynchronized, by rw [hh]; exact hn⟩, s₁, [], X0, by rw [← hh, Bd.state]; rfl, Fr.nil n0, fun t k => castTop (hef m) k⟩
/-- the same contract with a weaker word -/
theorem Fini.mono {kc js : Nat} {Q Q' : Option Value → Heap → Prop} (F : Fini p e below s s₀ n0 kc js Q) (hq : ∀ v h, Q v h → Q' v h) : Fini p e below s s₀ n0 kc js Q' := by
  obtain ⟨s₂, o, a1, a2, a3, v, L, a4, ⟨a5, a6⟩, a7⟩ := F
  exact ⟨s₂, o, a1, a2, a3, v, L, a4, ⟨hq _ _ a5, a6⟩, a7⟩
theorem Go.step {pc' : Nat} {L' : Array Slot} {S' : List Value} (G : Go p l e R s m args below meth c Z own bytes maxL ret n0 s₀ h k j pc L S) (f : ∀ T locs, Stand p l e R s m args below meth c T locs k j → T.heap = h → p.tables.exec = Jvm.exec → c.code = bytes → ∀ t, Steps p.tables e below (T.setTop (mkF m pc' L' S')) t → Steps p.tables e below (T.setTop (mkF m pc L S)) t) : Go p l e R s m args below meth c Z own bytes maxL ret n0 s₀ h k j pc' L' S' := by
  obtain ⟨⟨hx, hb, r⟩, T, locs, X, eT, N, st⟩ := G
  exact ⟨⟨hx, hb, r⟩, T, locs, X, eT, N, fun t q => st t (f T locs X eT hx hb t q)⟩
theorem Go.size (G : Go p l e R s m args below meth c Z own bytes maxL ret n0 s₀ h k j pc L S) : n0 ≤ h.size := by
  obtain ⟨⟨_, _, _, _, _, _, _, hn⟩, T, locs, X, eT, N, st⟩ := G
  have q : s.heap.size ≤ T.heap.size := X.same.2.1
  rw [← eT]; exact Nat.le_trans hn q
theorem Go.iadd {x y : Int32} (G : Go p l e R s m args below meth c Z own bytes maxL ret n0 s₀ h k j pc L (.int y :: .int x :: S)) (hd : decode bytes pc = .ok (.iadd, 1))  {pc' : Nat} (hp : pc + 1 = pc' := by rfl) : Go p l e R s m args below meth c Z own bytes maxL ret n0 s₀ h k j pc' L (.int (x + y) :: S) := by
  subst hp; exact G.step fun T locs X eT hx hb t q => XS.iadd X.here hx rfl (Jvm.hb hb hd) rfl  q
theorem Go.isub {x y : Int32} (G : Go p l e R s m args below meth c Z own bytes maxL ret n0 s₀ h k j pc L (.int y :: .int x :: S)) (hd : decode bytes pc = .ok (.isub, 1))  {pc' : Nat} (hp : pc + 1 = pc' := by rfl) : Go p l e R s m args below meth c Z own bytes maxL ret n0 s₀ h k j pc' L (.int (x - y) :: S) := by
  subst hp; exact G.step fun T locs X eT hx hb t q => XS.isub X.here hx rfl (Jvm.hb hb hd) rfl  q
theorem Go.imul {x y : Int32} (G : Go p l e R s m args below meth c Z own bytes maxL ret n0 s₀ h k j pc L (.int y :: .int x :: S)) (hd : decode bytes pc = .ok (.imul, 1))  {pc' : Nat} (hp : pc + 1 = pc' := by rfl) : Go p l e R s m args below meth c Z own bytes maxL ret n0 s₀ h k j pc' L (.int (x * y) :: S) := by
  subst hp; exact G.step fun T locs X eT hx hb t q => XS.imul X.here hx rfl (Jvm.hb hb hd) rfl  q
theorem Go.iand {x y : Int32} (G : Go p l e R s m args below meth c Z own bytes maxL ret n0 s₀ h k j pc L (.int y :: .int x :: S)) (hd : decode bytes pc = .ok (.iand, 1))  {pc' : Nat} (hp : pc + 1 = pc' := by rfl) : Go p l e R s m args below meth c Z own bytes maxL ret n0 s₀ h k j pc' L (.int (x &&& y) :: S) := by
  subst hp; exact G.step fun T locs X eT hx hb t q => XS.iand X.here hx rfl (Jvm.hb hb hd) rfl  q
theorem Go.ior {x y : Int32} (G : Go p l e R s m args below meth c Z own bytes maxL ret n0 s₀ h k j pc L (.int y :: .int x :: S)) (hd : decode bytes pc = .ok (.ior, 1))  {pc' : Nat} (hp : pc + 1 = pc' := by rfl) : Go p l e R s m args below meth c Z own bytes maxL ret n0 s₀ h k j pc' L (.int (x ||| y) :: S) := by
  subst hp; exact G.step fun T locs X eT hx hb t q => XS.ior X.here hx rfl (Jvm.hb hb hd) rfl  q
theorem Go.ixor {x y : Int32} (G : Go p l e R s m args below meth c Z own bytes maxL ret n0 s₀ h k j pc L (.int y :: .int x :: S)) (hd : decode bytes pc = .ok (.ixor, 1))  {pc' : Nat} (hp : pc + 1 = pc' := by rfl) : Go p l e R s m args below meth c Z own bytes maxL ret n0 s₀ h k j pc' L (.int (x ^^^ y) :: S) := by
  subst hp; exact G.step fun T locs X eT hx hb t q => XS.ixor X.here hx rfl (Jvm.hb hb hd) rfl  q
theorem Go.ishl {x y : Int32} (G : Go p l e R s m args below meth c Z own bytes maxL ret n0 s₀ h k j pc L (.int y :: .int x :: S)) (hd : decode bytes pc = .ok (.ishl, 1))  {pc' : Nat} (hp : pc + 1 = pc' := by rfl) : Go p l e R s m args below meth c Z own bytes maxL ret n0 s₀ h k j pc' L (.int (x <<< (y &&& 31)) :: S) := by
  subst hp; exact G.step fun T locs X eT hx hb t q => XS.ishl X.here hx rfl (Jvm.hb hb hd) rfl  q
theorem Go.ishr {x y : Int32} (G : Go p l e R s m args below meth c Z own bytes maxL ret n0 s₀ h k j pc L (.int y :: .int x :: S)) (hd : decode bytes pc = .ok (.ishr, 1))  {pc' : Nat} (hp : pc + 1 = pc' := by rfl) : Go p l e R s m args below meth c Z own bytes maxL ret n0 s₀ h k j pc' L (.int (x >>> (y &&& 31)) :: S) := by
  subst hp; exact G.step fun T locs X eT hx hb t q => XS.ishr X.here hx rfl (Jvm.hb hb hd) rfl  q
theorem Go.iushr {x y : Int32} (G : Go p l e R s m args below meth c Z own bytes maxL ret n0 s₀ h k j pc L (.int y :: .int x :: S)) (hd : decode bytes pc = .ok (.iushr, 1))  {pc' : Nat} (hp : pc + 1 = pc' := by rfl) : Go p l e R s m args below meth c Z own bytes maxL ret n0 s₀ h k j pc' L (.int ((x.toUInt32 >>> (y &&& 31).toUInt32).toInt32) :: S) := by
  subst hp; exact G.step fun T locs X eT hx hb t q => XS.iushr X.here hx rfl (Jvm.hb hb hd) rfl  q
theorem Go.ladd {x y : Int64} (G : Go p l e R s m args below meth c Z own bytes maxL ret n0 s₀ h k j pc L (.long y :: .long x :: S)) (hd : decode bytes pc = .ok (.ladd, 1))  {pc' : Nat} (hp : pc + 1 = pc' := by rfl) : Go p l e R s m args below meth c Z own bytes maxL ret n0 s₀ h k j pc' L (.long (x + y) :: S) := by
  subst hp; exact G.step fun T locs X eT hx hb t q => XS.ladd X.here hx rfl (Jvm.hb hb hd) rfl  q
theorem Go.lsub {x y : Int64} (G : Go p l e R s m args below meth c Z own bytes maxL ret n0 s₀ h k j pc L (.long y :: .long x :: S)) (hd : decode bytes pc = .ok (.lsub, 1))  {pc' : Nat} (hp : pc + 1 = pc' := by rfl) : Go p l e R s m args below meth c Z own bytes maxL ret n0 s₀ h k j pc' L (.long (x - y) :: S) := by
  subst hp; exact G.step fun T locs X eT hx hb t q => XS.lsub X.here hx rfl (Jvm.hb hb hd) rfl  q
theorem Go.lmul {x y : Int64} (G : Go p l e R s m args below meth c Z own bytes maxL ret n0 s₀ h k j pc L (.long y :: .long x :: S)) (hd : decode bytes pc = .ok (.lmul, 1))  {pc' : Nat} (hp : pc + 1 = pc' := by rfl) : Go p l e R s m args below meth c Z own bytes maxL ret n0 s₀ h k j pc' L (.long (x * y) :: S) := by
  subst hp; exact G.step fun T locs X eT hx hb t q => XS.lmul X.here hx rfl (Jvm.hb hb hd) rfl  q
theorem Go.land {x y : Int64} (G : Go p l e R s m args below meth c Z own bytes maxL ret n0 s₀ h k j pc L (.long y :: .long x :: S)) (hd : decode bytes pc = .ok (.land, 1))  {pc' : Nat} (hp : pc + 1 = pc' := by rfl) : Go p l e R s m args below meth c Z own bytes maxL ret n0 s₀ h k j pc' L (.long (x &&& y) :: S) := by
  subst hp; exact G.step fun T locs X eT hx hb t q => XS.land X.here hx rfl (Jvm.hb hb hd) rfl  q
theorem Go.lor {x y : Int64} (G : Go p l e R s m args below meth c Z own bytes maxL ret n0 s₀ h k j pc L (.long y :: .long x :: S)) (hd : decode bytes pc = .ok (.lor, 1))  {pc' : Nat} (hp : pc + 1 = pc' := by rfl) : Go p l e R s m args below meth c Z own bytes maxL ret n0 s₀ h k j pc' L (.long (x ||| y) :: S) := by
  subst hp; exact G.step fun T locs X eT hx hb t q => XS.lor X.here hx rfl (Jvm.hb hb hd) rfl  q
theorem Go.lxor {x y : Int64} (G : Go p l e R s m args below meth c Z own bytes maxL ret n0 s₀ h k j pc L (.long y :: .long x :: S)) (hd : decode bytes pc = .ok (.lxor, 1))  {pc' : Nat} (hp : pc + 1 = pc' := by rfl) : Go p l e R s m args below meth c Z own bytes maxL ret n0 s₀ h k j pc' L (.long (x ^^^ y) :: S) := by
  subst hp; exact G.step fun T locs X eT hx hb t q => XS.lxor X.here hx rfl (Jvm.hb hb hd) rfl  q
theorem Go.lshl {x : Int64} {y : Int32} (G : Go p l e R s m args below meth c Z own bytes maxL ret n0 s₀ h k j pc L (.int y :: .long x :: S)) (hd : decode bytes pc = .ok (.lshl, 1))  {pc' : Nat} (hp : pc + 1 = pc' := by rfl) : Go p l e R s m args below meth c Z own bytes maxL ret n0 s₀ h k j pc' L (.long (x <<< (y &&& 0x3f).toInt64) :: S) := by
  subst hp; exact G.step fun T locs X eT hx hb t q => XS.lshl X.here hx rfl (Jvm.hb hb hd) rfl  q
theorem Go.lshr {x : Int64} {y : Int32} (G : Go p l e R s m args below meth c Z own bytes maxL ret n0 s₀ h k j pc L (.int y :: .long x :: S)) (hd : decode bytes pc = .ok (.lshr, 1))  {pc' : Nat} (hp : pc + 1 = pc' := by rfl) : Go p l e R s m args below meth c Z own bytes maxL ret n0 s₀ h k j pc' L (.long (x >>> (y &&& 0x3f).toInt64) :: S) := by
  subst hp; exact G.step fun T locs X eT hx hb t q => XS.lshr X.here hx rfl (Jvm.hb hb hd) rfl  q
theorem Go.lushr {x : Int64} {y : Int32} (G : Go p l e R s m args below meth c Z own bytes maxL ret n0 s₀ h k j pc L (.int y :: .long x :: S)) (hd : decode bytes pc = .ok (.lushr, 1))  {pc' : Nat} (hp : pc + 1 = pc' := by rfl) : Go p l e R s m args below meth c Z own bytes maxL ret n0 s₀ h k j pc' L (.long ((x.toUInt64 >>> (y &&& 0x3f).toInt64.toUInt64).toInt64) :: S) := by
  subst hp; exact G.step fun T locs X eT hx hb t q => XS.lushr X.here hx rfl (Jvm.hb hb hd) rfl  q
theorem Go.ineg {x : Int32} (G : Go p l e R s m args below meth c Z own bytes maxL ret n0 s₀ h k j pc L (.int x :: S)) (hd : decode bytes pc = .ok (.ineg, 1))  {pc' : Nat} (hp : pc + 1 = pc' := by rfl) : Go p l e R s m args below meth c Z own bytes maxL ret n0 s₀ h k j pc' L (.int (-x) :: S) := by
  subst hp; exact G.step fun T locs X eT hx hb t q => XS.ineg X.here hx rfl (Jvm.hb hb hd) rfl  q
theorem Go.lneg {x : Int64} (G : Go p l e R s m args below meth c Z own bytes maxL ret n0 s₀ h k j pc L (.long x :: S)) (hd : decode bytes pc = .ok (.lneg, 1))  {pc' : Nat} (hp : pc + 1 = pc' := by rfl) : Go p l e R s m args below meth c Z own bytes maxL ret n0 s₀ h k j pc' L (.long (-x) :: S) := by
  subst hp; exact G.step fun T locs X eT hx hb t q => XS.lneg X.here hx rfl (Jvm.hb hb hd) rfl  q
theorem Go.i2l {x : Int32} (G : Go p l e R s m args below meth c Z own bytes maxL ret n0 s₀ h k j pc L (.int x :: S)) (hd : decode bytes pc = .ok (.i2l, 1))  {pc' : Nat} (hp : pc + 1 = pc' := by rfl) : Go p l e R s m args below meth c Z own bytes maxL ret n0 s₀ h k j pc' L (.long (x.toInt64) :: S) := by
  subst hp; exact G.step fun T locs X eT hx hb t q => XS.i2l X.here hx rfl (Jvm.hb hb hd) rfl  q
theorem Go.l2i {x : Int64} (G : Go p l e R s m args below meth c Z own bytes maxL ret n0 s₀ h k j pc L (.long x :: S)) (hd : decode bytes pc = .ok (.l2i, 1))  {pc' : Nat} (hp : pc + 1 = pc' := by rfl) : Go p l e R s m args below meth c Z own bytes maxL ret n0 s₀ h k j pc' L (.int (x.toInt32) :: S) := by
  subst hp; exact G.step fun T locs X eT hx hb t q => XS.l2i X.here hx rfl (Jvm.hb hb hd) rfl  q
theorem Go.i2b {x : Int32} (G : Go p l e R s m args below meth c Z own bytes maxL ret n0 s₀ h k j pc L (.int x :: S)) (hd : decode bytes pc = .ok (.i2b, 1))  {pc' : Nat} (hp : pc + 1 = pc' := by rfl) : Go p l e R s m args below meth c Z own bytes maxL ret n0 s₀ h k j pc' L (.int (x.toInt8.toInt32) :: S) := by
  subst hp; exact G.step fun T locs X eT hx hb t q => XS.i2b X.here hx rfl (Jvm.hb hb hd) rfl  q
theorem Go.i2s {x : Int32} (G : Go p l e R s m args below meth c Z own bytes maxL ret n0 s₀ h k j pc L (.int x :: S)) (hd : decode bytes pc = .ok (.i2s, 1))  {pc' : Nat} (hp : pc + 1 = pc' := by rfl) : Go p l e R s m args below meth c Z own bytes maxL ret n0 s₀ h k j pc' L (.int (x.toInt16.toInt32) :: S) := by
  subst hp; exact G.step fun T locs X eT hx hb t q => XS.i2s X.here hx rfl (Jvm.hb hb hd) rfl  q
theorem Go.i2c {x : Int32} (G : Go p l e R s m args below meth c Z own bytes maxL ret n0 s₀ h k j pc L (.int x :: S)) (hd : decode bytes pc = .ok (.i2c, 1))  {pc' : Nat} (hp : pc + 1 = pc' := by rfl) : Go p l e R s m args below meth c Z own bytes maxL ret n0 s₀ h k j pc' L (.int (x.toUInt32.toUInt16.toUInt32.toInt32) :: S) := by
  subst hp; exact G.step fun T locs X eT hx hb t q => XS.i2c X.here hx rfl (Jvm.hb hb hd) rfl  q
theorem Go.lcmp {x y : Int64} (G : Go p l e R s m args below meth c Z own bytes maxL ret n0 s₀ h k j pc L (.long y :: .long x :: S)) (hd : decode bytes pc = .ok (.lcmp, 1))  {pc' : Nat} (hp : pc + 1 = pc' := by rfl) : Go p l e R s m args below meth c Z own bytes maxL ret n0 s₀ h k j pc' L (.int (Jvm.Free.XT.cmpL x y) :: S) := by
  subst hp; exact G.step fun T locs X eT hx hb t q => Jvm.Free.XT.lcmp X.here hx rfl (Jvm.hb hb hd) rfl  q
theorem Go.idiv {x y : Int32} (G : Go p l e R s m args below meth c Z own bytes maxL ret n0 s₀ h k j pc L (.int y :: .int x :: S)) (hd : decode bytes pc = .ok (.idiv, 1)) (hy : y ≠ 0) {pc' : Nat} (hp : pc + 1 = pc' := by rfl) : Go p l e R s m args below meth c Z own bytes maxL ret n0 s₀ h k j pc' L (.int (x / y) :: S) := by
  subst hp; exact G.step fun T locs X eT hx hb t q => XS.idiv X.here hx rfl (Jvm.hb hb hd) rfl hy q
theorem Go.irem {x y : Int32} (G : Go p l e R s m args below meth c Z own bytes maxL ret n0 s₀ h k j pc L (.int y :: .int x :: S)) (hd : decode bytes pc = .ok (.irem, 1)) (hy : y ≠ 0) {pc' : Nat} (hp : pc + 1 = pc' := by rfl) : Go p l e R s m args below meth c Z own bytes maxL ret n0 s₀ h k j pc' L (.int (x % y) :: S) := by
  subst hp; exact G.step fun T locs X eT hx hb t q => iremM X hx rfl (Jvm.hb hb hd) rfl hy q
theorem Go.lrem {x y : Int64} (G : Go p l e R s m args below meth c Z own bytes maxL ret n0 s₀ h k j pc L (.long y :: .long x :: S)) (hd : decode bytes pc = .ok (.lrem, 1)) (hy : y ≠ 0) {pc' : Nat} (hp : pc + 1 = pc' := by rfl) : Go p l e R s m args below meth c Z own bytes maxL ret n0 s₀ h k j pc' L (.long (x % y) :: S) := by
  subst hp; exact G.step fun T locs X eT hx hb t q => XS.lrem X.here hx rfl (Jvm.hb hb hd) rfl hy (by rw [lrem_mod]; exact q)
theorem Go.iconst {i : Int} (v : Int32) (G : Go p l e R s m args below meth c Z own bytes maxL ret n0 s₀ h k j pc L S) (hd : decode bytes pc = .ok (.iconst i, 1)) (hv : Int32.ofInt i = v := by decide) {pc' : Nat} (hp : pc + 1 = pc' := by rfl) : Go p l e R s m args below meth c Z own bytes maxL ret n0 s₀ h k j pc' L (.int v :: S) := by
  subst hp; exact G.step fun T locs X eT hx hb t q => Jvm.Free.XT.iconstV X.here hx rfl v (Jvm.hb hb hd) hv q
theorem Go.bipush {i : Int} (v : Int32) (G : Go p l e R s m args below meth c Z own bytes maxL ret n0 s₀ h k j pc L S) (hd : decode bytes pc = .ok (.bipush i, 2)) (hv : (Int8.ofInt i).toInt32 = v := by decide) {pc' : Nat} (hp : pc + 2 = pc' := by rfl) : Go p l e R s m args below meth c Z own bytes maxL ret n0 s₀ h k j pc' L (.int v :: S) := by
  subst hp; exact G.step fun T locs X eT hx hb t q => Jvm.Free.XT.bipushV X.here hx rfl v (Jvm.hb hb hd) hv q
theorem Go.sipush {i : Int} (v : Int32) (G : Go p l e R s m args below meth c Z own bytes maxL ret n0 s₀ h k j pc L S) (hd : decode bytes pc = .ok (.sipush i, 3)) (hv : (Int16.ofInt i).toInt32 = v := by decide) {pc' : Nat} (hp : pc + 3 = pc' := by rfl) : Go p l e R s m args below meth c Z own bytes maxL ret n0 s₀ h k j pc' L (.int v :: S) := by
  subst hp; exact G.step fun T locs X eT hx hb t q => Jvm.Free.XT.sipushV X.here hx rfl v (Jvm.hb hb hd) hv q
theorem Go.lconst {i : Fin 2} (v : Int64) (G : Go p l e R s m args below meth c Z own bytes maxL ret n0 s₀ h k j pc L S) (hd : decode bytes pc = .ok (.lconst i, 1)) (hv : Int64.ofNat i = v := by decide) {pc' : Nat} (hp : pc + 1 = pc' := by rfl) : Go p l e R s m args below meth c Z own bytes maxL ret n0 s₀ h k j pc' L (.long v :: S) := by
  subst hp; exact G.step fun T locs X eT hx hb t q => Jvm.Free.XT.lconstV X.here hx rfl v (Jvm.hb hb hd) hv q
theorem Go.aconstNull (G : Go p l e R s m args below meth c Z own bytes maxL ret n0 s₀ h k j pc L S) (hd : decode bytes pc = .ok (.aconst_null, 1)) {pc' : Nat} (hp : pc + 1 = pc' := by rfl) : Go p l e R s m args below meth c Z own bytes maxL ret n0 s₀ h k j pc' L (.null :: S) := by
  subst hp; exact G.step fun T locs X eT hx hb t q => XS.aconstNull X.here hx rfl (Jvm.hb hb hd) q
theorem Go.ldc {i : Nat} {v : Int32} (G : Go p l e R s m args below meth c Z own bytes maxL ret n0 s₀ h k j pc L S) (w : (Cond.constant own i v).before a0 Z = true) (hd : decode bytes pc = .ok (.ldc i, 2)) {pc' : Nat} (hp : pc + 2 = pc' := by rfl) : Go p l e R s m args below meth c Z own bytes maxL ret n0 s₀ h k j pc' L (.int v :: S) := by
  subst hp
  obtain ⟨⟨hx, hb, hm, hZ, ho, r⟩, T, locs, X, eT, N, st⟩ := G
  exact ⟨⟨hx, hb, hm, hZ, ho, r⟩, T, locs, X, eT, N, fun t q => st t (X.ldcInt hx ho (mvT hZ w) (g := mkF m pc L S) rfl (Jvm.hb hb hd) t q)⟩
theorem Go.ldc2 {i : Nat} {v : Int64} (G : Go p l e R s m args below meth c Z own bytes maxL ret n0 s₀ h k j pc L S) (w : (Cond.constantLong own i v).before a0 Z = true) (hd : decode bytes pc = .ok (.ldc2_w i, 3)) {pc' : Nat} (hp : pc + 3 = pc' := by rfl) : Go p l e R s m args below meth c Z own bytes maxL ret n0 s₀ h k j pc' L (.long v :: S) := by
  subst hp
  obtain ⟨⟨hx, hb, hm, hZ, ho, r⟩, T, locs, X, eT, N, st⟩ := G
  exact ⟨⟨hx, hb, hm, hZ, ho, r⟩, T, locs, X, eT, N, fun t q => st t (X.ldc2Long hx ho (mvT hZ w) (g := mkF m pc L S) rfl (Jvm.hb hb hd) t q)⟩
theorem Go.iloadN {i : Fin 4} {v : Int32} (G : Go p l e R s m args below meth c Z own bytes maxL ret n0 s₀ h k j pc L S) (hd : decode bytes pc = .ok (.iload_n i, 1)) (hl : L[i.val]? = some (.val (.int v))) {pc' : Nat} (hp : pc + 1 = pc' := by rfl) : Go p l e R s m args below meth c Z own bytes maxL ret n0 s₀ h k j pc' L (.int v :: S) := by
  subst hp; exact G.step fun T locs X eT hx hb t q => XS.iloadN X.here hx rfl (Jvm.hb hb hd) hl q
theorem Go.iload {i : Nat} {v : Int32} (G : Go p l e R s m args below meth c Z own bytes maxL ret n0 s₀ h k j pc L S) (hd : decode bytes pc = .ok (.iload i, 2)) (hl : L[i]? = some (.val (.int v))) {pc' : Nat} (hp : pc + 2 = pc' := by rfl) : Go p l e R s m args below meth c Z own bytes maxL ret n0 s₀ h k j pc' L (.int v :: S) := by
  subst hp; exact G.step fun T locs X eT hx hb t q => XS.iload X.here hx rfl (Jvm.hb hb hd) hl q
theorem Go.lloadN {i : Fin 4} {v : Int64} (G : Go p l e R s m args below meth c Z own bytes maxL ret n0 s₀ h k j pc L S) (hd : decode bytes pc = .ok (.lload_n i, 1)) (hl : L[i.val]? = some (.val (.long v))) {pc' : Nat} (hp : pc + 1 = pc' := by rfl) : Go p l e R s m args below meth c Z own bytes maxL ret n0 s₀ h k j pc' L (.long v :: S) := by
  subst hp; exact G.step fun T locs X eT hx hb t q => XS.lloadN X.here hx rfl (Jvm.hb hb hd) hl q
theorem Go.lload {i : Nat} {v : Int64} (G : Go p l e R s m args below meth c Z own bytes maxL ret n0 s₀ h k j pc L S) (hd : decode bytes pc = .ok (.lload i, 2)) (hl : L[i]? = some (.val (.long v))) {pc' : Nat} (hp : pc + 2 = pc' := by rfl) : Go p l e R s m args below meth c Z own bytes maxL ret n0 s₀ h k j pc' L (.long v :: S) := by
  subst hp; exact G.step fun T locs X eT hx hb t q => XS.lload X.here hx rfl (Jvm.hb hb hd) hl q
theorem Go.aloadN {i : Fin 4} {v : Value} (G : Go p l e R s m args below meth c Z own bytes maxL ret n0 s₀ h k j pc L S) (hd : decode bytes pc = .ok (.aload_n i, 1)) (hl : L[i.val]? = some (.val v)) (hv : v.isRef = true := by rfl) {pc' : Nat} (hp : pc + 1 = pc' := by rfl) : Go p l e R s m args below meth c Z own bytes maxL ret n0 s₀ h k j pc' L (v :: S) := by
  subst hp; exact G.step fun T locs X eT hx hb t q => XS.aloadN X.here hx rfl (Jvm.hb hb hd) hl hv q
theorem Go.aload {i : Nat} {v : Value} (G : Go p l e R s m args below meth c Z own bytes maxL ret n0 s₀ h k j pc L S) (hd : decode bytes pc = .ok (.aload i, 2)) (hl : L[i]? = some (.val v)) (hv : v.isRef = true := by rfl) {pc' : Nat} (hp : pc + 2 = pc' := by rfl) : Go p l e R s m args below meth c Z own bytes maxL ret n0 s₀ h k j pc' L (v :: S) := by
  subst hp; exact G.step fun T locs X eT hx hb t q => XS.aload X.here hx rfl (Jvm.hb hb hd) hl hv q
theorem Go.istoreN {i : Fin 4} {x : Int32} {L' : Array Slot} (G : Go p l e R s m args below meth c Z own bytes maxL ret n0 s₀ h k j pc L (.int x :: S)) (hd : decode bytes pc = .ok (.istore_n i, 1)) (hl : storeLocals L i.val (.int x) = some L') {pc' : Nat} (hp : pc + 1 = pc' := by rfl) : Go p l e R s m args below meth c Z own bytes maxL ret n0 s₀ h k j pc' L' S := by
  subst hp; exact G.step fun T locs X eT hx hb t q => XS.istoreN X.here hx rfl (Jvm.hb hb hd) rfl hl q
theorem Go.istore {i : Nat} {x : Int32} {L' : Array Slot} (G : Go p l e R s m args below meth c Z own bytes maxL ret n0 s₀ h k j pc L (.int x :: S)) (hd : decode bytes pc = .ok (.istore i, 2)) (hl : storeLocals L i (.int x) = some L') {pc' : Nat} (hp : pc + 2 = pc' := by rfl) : Go p l e R s m args below meth c Z own bytes maxL ret n0 s₀ h k j pc' L' S := by
  subst hp; exact G.step fun T locs X eT hx hb t q => XS.istore X.here hx rfl (Jvm.hb hb hd) rfl hl q
theorem Go.lstoreN {i : Fin 4} {x : Int64} {L' : Array Slot} (G : Go p l e R s m args below meth c Z own bytes maxL ret n0 s₀ h k j pc L (.long x :: S)) (hd : decode bytes pc = .ok (.lstore_n i, 1)) (hl : storeLocals L i.val (.long x) = some L') {pc' : Nat} (hp : pc + 1 = pc' := by rfl) : Go p l e R s m args below meth c Z own bytes maxL ret n0 s₀ h k j pc' L' S := by
  subst hp; exact G.step fun T locs X eT hx hb t q => XS.lstoreN X.here hx rfl (Jvm.hb hb hd) rfl hl q
theorem Go.lstore {i : Nat} {x : Int64} {L' : Array Slot} (G : Go p l e R s m args below meth c Z own bytes maxL ret n0 s₀ h k j pc L (.long x :: S)) (hd : decode bytes pc = .ok (.lstore i, 2)) (hl : storeLocals L i (.long x) = some L') {pc' : Nat} (hp : pc + 2 = pc' := by rfl) : Go p l e R s m args below meth c Z own bytes maxL ret n0 s₀ h k j pc' L' S := by
  subst hp; exact G.step fun T locs X eT hx hb t q => XS.lstore X.here hx rfl (Jvm.hb hb hd) rfl hl q
theorem Go.astoreN {i : Fin 4} {x : Value} {L' : Array Slot} (G : Go p l e R s m args below meth c Z own bytes maxL ret n0 s₀ h k j pc L (x :: S)) (hd : decode bytes pc = .ok (.astore_n i, 1)) (hl : storeLocals L i.val x = some L') (hv : x.isRef = true := by rfl) {pc' : Nat} (hp : pc + 1 = pc' := by rfl) : Go p l e R s m args below meth c Z own bytes maxL ret n0 s₀ h k j pc' L' S := by
  subst hp; exact G.step fun T locs X eT hx hb t q => XS.astoreN X.here hx rfl (Jvm.hb hb hd) rfl hv hl q
theorem Go.astore {i : Nat} {x : Value} {L' : Array Slot} (G : Go p l e R s m args below meth c Z own bytes maxL ret n0 s₀ h k j pc L (x :: S)) (hd : decode bytes pc = .ok (.astore i, 2)) (hl : storeLocals L i x = some L') (hv : x.isRef = true := by rfl) {pc' : Nat} (hp : pc + 2 = pc' := by rfl) : Go p l e R s m args below meth c Z own bytes maxL ret n0 s₀ h k j pc' L' S := by
  subst hp; exact G.step fun T locs X eT hx hb t q => XS.astore X.here hx rfl (Jvm.hb hb hd) rfl hv hl q
theorem Go.iinc {i : Nat} {cst : Int} {x : Int32} {L' : Array Slot} (v : Int32) (G : Go p l e R s m args below meth c Z own bytes maxL ret n0 s₀ h k j pc L S) (hd : decode bytes pc = .ok (.iinc i cst, 3)) (hl : L[i]? = some (.val (.int x))) (hl' : storeLocals L i (.int (x + v)) = some L') (hv : Int32.ofInt cst = v := by decide) {pc' : Nat} (hp : pc + 3 = pc' := by rfl) : Go p l e R s m args below meth c Z own bytes maxL ret n0 s₀ h k j pc' L' S := by
  subst hp; exact G.step fun T locs X eT hx hb t q => Jvm.Free.XT.iincV X.here hx rfl v (Jvm.hb hb hd) hv hl hl' q
theorem Go.dup {x : Value} (G : Go p l e R s m args below meth c Z own bytes maxL ret n0 s₀ h k j pc L (x :: S)) (hd : decode bytes pc = .ok (.dup, 1)) (hc : x.category = 1 := by rfl) {pc' : Nat} (hp : pc + 1 = pc' := by rfl) : Go p l e R s m args below meth c Z own bytes maxL ret n0 s₀ h k j pc' L (x :: x :: S) := by
  subst hp; exact G.step fun T locs X eT hx hb t q => XS.dup X.here hx rfl (Jvm.hb hb hd) rfl hc q
theorem Go.pop {x : Value} (G : Go p l e R s m args below meth c Z own bytes maxL ret n0 s₀ h k j pc L (x :: S)) (hd : decode bytes pc = .ok (.pop, 1)) (hc : x.category = 1 := by rfl) {pc' : Nat} (hp : pc + 1 = pc' := by rfl) : Go p l e R s m args below meth c Z own bytes maxL ret n0 s₀ h k j pc' L S := by
  subst hp; exact G.step fun T locs X eT hx hb t q => XS.pop X.here hx rfl (Jvm.hb hb hd) rfl hc q
theorem Go.dupX1 {x y : Value} (G : Go p l e R s m args below meth c Z own bytes maxL ret n0 s₀ h k j pc L (x :: y :: S)) (hd : decode bytes pc = .ok (.dup_x1, 1)) (hc : x.category = 1 := by rfl) (hc2 : y.category = 1 := by rfl) {pc' : Nat} (hp : pc + 1 = pc' := by rfl) : Go p l e R s m args below meth c Z own bytes maxL ret n0 s₀ h k j pc' L (x :: y :: x :: S) := by
  subst hp; exact G.step fun T locs X eT hx hb t q => XS.dupX1 X.here hx rfl (Jvm.hb hb hd) rfl hc hc2 q
theorem Go.dup2 {x y : Value} (G : Go p l e R s m args below meth c Z own bytes maxL ret n0 s₀ h k j pc L (x :: y :: S)) (hd : decode bytes pc = .ok (.dup2, 1)) (hc : x.category = 1 := by rfl) (hc2 : y.category = 1 := by rfl) {pc' : Nat} (hp : pc + 1 = pc' := by rfl) : Go p l e R s m args below meth c Z own bytes maxL ret n0 s₀ h k j pc' L (x :: y :: x :: y :: S) := by
  subst hp; exact G.step fun T locs X eT hx hb t q => Jvm.Free.XT.dup2 X.here hx rfl (Jvm.hb hb hd) rfl hc hc2 q
theorem Go.goto {o : Int} (G : Go p l e R s m args below meth c Z own bytes maxL ret n0 s₀ h k j pc L S) (hd : decode bytes pc = .ok (.goto o, 3)) (pc' : Nat) (ho : 0 ≤ (pc : Int) + o := by decide) (hp : ((pc : Int) + o).toNat = pc' := by decide) : Go p l e R s m args below meth c Z own bytes maxL ret n0 s₀ h k j pc' L S := by
  exact G.step fun T locs X eT hx hb t q => XS.goto X.here hx rfl (pc0 := pc) (pc' := pc') rfl (Jvm.hb hb hd) ho hp q
theorem Go.ifY {cd : ClassFile.Cond} {o : Int} {x : Int32} (G : Go p l e R s m args below meth c Z own bytes maxL ret n0 s₀ h k j pc L (.int x :: S)) (hd : decode bytes pc = .ok (.ifCond cd o, 3)) (pc' : Nat) (hc : ifCond.holds cd x = true) (ho : 0 ≤ (pc : Int) + o := by decide) (hp : ((pc : Int) + o).toNat = pc' := by decide) : Go p l e R s m args below meth c Z own bytes maxL ret n0 s₀ h k j pc' L S := by
  exact G.step fun T locs X eT hx hb t q => XS.ifYes X.here hx rfl (pc0 := pc) (pc' := pc') rfl (Jvm.hb hb hd) rfl hc ho hp q
theorem Go.ifN {cd : ClassFile.Cond} {o : Int} {x : Int32} (G : Go p l e R s m args below meth c Z own bytes maxL ret n0 s₀ h k j pc L (.int x :: S)) (hd : decode bytes pc = .ok (.ifCond cd o, 3)) (pc' : Nat) (hc : ifCond.holds cd x = false) (hp : pc + 3 = pc' := by rfl) : Go p l e R s m args below meth c Z own bytes maxL ret n0 s₀ h k j pc' L S := by
  subst hp; exact G.step fun T locs X eT hx hb t q => XS.ifNo X.here hx rfl (Jvm.hb hb hd) rfl hc q
theorem Go.icmpY {cd : ClassFile.Cond} {o : Int} {x y : Int32} (G : Go p l e R s m args below meth c Z own bytes maxL ret n0 s₀ h k j pc L (.int y :: .int x :: S)) (hd : decode bytes pc = .ok (.if_icmp cd o, 3)) (pc' : Nat) (hc : if_icmp.holds cd x y = true) (ho : 0 ≤ (pc : Int) + o := by decide) (hp : ((pc : Int) + o).toNat = pc' := by decide) : Go p l e R s m args below meth c Z own bytes maxL ret n0 s₀ h k j pc' L S := by
  exact G.step fun T locs X eT hx hb t q => XS.icmpYes X.here hx rfl (pc0 := pc) (pc' := pc') rfl (Jvm.hb hb hd) rfl hc ho hp q
theorem Go.icmpN {cd : ClassFile.Cond} {o : Int} {x y : Int32} (G : Go p l e R s m args below meth c Z own bytes maxL ret n0 s₀ h k j pc L (.int y :: .int x :: S)) (hd : decode bytes pc = .ok (.if_icmp cd o, 3)) (pc' : Nat) (hc : if_icmp.holds cd x y = false) (hp : pc + 3 = pc' := by rfl) : Go p l e R s m args below meth c Z own bytes maxL ret n0 s₀ h k j pc' L S := by
  subst hp; exact G.step fun T locs X eT hx hb t q => XS.icmpNo X.here hx rfl (Jvm.hb hb hd) rfl hc q
theorem Go.ifnullY {o : Int} (G : Go p l e R s m args below meth c Z own bytes maxL ret n0 s₀ h k j pc L (.null :: S)) (hd : decode bytes pc = .ok (.ifnull o, 3)) (pc' : Nat) (ho : 0 ≤ (pc : Int) + o := by decide) (hp : ((pc : Int) + o).toNat = pc' := by decide) : Go p l e R s m args below meth c Z own bytes maxL ret n0 s₀ h k j pc' L S := by
  exact G.step fun T locs X eT hx hb t q => XS.ifnullYes X.here hx rfl (pc0 := pc) (pc' := pc') rfl (Jvm.hb hb hd) rfl ho hp q
theorem Go.ifnullN {o : Int} {b : Addr} (G : Go p l e R s m args below meth c Z own bytes maxL ret n0 s₀ h k j pc L (.ref b :: S)) (hd : decode bytes pc = .ok (.ifnull o, 3)) (pc' : Nat) (hp : pc + 3 = pc' := by rfl) : Go p l e R s m args below meth c Z own bytes maxL ret n0 s₀ h k j pc' L S := by
  subst hp; exact G.step fun T locs X eT hx hb t q => XS.ifnullNo X.here hx rfl (Jvm.hb hb hd) rfl q
theorem Go.ifnonnullY {o : Int} {b : Addr} (G : Go p l e R s m args below meth c Z own bytes maxL ret n0 s₀ h k j pc L (.ref b :: S)) (hd : decode bytes pc = .ok (.ifnonnull o, 3)) (pc' : Nat) (ho : 0 ≤ (pc : Int) + o := by decide) (hp : ((pc : Int) + o).toNat = pc' := by decide) : Go p l e R s m args below meth c Z own bytes maxL ret n0 s₀ h k j pc' L S := by
  exact G.step fun T locs X eT hx hb t q => XS.ifnonnullYes X.here hx rfl (pc0 := pc) (pc' := pc') rfl (Jvm.hb hb hd) rfl ho hp q
theorem Go.ifnonnullN {o : Int} (G : Go p l e R s m args below meth c Z own bytes maxL ret n0 s₀ h k j pc L (.null :: S)) (hd : decode bytes pc = .ok (.ifnonnull o, 3)) (pc' : Nat) (hp : pc + 3 = pc' := by rfl) : Go p l e R s m args below meth c Z own bytes maxL ret n0 s₀ h k j pc' L S := by
  subst hp; exact G.step fun T locs X eT hx hb t q => XS.ifnonnullNo X.here hx rfl (Jvm.hb hb hd) rfl q
theorem Go.out {w : Value} {t : FieldType} {i : Instr} {kc js : Nat} {Q : Option Value → Heap → Prop} (G : Go p l e R s m args below meth c Z own bytes maxL ret n0 s₀ h k j pc L (w :: S)) (hr : ret = some t) (hn : narrow t w = w)
    (hi : (i = .ireturn ∧ (t = .int ∨ t = .boolean ∨ t = .byte ∨ t = .char ∨ t = .short) ∧ ∃ z, w = .int z) ∨ (i = .lreturn ∧ t = .long ∧ ∃ z, w = .long z) ∨ (i = .dreturn ∧ t = .double ∧ ∃ z, w = .double z) ∨ (i = .freturn ∧ t = .float ∧ ∃ z, w = .float z) ∨ (i = .areturn ∧ t.isReference = true ∧ w.isRef = true))
    (hd : decode bytes pc = .ok (i, 1)) (hQ : Q (some w) h) (hk : k ≤ kc) (hj : j ≤ js) : Fini p e below s s₀ n0 kc js Q := by
  obtain ⟨⟨hx, hb, hm, hZ, ho, hret, hlk, hn0⟩, T, locs, X, eT, N, st⟩ := G
  subst hr
  obtain ⟨fs, hr, hrun, hended, hW, hsame⟩ := X.leave (v := some w) (fun h => by rw [hret] at h; cases h) hlk
  exact ⟨_, _, st _ (retOut X hx hret hn hi (Jvm.hb hb hd) hr), hrun, hended, _, _, rfl, ⟨by show Q _ T.heap; rw [eT]; exact hQ, N⟩, ⟨_, rfl⟩, hW, hsame.mono hk hj⟩
theorem Go.retI {z : Int32} {kc js : Nat} {Q : Option Value → Heap → Prop} (G : Go p l e R s m args below meth c Z own bytes maxL ret n0 s₀ h k j pc L (.int z :: S)) (hd : decode bytes pc = .ok (.ireturn, 1)) (hr : ret = some .int) (hQ : Q (some (.int z)) h) (hk : k ≤ kc := by decide) (hj : j ≤ js := by decide) : Fini p e below s s₀ n0 kc js Q :=
  G.out hr rfl (Or.inl ⟨rfl, Or.inl rfl, z, rfl⟩) hd hQ hk hj
theorem Go.retS {z : Int32} {t : FieldType} {kc js : Nat} {Q : Option Value → Heap → Prop} (G : Go p l e R s m args below meth c Z own bytes maxL ret n0 s₀ h k j pc L (.int z :: S)) (hd : decode bytes pc = .ok (.ireturn, 1)) (hr : ret = some t) (ht : t = .int ∨ t = .boolean ∨ t = .byte ∨ t = .char ∨ t = .short) (hn : narrow t (.int z) = .int z) (hQ : Q (some (.int z)) h) (hk : k ≤ kc := by decide) (hj : j ≤ js := by decide) : Fini p e below s s₀ n0 kc js Q :=
  G.out hr hn (Or.inl ⟨rfl, ht, z, rfl⟩) hd hQ hk hj
theorem Go.retZ {z : Int32} {kc js : Nat} {Q : Option Value → Heap → Prop} (G : Go p l e R s m args below meth c Z own bytes maxL ret n0 s₀ h k j pc L (.int z :: S)) (hd : decode bytes pc = .ok (.ireturn, 1)) (hr : ret = some .boolean) (hn : z = 0 ∨ z = 1) (hQ : Q (some (.int z)) h) (hk : k ≤ kc := by decide) (hj : j ≤ js := by decide) : Fini p e below s s₀ n0 kc js Q :=
  G.out hr (by rcases hn with rfl | rfl <;> rfl) (Or.inl ⟨rfl, Or.inr (Or.inl rfl), z, rfl⟩) hd hQ hk hj
theorem Go.retJ {z : Int64} {kc js : Nat} {Q : Option Value → Heap → Prop} (G : Go p l e R s m args below meth c Z own bytes maxL ret n0 s₀ h k j pc L (.long z :: S)) (hd : decode bytes pc = .ok (.lreturn, 1)) (hr : ret = some .long) (hQ : Q (some (.long z)) h) (hk : k ≤ kc := by decide) (hj : j ≤ js := by decide) : Fini p e below s s₀ n0 kc js Q :=
  G.out hr rfl (Or.inr (Or.inl ⟨rfl, rfl, z, rfl⟩)) hd hQ hk hj
theorem Go.retA {a : Addr} {t : FieldType} {kc js : Nat} {Q : Option Value → Heap → Prop} (G : Go p l e R s m args below meth c Z own bytes maxL ret n0 s₀ h k j pc L (.ref a :: S)) (hd : decode bytes pc = .ok (.areturn, 1)) (hr : ret = some t) (ht : t.isReference = true) (hn : narrow t (.ref a) = .ref a) (hQ : Q (some (.ref a)) h) (hk : k ≤ kc := by decide) (hj : j ≤ js := by decide) : Fini p e below s s₀ n0 kc js Q :=
  G.out hr hn (Or.inr (Or.inr (Or.inr (Or.inr ⟨rfl, ht, rfl⟩)))) hd hQ hk hj
theorem Go.retV {kc js : Nat} {Q : Option Value → Heap → Prop} (G : Go p l e R s m args below meth c Z own bytes maxL ret n0 s₀ h k j pc L []) (hd : decode bytes pc = .ok (.return_, 1)) (hr : ret = none) (hQ : Q none h) (hk : k ≤ kc := by decide) (hj : j ≤ js := by decide) : Fini p e below s s₀ n0 kc js Q := by
  obtain ⟨⟨hx, hb, hm, hZ, ho, hret, hlk, hn0⟩, T, locs, X, eT, N, st⟩ := G
  subst hr
  obtain ⟨fs, hr, hrun, hended, hW, hsame⟩ := X.leave (v := none) (fun _ => rfl) hlk
  exact ⟨_, _, st _ (X.returnOut hx hret (Jvm.hb hb hd) hr), hrun, hended, _, _, rfl, ⟨by show Q _ T.heap; rw [eT]; exact hQ, N⟩, ⟨_, rfl⟩, hW, hsame.mono hk hj⟩
theorem Go.callS {S0 argsL rest : List Value} {y : MethodName} {bytes' : ByteArray} {maxL' : Nat} {ret' r : Option FieldType} {ps : List FieldType} {rm : Room} {index : Nat} {Q : Option Value → Heap → Prop} (G : Go p l e R s m args below meth c Z own bytes maxL ret n0 s₀ h k j pc L S0) (C : Con l y bytes' maxL' ret' [] rm rm.cells rm.slots Z argsL.toArray h n0 Q) (hS : S0 = argsL.reverse ++ rest)
    (w1 : (Cond.methodLink own index y).before a0 Z = true) (w2 : (Cond.static y).before a0 Z = true) (w3 : (Cond.initialized y.cls).before a0 Z = true) (w4 : (Cond.code y bytes' maxL' ret').before a0 Z = true) (hy : y.cls ≠ "java/lang/invoke/MethodHandle" ∧ y.cls ≠ "java/lang/invoke/VarHandle")
    (hd : decode bytes pc = .ok (.invokestatic index, 3)) (hpd : parseMethodDescriptor y.desc = some ⟨ps, r⟩) (hl : argsL.length = ps.length) {W : Nat} (hW : (rest.map fun v => v.category).sum = W) (hL : L.size = maxL) (hf : rm.frames + 1 ≤ R.frames) (hlo : W + (maxL' + 11) + rm.locals ≤ R.locals) (hc : k + rm.cells ≤ R.cells) (hs : j + rm.slots ≤ R.slots) {pc' k' j' : Nat} (hp : pc + 3 = pc') (hk' : k + rm.cells = k') (hj' : j + rm.slots = j') :
    ∃ v h', Q v h' ∧ ∀ S', v.toList ++ rest = S' → Go p l e R s m args below meth c Z own bytes maxL ret n0 s₀ h' k' j' pc' L S' := by
  subst hp hk' hj' hS
  obtain ⟨⟨hx, hb, hm, hZ, ho, hret, hlk, hn0⟩, T, locs, X, eT, N, st⟩ := G
  obtain ⟨v, _, ⟨T', L', k', n'⟩, -, X', ⟨Lc, hQ, l', y', z'⟩, st'⟩ := Jvm.LawKit.callS X hx (y := y) ho (mvT hZ w1) (mvT hZ w2) (mvT hZ w3) (mvT hZ w4) hy (backOf (W := W) (R := R) (rm := rm) (Q := fun v h L => Q v h ∧ Fr n0 L) C hZ w4 w3 hf hlo) (g := mkF m pc L (argsL.reverse ++ rest)) rfl (by rw [hm]; exact hL) (argsL := argsL) (rest := rest) (lenOf hpd hl) rfl (by show 2 * 0 + _ ≤ _; omega) (Jvm.hb hb hd) (fun _ _ => ⟨rfl, eT, hc, hs⟩)
  dsimp only [Pt.U, Pt.locs, Pt.cells, Pt.slots] at X' l' y' z' st' hQ
  subst l' y' z'
  refine ⟨v, T'.heap, hQ.1, fun S' e => ?_⟩
  subst e
  exact ⟨⟨hx, hb, hm, hZ, ho, hret, hlk, hn0⟩, T', _, X', rfl, Fr.app N hQ.2, fun t q => st t (st' t q)⟩
theorem Go.callI {S0 argsL rest : List Value} {y : MethodName} {bytes' : ByteArray} {maxL' : Nat} {r : Option FieldType} {ps : List FieldType} {rm : Room} {index : Nat} {Q : Option Value → Heap → Prop} {a : Addr} (G : Go p l e R s m args below meth c Z own bytes maxL ret n0 s₀ h k j pc L S0) (C : Con l y bytes' maxL' none [] rm rm.cells rm.slots Z (.ref a :: argsL).toArray h n0 Q) (hS : S0 = argsL.reverse ++ .ref a :: rest) (hyn : y.name = "<init>")
    (w1 : (Cond.methodLink own index y).before a0 Z = true) (w2 : (Cond.instanceMethod y).before a0 Z = true) (w3 : (Cond.initialized y.cls).before a0 Z = true) (w4 : (Cond.code y bytes' maxL' none).before a0 Z = true) (hy : y.cls ≠ "java/lang/invoke/MethodHandle" ∧ y.cls ≠ "java/lang/invoke/VarHandle")
    (hd : decode bytes pc = .ok (.invokespecial index, 3)) (hpd : parseMethodDescriptor y.desc = some ⟨ps, r⟩) (hl : argsL.length = ps.length) {W : Nat} (hW : (rest.map fun v => v.category).sum = W) (hL : L.size = maxL) (hf : rm.frames + 1 ≤ R.frames) (hlo : W + (maxL' + 11) + rm.locals ≤ R.locals) (hc : k + rm.cells ≤ R.cells) (hs : j + rm.slots ≤ R.slots) {pc' k' j' : Nat} (hp : pc + 3 = pc') (hk' : k + rm.cells = k') (hj' : j + rm.slots = j') :
    ∃ v h', Q v h' ∧ ∀ S', v.toList ++ rest = S' → Go p l e R s m args below meth c Z own bytes maxL ret n0 s₀ h' k' j' pc' L S' := by
  subst hp hk' hj' hS
  obtain ⟨⟨hx, hb, hm, hZ, ho, hret, hlk, hn0⟩, T, locs, X, eT, N, st⟩ := G
  obtain ⟨v, _, ⟨T', L', k', n'⟩, -, X', ⟨Lc, hQ, l', y', z'⟩, st'⟩ := X.specialBack hx (y := y) hyn ho (mvT hZ w1) (mvT hZ w2) (mvT hZ w4) hy (backOf (W := W) (R := R) (rm := rm) (Q := fun v h L => Q v h ∧ Fr n0 L) C hZ w4 w3 hf hlo) (g := mkF m pc L (argsL.reverse ++ .ref a :: rest)) rfl (by rw [hm]; exact hL) (Steps.refl _) (a := a) (argsL := argsL) (rest := rest) (lenOf hpd hl) rfl (by show 2 * 0 + _ ≤ _; omega) (Jvm.hb hb hd) (fun _ _ => ⟨rfl, eT, hc, hs⟩)
  dsimp only [Pt.U, Pt.locs, Pt.cells, Pt.slots] at X' l' y' z' st' hQ
  subst l' y' z'
  refine ⟨v, T'.heap, hQ.1, fun S' e => ?_⟩
  subst e
  exact ⟨⟨hx, hb, hm, hZ, ho, hret, hlk, hn0⟩, T', _, X', rfl, Fr.app N hQ.2, fun t q => st t (st'.trans q)⟩
theorem Go.callV {S0 argsL rest : List Value} {y : MethodName} {bytes' : ByteArray} {maxL' : Nat} {ret' r : Option FieldType} {ps : List FieldType} {rm : Room} {index : Nat} {Q : Option Value → Heap → Prop} {a : Addr} {K : String} (G : Go p l e R s m args below meth c Z own bytes maxL ret n0 s₀ h k j pc L S0) (C : Con l y bytes' maxL' ret' [] rm rm.cells rm.slots Z (.ref a :: argsL).toArray h n0 Q) (hS : S0 = argsL.reverse ++ .ref a :: rest) (E : Exa Z h a K)
    (w1 : (Cond.methodLink own index y).before a0 Z = true) (w1' : (Cond.declares y).before a0 Z = true) (w1'' : (Cond.selects K y y).before a0 Z = true) (w2 : (Cond.instanceMethod y).before a0 Z = true) (w3 : (Cond.initialized y.cls).before a0 Z = true) (w4 : (Cond.code y bytes' maxL' ret').before a0 Z = true) (hy : y.cls ≠ "java/lang/invoke/MethodHandle" ∧ y.cls ≠ "java/lang/invoke/VarHandle")
    (hd : decode bytes pc = .ok (.invokevirtual index, 3)) (hpd : parseMethodDescriptor y.desc = some ⟨ps, r⟩) (hl : argsL.length = ps.length) {W : Nat} (hW : (rest.map fun v => v.category).sum = W) (hL : L.size = maxL) (hf : rm.frames + 1 ≤ R.frames) (hlo : W + (maxL' + 11) + rm.locals ≤ R.locals) (hc : k + rm.cells ≤ R.cells) (hs : j + rm.slots ≤ R.slots) {pc' k' j' : Nat} (hp : pc + 3 = pc') (hk' : k + rm.cells = k') (hj' : j + rm.slots = j') :
    ∃ v h', Q v h' ∧ ∀ S', v.toList ++ rest = S' → Go p l e R s m args below meth c Z own bytes maxL ret n0 s₀ h' k' j' pc' L S' := by
  subst hp hk' hj' hS
  obtain ⟨⟨hx, hb, hm, hZ, ho, hret, hlk, hn0⟩, T, locs, X, eT, N, st⟩ := G
  obtain ⟨cq, kq, q1, q2, q3⟩ := isOf hZ eT E
  obtain ⟨v, _, ⟨T', L', k', n'⟩, -, X', ⟨Lc, hQ, l', y', z'⟩, st'⟩ := X.virtualBack hx (y := y) (z := y) ho (mvT hZ w1) (mvT hZ w1') (notFace_of_selects (args := #[]) (mvT hZ w1'')) (mvT hZ w1'') (mvT hZ w2) hy (backOf (W := W) (R := R) (rm := rm) (Q := fun v h L => Q v h ∧ Fr n0 L) C hZ w4 w3 hf hlo) q1 q3 (g := mkF m pc L (argsL.reverse ++ .ref a :: rest)) rfl (by rw [hm]; exact hL) (Steps.refl _) (argsL := argsL) (rest := rest) (lenOf hpd hl) rfl (by show 2 * 0 + _ ≤ _; omega) (Jvm.hb hb hd) (fun _ _ => ⟨rfl, eT, hc, hs⟩)
  dsimp only [Pt.U, Pt.locs, Pt.cells, Pt.slots] at X' l' y' z' st' hQ
  subst l' y' z'
  refine ⟨v, T'.heap, hQ.1, fun S' e => ?_⟩
  subst e
  exact ⟨⟨hx, hb, hm, hZ, ho, hret, hlk, hn0⟩, T', _, X', rfl, Fr.app N hQ.2, fun t q => st t (st'.trans q)⟩
theorem Go.initO {a : Addr} {index : Nat} (G : Go p l e R s m args below meth c Z own bytes maxL ret n0 s₀ h k j pc L (.ref a :: S)) (w1 : (Cond.methodLink own index Lib.objectInit).before a0 Z = true) (w2 : (Cond.instanceMethod Lib.objectInit).before a0 Z = true) (w3 : (Cond.code Lib.objectInit Jvm.LibCode.Object.Init0.code 1 none).before a0 Z = true) (hd : decode bytes pc = .ok (.invokespecial index, 3)) {W : Nat} (hW : (S.map fun v => v.category).sum = W) (hL : L.size = maxL) (hf : 1 ≤ R.frames) (hlo : W + 12 ≤ R.locals) {pc' : Nat} (hp : pc + 3 = pc' := by rfl) : Go p l e R s m args below meth c Z own bytes maxL ret n0 s₀ h k j pc' L S := by
  subst hp
  obtain ⟨⟨hx, hb, hm, hZ, ho, r⟩, T, locs, X, eT, N, st⟩ := G
  obtain ⟨T', X', e', st'⟩ := Jvm.RoadKit.initO X hx hZ ho w1 w2 w3 eT (g := mkF m pc L (.ref a :: S)) rfl (by rw [hm]; exact hL) rfl (Jvm.hb hb hd) hf (W := W) (by show 2 * 0 + _ ≤ _; omega) hlo
  exact ⟨⟨hx, hb, hm, hZ, ho, r⟩, T', locs, X', e', N, fun t q => st t (st' t q)⟩
theorem Go.newO {C : String} {index n : Nat} (G : Go p l e R s m args below meth c Z own bytes maxL ret n0 s₀ h k j pc L S) (w1 : (Cond.classLink own index C).before a0 Z = true) (w2 : (Cond.instantiable C n).before a0 Z = true) (w3 : (Cond.initialized C).before a0 Z = true) (hd : decode bytes pc = .ok (.new index, 3)) {pc' k' j' : Nat} (hp : pc + 3 = pc') (hk : k + 1 = k') (hj : j + n = j') (hc : k' ≤ R.cells) (hl : j' ≤ R.slots) :
    ∃ a h', a = h.size ∧ n0 ≤ a ∧ Ext h h' ∧ Exa Z h' a C ∧ (∀ {O nm d : String} {ty : FieldType}, Laid Z a0 C O nm d → parseFieldDescriptor d = some ty → Fld Z h' a O nm d (defaultValue ty)) ∧ Go p l e R s m args below meth c Z own bytes maxL ret n0 s₀ h' k' j' pc' L (.ref a :: S) := by
  have hsz := G.size
  subst hp hk hj
  obtain ⟨⟨hx, hb, hm, hZ, ho, r⟩, T, locs, X, eT, N, st⟩ := G
  obtain ⟨T2, h2, X2, e2, E2, A2, D2, -, st2⟩ := Jvm.RoadKit.newO X hx hZ ho w1 w2 w3 eT (g := mkF m pc L S) rfl (Jvm.hb hb hd) hc hl
  exact ⟨h.size, h2, rfl, hsz, E2, A2, D2, ⟨hx, hb, hm, hZ, ho, r⟩, T2, locs, X2, e2, N, fun t q => st t (st2 t q)⟩
theorem Go.getF {a : Addr} {R0 O n d host : String} {index : Nat} {v : Value} (G : Go p l e R s m args below meth c Z own bytes maxL ret n0 s₀ h k j pc L (.ref a :: S)) (w : (Cond.fieldLink own index R0 n d).before a0 Z = true ∨ (Cond.fieldLinkNest own index R0 n d host).before a0 Z = true) (via : Via Z R0 O n d) (F : Fld Z h a O n d v) (hd : decode bytes pc = .ok (.getfield index, 3)) {pc' : Nat} (hp : pc + 3 = pc' := by rfl) : Go p l e R s m args below meth c Z own bytes maxL ret n0 s₀ h k j pc' L (v :: S) := by
  subst hp
  obtain ⟨⟨hx, hb, hm, hZ, ho, r⟩, T, locs, X, eT, N, st⟩ := G
  obtain ⟨T', X', e', st'⟩ := Jvm.RoadKit.getF X hx hZ ho w via eT F (g := mkF m pc L (.ref a :: S)) rfl rfl (Jvm.hb hb hd)
  exact ⟨⟨hx, hb, hm, hZ, ho, r⟩, T', locs, X', e', N, fun t q => st t (st' t q)⟩
theorem Go.putF {a : Addr} {R0 O n d host C : String} {index kk : Nat} {ty : FieldType} {v old : Value} (G : Go p l e R s m args below meth c Z own bytes maxL ret n0 s₀ h k j pc L (v :: .ref a :: S)) (w : (Cond.fieldLink own index R0 n d).before a0 Z = true ∨ (Cond.fieldLinkNest own index R0 n d host).before a0 Z = true) (via : Via Z R0 O n d) (F : Fld Z h a O n d old) (E : Exa Z h a C) (ha : n0 ≤ a) (Ly : (Cond.lays C O n d).before a0 Z = true ∨ ((Cond.laysFinal C O n d).before a0 Z = true ∧ own = O ∧ meth.name = "<init>")) (wi : (Cond.instantiable C kk).before a0 Z = true) (hty : parseFieldDescriptor d = some ty) (hn : narrow ty v = v) (hf : fits ty v = true) (hd : decode bytes pc = .ok (.putfield index, 3)) {pc' : Nat} (hp : pc + 3 = pc' := by rfl) :
    ∃ h', Wr h h' a (Jvm.RoadKit.slotOf Z O n d) v ∧ Go p l e R s m args below meth c Z own bytes maxL ret n0 s₀ h' k j pc' L S := by
  subst hp
  obtain ⟨⟨hx, hb, hm, hZ, ho, r⟩, T, locs, X, eT, N, st⟩ := G
  obtain ⟨T', h', X', e', W', st'⟩ := Jvm.RoadKit.putF X hx hZ ho w via eT F E Ly wi hty hn hf (g := mkF m pc L (v :: .ref a :: S)) rfl rfl (Jvm.hb hb hd)
  exact ⟨h', W', ⟨hx, hb, hm, hZ, ho, r⟩, T', _, X', e', Fr.snoc X' N ha, fun t q => st t (st' t q)⟩
/-- an array of that kind whose places hold these values -/
def Av (Z : State) (h : Heap) (a : Addr) (ty : FieldType) (vs : List Value) : Prop := ∃ c : Cell, Arr Z h a c ty ∧ c.slots.toList = vs ∧ vs.length < 2 ^ 31 ∧ ∀ v ∈ vs, fits ty v = true
theorem Av.lt {a : Addr} {ty : FieldType} {vs : List Value} (A : Av Z h a ty vs) : a < h.size := by obtain ⟨c, A, -⟩ := A; exact A.lt
theorem Av.len {a : Addr} {ty : FieldType} {vs : List Value} (A : Av Z h a ty vs) : vs.length < 2 ^ 31 := by obtain ⟨c, _, _, q, _⟩ := A; exact q
theorem Av.fit {a : Addr} {ty : FieldType} {vs : List Value} (A : Av Z h a ty vs) : ∀ v ∈ vs, fits ty v = true := by obtain ⟨c, _, _, _, q⟩ := A; exact q
theorem Av.ext {h' : Heap} {a : Addr} {ty : FieldType} {vs : List Value} (A : Av Z h a ty vs) (E : Ext h h') : Av Z h' a ty vs := by obtain ⟨c, A, q⟩ := A; exact ⟨c, A.ext E, q⟩
theorem Av.other {h' : Heap} {a b : Addr} {sl : Nat} {v : Value} {ty : FieldType} {vs : List Value} (A : Av Z h b ty vs) (W : Wr h h' a sl v) (q : b ≠ a) : Av Z h' b ty vs := by obtain ⟨c, A, r⟩ := A; exact ⟨c, A.other W q, r⟩
theorem Av.keep {h' : Heap} {a : Addr} {ws : List Addr} {ty : FieldType} {vs : List Value} (A : Av Z h a ty vs) (K : Keep h h' ws) (q : a ∉ ws) : Av Z h' a ty vs := by obtain ⟨c, A, r⟩ := A; exact ⟨c, ⟨K.2.1 a c A.1 q, A.2⟩, r⟩
theorem Av.set {h' : Heap} {a : Addr} {i : Nat} {v : Value} {ty : FieldType} {vs : List Value} (A : Av Z h a ty vs) (W : Wr h h' a i v) (hf : fits ty v = true) : Av Z h' a ty (vs.set i v) := by
  obtain ⟨c, A, rfl, r, f⟩ := A
  exact ⟨c.setSlot i v, A.same W, by simp [Cell.setSlot], by simpa using r, fun x hx => (List.mem_or_eq_of_mem_set hx).elim (f x) fun q => q ▸ hf⟩
theorem idx_of {x : Int32} {i n : Nat} (hx : x.toInt = (i : Int)) (hi : i < n) : ¬ (x < 0 ∨ n ≤ x.toNatClampNeg) ∧ x.toNatClampNeg = i := by
  have e : x.toNatClampNeg = i := by show x.toInt.toNat = i; omega
  refine ⟨?_, e⟩
  rw [e, Int32.lt_iff_toInt_lt, hx]
  show ¬ (((i : Nat) : Int) < 0 ∨ n ≤ i)
  omega
theorem Go.newA {n : Int32} {aty : ArrayType} {ty : FieldType} {dv : Value} {N cap : Nat} (G : Go p l e R s m args below meth c Z own bytes maxL ret n0 s₀ h k j pc L (.int n :: S)) (w : (Cond.arrayClass ty).before a0 Z = true) (hd : decode bytes pc = .ok (.newarray aty, 2)) (hty : newarray.typeOf aty = ty) (hdv : defaultValue ty = dv) (hn : n.toInt = (N : Int)) (hN : N ≤ cap) (hb : cap * 8 ≤ 536870912) {pc' k' j' : Nat} (hp : pc + 2 = pc') (hk : k + 1 = k') (hj : j + cap = j') (hc : k' ≤ R.cells) (hl : j' ≤ R.slots) :
    ∃ a h', a = h.size ∧ n0 ≤ a ∧ Ext h h' ∧ Av Z h' a ty (List.replicate N dv) ∧ Go p l e R s m args below meth c Z own bytes maxL ret n0 s₀ h' k' j' pc' L (.ref a :: S) := by
  have hsz := G.size
  have e1 : n.toNatClampNeg = N := by show n.toInt.toNat = N; omega
  have e2 := n.toInt_lt
  subst hp hk hj hty hdv
  obtain ⟨⟨hx, hb', hm, hZ, ho, r⟩, T, locs, X, eT, N', st⟩ := G
  obtain ⟨T2, h2, cA, X2, e3, E2, A2, st2⟩ := Jvm.RoadKit.newP X hx hZ w eT (g := mkF m pc L (.int n :: S)) rfl (Jvm.hb hb' hd) rfl (by rw [Int32.lt_iff_toInt_lt, hn]; show ¬ ((N : Nat) : Int) < 0; omega) (cap := cap) (by rw [e1]; exact hN) hb hc hl
  exact ⟨h.size, h2, rfl, hsz, E2, ⟨_, A2, by rw [Jvm.RoadKit.newA, e1]; simp, by rw [List.length_replicate]; omega, fun v hv => by rw [List.eq_of_mem_replicate hv]; cases aty <;> rfl⟩, ⟨hx, hb', hm, hZ, ho, r⟩, T2, locs, X2, e3, N', fun t q => st t (st2 t q)⟩
theorem Go.stI {a : Addr} {x : Int32} {y : Int32} {i : Nat} {vs : List Value} (G : Go p l e R s m args below meth c Z own bytes maxL ret n0 s₀ h k j pc L (.int x :: .int y :: .ref a :: S)) (A : Av Z h a .int vs) (ha : n0 ≤ a) (hy : y.toInt = (i : Int)) (hi : i < vs.length) (hd : decode bytes pc = .ok (.iastore, 1)) {pc' : Nat} (hp : pc + 1 = pc' := by rfl) :
    ∃ h', Wr h h' a i (.int x) ∧ Av Z h' a .int (vs.set i (.int x)) ∧ Go p l e R s m args below meth c Z own bytes maxL ret n0 s₀ h' k j pc' L S := by
  have A0 := A
  obtain ⟨cl, Ar, rfl, hlen, -⟩ := A
  rw [Array.length_toList] at hi
  have ⟨i1, i2⟩ := idx_of hy hi
  subst hp
  obtain ⟨⟨hx, hb, hm, hZ, ho, r⟩, T, locs, X, eT, N, st⟩ := G
  obtain ⟨T', h', X', e', W', st'⟩ := Jvm.RoadKit.stI X hx hZ eT Ar i1 (g := mkF m pc L (.int x :: .int y :: .ref a :: S)) rfl rfl (Jvm.hb hb hd)
  have N' := Fr.snoc X' N ha
  rw [i2] at W'
  exact ⟨h', W', A0.set W' rfl, ⟨hx, hb, hm, hZ, ho, r⟩, T', _, X', e', N', fun t q => st t (st' t q)⟩
theorem Go.stJ {a : Addr} {x : Int64} {y : Int32} {i : Nat} {vs : List Value} (G : Go p l e R s m args below meth c Z own bytes maxL ret n0 s₀ h k j pc L (.long x :: .int y :: .ref a :: S)) (A : Av Z h a .long vs) (ha : n0 ≤ a) (hy : y.toInt = (i : Int)) (hi : i < vs.length) (hd : decode bytes pc = .ok (.lastore, 1)) {pc' : Nat} (hp : pc + 1 = pc' := by rfl) :
    ∃ h', Wr h h' a i (.long x) ∧ Av Z h' a .long (vs.set i (.long x)) ∧ Go p l e R s m args below meth c Z own bytes maxL ret n0 s₀ h' k j pc' L S := by
  have A0 := A
  obtain ⟨cl, Ar, rfl, hlen, -⟩ := A
  rw [Array.length_toList] at hi
  have ⟨i1, i2⟩ := idx_of hy hi
  subst hp
  obtain ⟨⟨hx, hb, hm, hZ, ho, r⟩, T, locs, X, eT, N, st⟩ := G
  obtain ⟨T', h', X', e', W', st'⟩ := Jvm.RoadKit.stJ X hx hZ eT Ar i1 (g := mkF m pc L (.long x :: .int y :: .ref a :: S)) rfl rfl (Jvm.hb hb hd)
  have N' := Fr.snoc X' N ha
  rw [i2] at W'
  exact ⟨h', W', A0.set W' rfl, ⟨hx, hb, hm, hZ, ho, r⟩, T', _, X', e', N', fun t q => st t (st' t q)⟩
theorem Go.stB {a : Addr} {x : Int32} {y : Int32} {i : Nat} {vs : List Value} (G : Go p l e R s m args below meth c Z own bytes maxL ret n0 s₀ h k j pc L (.int x :: .int y :: .ref a :: S)) (A : Av Z h a .byte vs) (ha : n0 ≤ a) (hy : y.toInt = (i : Int)) (hi : i < vs.length) (hd : decode bytes pc = .ok (.bastore, 1)) {pc' : Nat} (hp : pc + 1 = pc' := by rfl) :
    ∃ h', Wr h h' a i (.int (nar .byte x)) ∧ Av Z h' a .byte (vs.set i (.int (nar .byte x))) ∧ Go p l e R s m args below meth c Z own bytes maxL ret n0 s₀ h' k j pc' L S := by
  have A0 := A
  obtain ⟨cl, Ar, rfl, hlen, -⟩ := A
  rw [Array.length_toList] at hi
  have ⟨i1, i2⟩ := idx_of hy hi
  subst hp
  obtain ⟨⟨hx, hb, hm, hZ, ho, r⟩, T, locs, X, eT, N, st⟩ := G
  obtain ⟨T', h', X', e', W', st'⟩ := Jvm.RoadKit.stB X hx hZ eT Ar i1 (g := mkF m pc L (.int x :: .int y :: .ref a :: S)) rfl rfl (Jvm.hb hb hd)
  have N' := Fr.snoc X' N ha
  rw [i2] at W'
  exact ⟨h', W', A0.set W' (fits_nar_byte x), ⟨hx, hb, hm, hZ, ho, r⟩, T', _, X', e', N', fun t q => st t (st' t q)⟩
theorem Go.ldI {a : Addr} {v : Value} {y : Int32} {i : Nat} {vs : List Value} (G : Go p l e R s m args below meth c Z own bytes maxL ret n0 s₀ h k j pc L (.int y :: .ref a :: S)) (A : Av Z h a .int vs) (hy : y.toInt = (i : Int)) (hv : vs[i]? = some v) (hd : decode bytes pc = .ok (.iaload, 1)) {pc' : Nat} (hp : pc + 1 = pc' := by rfl) : Go p l e R s m args below meth c Z own bytes maxL ret n0 s₀ h k j pc' L (v :: S) := by
  obtain ⟨cl, Ar, rfl, hlen, -⟩ := A
  have hi : i < cl.slots.size := by rw [← Array.length_toList]; exact (List.getElem?_eq_some_iff.mp hv).1
  have ⟨i1, i2⟩ := idx_of hy hi
  rw [Array.getElem?_toList] at hv
  subst hp
  obtain ⟨⟨hx, hb, hm, hZ, ho, r⟩, T, locs, X, eT, N, st⟩ := G
  exact ⟨⟨hx, hb, hm, hZ, ho, r⟩, T, locs, X, eT, N, fun t q => st t (X.iaload hx (j := y) (v := v) (by rw [eT]; exact Ar.1) (State.isArrayOf_alike hZ.alike Ar.2.1) Ar.2.2 i1 (by rw [i2]; exact hv) (g := mkF m pc L (.int y :: .ref a :: S)) rfl rfl (Jvm.hb hb hd) t q)⟩
theorem Go.ldJ {a : Addr} {v : Value} {y : Int32} {i : Nat} {vs : List Value} (G : Go p l e R s m args below meth c Z own bytes maxL ret n0 s₀ h k j pc L (.int y :: .ref a :: S)) (A : Av Z h a .long vs) (hy : y.toInt = (i : Int)) (hv : vs[i]? = some v) (hd : decode bytes pc = .ok (.laload, 1)) {pc' : Nat} (hp : pc + 1 = pc' := by rfl) : Go p l e R s m args below meth c Z own bytes maxL ret n0 s₀ h k j pc' L (v :: S) := by
  obtain ⟨cl, Ar, rfl, hlen, -⟩ := A
  have hi : i < cl.slots.size := by rw [← Array.length_toList]; exact (List.getElem?_eq_some_iff.mp hv).1
  have ⟨i1, i2⟩ := idx_of hy hi
  rw [Array.getElem?_toList] at hv
  subst hp
  obtain ⟨⟨hx, hb, hm, hZ, ho, r⟩, T, locs, X, eT, N, st⟩ := G
  exact ⟨⟨hx, hb, hm, hZ, ho, r⟩, T, locs, X, eT, N, fun t q => st t (X.laload hx (j := y) (v := v) (by rw [eT]; exact Ar.1) (State.isArrayOf_alike hZ.alike Ar.2.1) Ar.2.2 i1 (by rw [i2]; exact hv) (g := mkF m pc L (.int y :: .ref a :: S)) rfl rfl (Jvm.hb hb hd) t q)⟩
theorem Go.ldB {a : Addr} {v : Value} {y : Int32} {i : Nat} {vs : List Value} (G : Go p l e R s m args below meth c Z own bytes maxL ret n0 s₀ h k j pc L (.int y :: .ref a :: S)) (A : Av Z h a .byte vs) (hy : y.toInt = (i : Int)) (hv : vs[i]? = some v) (hd : decode bytes pc = .ok (.baload, 1)) {pc' : Nat} (hp : pc + 1 = pc' := by rfl) : Go p l e R s m args below meth c Z own bytes maxL ret n0 s₀ h k j pc' L (v :: S) := by
  obtain ⟨cl, Ar, rfl, hlen, -⟩ := A
  have hi : i < cl.slots.size := by rw [← Array.length_toList]; exact (List.getElem?_eq_some_iff.mp hv).1
  have ⟨i1, i2⟩ := idx_of hy hi
  rw [Array.getElem?_toList] at hv
  subst hp
  obtain ⟨⟨hx, hb, hm, hZ, ho, r⟩, T, locs, X, eT, N, st⟩ := G
  exact ⟨⟨hx, hb, hm, hZ, ho, r⟩, T, locs, X, eT, N, fun t q => st t (X.baloadBytes hx (j := y) (v := v) (by rw [eT]; exact Ar.1) (State.isArrayOf_alike hZ.alike Ar.2.1) Ar.2.2 i1 (by rw [i2]; exact hv) (g := mkF m pc L (.int y :: .ref a :: S)) rfl rfl (Jvm.hb hb hd) t q)⟩
theorem Go.arrlen {a : Addr} {ty : FieldType} {vs : List Value} (v : Int32) (G : Go p l e R s m args below meth c Z own bytes maxL ret n0 s₀ h k j pc L (.ref a :: S)) (A : Av Z h a ty vs) (hv : v.toInt = (vs.length : Int)) (hd : decode bytes pc = .ok (.arraylength, 1)) {pc' : Nat} (hp : pc + 1 = pc' := by rfl) : Go p l e R s m args below meth c Z own bytes maxL ret n0 s₀ h k j pc' L (.int v :: S) := by
  obtain ⟨cl, Ar, rfl, hlen, -⟩ := A
  have e1 : cl.slots.size.toInt32 = v := by
    rw [Array.length_toList] at hlen hv
    apply Int32.toInt_inj.mp
    rw [hv]
    exact Int32.toInt_ofNat_of_lt (by omega)
  subst hp e1
  obtain ⟨⟨hx, hb, hm, hZ, ho, r⟩, T, locs, X, eT, N, st⟩ := G
  exact ⟨⟨hx, hb, hm, hZ, ho, r⟩, T, locs, X, eT, N, fun t q => st t (X.arraylength hx (by rw [eT]; exact Ar.1) (State.isArrayOf_alike hZ.alike Ar.2.1) (g := mkF m pc L (.ref a :: S)) rfl rfl (Jvm.hb hb hd) t q)⟩
end OwnKit
end Jvm.OwnKit
namespace Jvm.Pilot.@@N@@
open Jvm Jvm.ClassFile Sem Op Lib Jvm.Free Jvm.Stand Jvm.LawKit Jvm.RoadKit Bundle Jvm.OwnKit Jvm.Pilot.@@N@@.Jvm.D
theorem d4_0 : decode prog_17_method_1_code 0 = .ok (.aload_n 0, 1) := by decide +kernel
theorem d4_1 : decode prog_17_method_1_code 1 = .ok (.invokespecial 3, 3) := by decide +kernel
theorem d4_4 : decode prog_17_method_1_code 4 = .ok (.return_, 1) := by decide +kernel
theorem pn0 : plainName "com/example/stackwise/stackwise/input/Decimals$Reading" = true := by first | (simp [plainName, overriddenIn]; done) | decide +kernel
theorem ef4 (m : MethodId) (r : Addr) : entryFrame m #[(.ref r)] 1 = mkF m 0 #[.val (.ref r)] [] := by first | (simp [entryFrame, mkF, argsToLocals, Value.category]; done) | rfl
def rm4 : Room := { frames := 1, cells := 0, slots := 0, locals := 12 }
set_option maxRecDepth 65536 in
set_option maxHeartbeats 40000000 in
theorem cn4 (l : Launch) (Z : State) (a0 : Array Value) (hw : ∀ d ∈ tables_1, d.before a0 Z = true) (r : Addr) (h0 : Heap) (n0 : Nat) (hn : n0 ≤ h0.size)  :
    Con l (⟨"com/example/stackwise/stackwise/input/Decimals$Reading", "<init>", "()V"⟩ : MethodName) prog_17_method_1_code 1 none [] rm4 rm4.cells rm4.slots Z #[(.ref r)] h0 n0 (fun v h => v = none ∧ Keep h0 h []) := by
  refine Con.of (plainFor_of_name pn0) hn (fun m => ef4 m r) ?_
  intro p e s m below meth c s₀ hnm G0
  have K0 : Keep h0 h0 [] := Keep.refl _ _
  have G1 := G0.aloadN (v := (.ref r)) (pc' := 1) d4_0 rfl
  have G2 := G1.initO (pc' := 4) (hw _ (List.mem_of_getElem? (i := 23) rfl)) (hw _ (List.mem_of_getElem? (i := 8) rfl)) (hw _ (List.mem_of_getElem? (i := 9) rfl)) d4_1 (W := 0) rfl rfl (by decide) (by decide)
  exact G2.retV d4_4 rfl ⟨rfl, K0⟩
theorem d5_0 : decode jdk_29_method_65_code 0 = .ok (.iload_n 0, 1) := by decide +kernel
theorem d5_1 : decode jdk_29_method_65_code 1 = .ok (.iload_n 1, 1) := by decide +kernel
theorem d5_2 : decode jdk_29_method_65_code 2 = .ok (.if_icmp .lt 7, 3) := by decide +kernel
theorem d5_5 : decode jdk_29_method_65_code 5 = .ok (.iload_n 0, 1) := by decide +kernel
theorem d5_6 : decode jdk_29_method_65_code 6 = .ok (.goto 4, 3) := by decide +kernel
theorem d5_9 : decode jdk_29_method_65_code 9 = .ok (.iload_n 1, 1) := by decide +kernel
theorem d5_10 : decode jdk_29_method_65_code 10 = .ok (.ireturn, 1) := by decide +kernel
theorem ef5 (m : MethodId) (x0 : Int32) (x1 : Int32) : entryFrame m #[(.int x0), (.int x1)] 2 = mkF m 0 #[.val (.int x0), .val (.int x1)] [] := by first | (simp [entryFrame, mkF, argsToLocals, Value.category]; done) | rfl
def fM (x0 : Int32) (x1 : Int32) : Int32 := (if x0 < x1 then x1 else x0)
def rm5 : Room := { frames := 0, cells := 0, slots := 0, locals := 0 }
set_option maxRecDepth 65536 in
set_option maxHeartbeats 40000000 in
theorem cn5 (l : Launch) (Z : State) (a0 : Array Value) (hw : ∀ d ∈ tables_1, d.before a0 Z = true) (x0 : Int32) (x1 : Int32) (h0 : Heap) (n0 : Nat) (hn : n0 ≤ h0.size) :
    Con l (⟨"java/lang/Math", "max", "(II)I"⟩ : MethodName) jdk_29_method_65_code 2 (some .int) [] rm5 rm5.cells rm5.slots Z #[(.int x0), (.int x1)] h0 n0 (fun v h => v = some (.int (fM x0 x1)) ∧ h = h0) := by
  refine Con.of (Jvm.Free.JP.mathPlain rfl (by decide +kernel)) hn (fun m => ef5 m x0 x1) ?_
  intro p e s m below meth c s₀ hnm G0
  have G1 := G0.iloadN (v := x0) (pc' := 1) d5_0 rfl
  have G2 := G1.iloadN (v := x1) (pc' := 2) d5_1 rfl
  by_cases c2_2 : x0 < x1
  · have G3 := G2.icmpY d5_2 9 (Jvm.Free.XT.ii_lt_t c2_2)
    have G4 := G3.iloadN (v := x1) (pc' := 10) d5_9 rfl
    exact G4.retI d5_10 rfl ⟨congrArg (fun z => some (Value.int z)) (by rw [fM, if_pos c2_2]), rfl⟩
  · have G5 := G2.icmpN d5_2 5 (Jvm.Free.XT.ii_lt_f c2_2)
    have G6 := G5.iloadN (v := x0) (pc' := 6) d5_5 rfl
    have G7 := G6.goto d5_6 10
    exact G7.retI d5_10 rfl ⟨congrArg (fun z => some (Value.int z)) (by rw [fM, if_neg c2_2]), rfl⟩
theorem d3_0 : decode prog_15_method_1_code 0 = .ok (.aload_n 0, 1) := by decide +kernel
theorem d3_1 : decode prog_15_method_1_code 1 = .ok (.invokespecial 1, 3) := by decide +kernel
theorem d3_4 : decode prog_15_method_1_code 4 = .ok (.aload_n 0, 1) := by decide +kernel
theorem d3_5 : decode prog_15_method_1_code 5 = .ok (.new 7, 3) := by decide +kernel
theorem d3_8 : decode prog_15_method_1_code 8 = .ok (.dup, 1) := by decide +kernel
theorem d3_9 : decode prog_15_method_1_code 9 = .ok (.invokespecial 9, 3) := by decide +kernel
theorem d3_12 : decode prog_15_method_1_code 12 = .ok (.putfield 10, 3) := by decide +kernel
theorem d3_15 : decode prog_15_method_1_code 15 = .ok (.aload_n 0, 1) := by decide +kernel
theorem d3_16 : decode prog_15_method_1_code 16 = .ok (.iload_n 1, 1) := by decide +kernel
theorem d3_17 : decode prog_15_method_1_code 17 = .ok (.iconst 1, 1) := by decide +kernel
theorem d3_18 : decode prog_15_method_1_code 18 = .ok (.invokestatic 16, 3) := by decide +kernel
theorem d3_21 : decode prog_15_method_1_code 21 = .ok (.newarray .long, 2) := by decide +kernel
theorem d3_23 : decode prog_15_method_1_code 23 = .ok (.putfield 22, 3) := by decide +kernel
theorem d3_26 : decode prog_15_method_1_code 26 = .ok (.return_, 1) := by decide +kernel
theorem pn1 : plainName "com/example/stackwise/stackwise/input/DecimalColumn$Builder" = true := by first | (simp [plainName, overriddenIn]; done) | decide +kernel
theorem ef3 (m : MethodId) (b : Addr) : entryFrame m #[(.ref b), (.int (8784 : Int32))] 2 = mkF m 0 #[.val (.ref b), .val (.int (8784 : Int32))] [] := by first | (simp [entryFrame, mkF, argsToLocals, Value.category]; done) | rfl
theorem pd0 : parseMethodDescriptor "()V" = some ⟨[], none⟩ := by decide +kernel
theorem pd1 : parseMethodDescriptor "(II)I" = some ⟨[.int, .int], some .int⟩ := by decide +kernel
def rm3 : Room := { frames := 2, cells := 2, slots := 8787, locals := 26 }
set_option maxRecDepth 65536 in
set_option maxHeartbeats 40000000 in
theorem cn3 (l : Launch) (Z : State) (a0 : Array Value) (hw : ∀ d ∈ tables_1, d.before a0 Z = true) (b : Addr) (h0 : Heap) (n0 : Nat) (hn : n0 ≤ h0.size) (E_b : Exa Z h0 b "com/example/stackwise/stackwise/input/DecimalColumn$Builder") (F_b_reading : Fld Z h0 b "com/example/stackwise/stackwise/input/DecimalColumn$Builder" "reading" "Lcom/example/stackwise/stackwise/input/Decimals$Reading;" .null) (F_b_unscaled : Fld Z h0 b "com/example/stackwise/stackwise/input/DecimalColumn$Builder" "unscaled" "[J" .null) (F_b_scale : Fld Z h0 b "com/example/stackwise/stackwise/input/DecimalColumn$Builder" "scale" "I" (.int (0 : Int32))) (F_b_size : Fld Z h0 b "com/example/stackwise/stackwise/input/DecimalColumn$Builder" "size" "I" (.int (0 : Int32))) (F_b_values : Fld Z h0 b "com/example/stackwise/stackwise/input/DecimalColumn$Builder" "values" "[Ljava/math/BigDecimal;" .null) (g_b : n0 ≤ b) :
    Con l (⟨"com/example/stackwise/stackwise/input/DecimalColumn$Builder", "<init>", "(I)V"⟩ : MethodName) prog_15_method_1_code 2 none [] rm3 rm3.cells rm3.slots Z #[(.ref b), (.int (8784 : Int32))] h0 n0 (fun v h => ∃ a4 : Addr, ∃ a45 : Addr, v = none ∧ Keep h0 h [b] ∧ h0.size ≤ a4 ∧ h0.size ≤ a45 ∧ a4 ≠ a45 ∧ Exa Z h b "com/example/stackwise/stackwise/input/DecimalColumn$Builder" ∧ Fld Z h b "com/example/stackwise/stackwise/input/DecimalColumn$Builder" "reading" "Lcom/example/stackwise/stackwise/input/Decimals$Reading;" (.ref a4) ∧ Fld Z h b "com/example/stackwise/stackwise/input/DecimalColumn$Builder" "unscaled" "[J" (.ref a45) ∧ Fld Z h b "com/example/stackwise/stackwise/input/DecimalColumn$Builder" "scale" "I" (.int (0 : Int32)) ∧ Fld Z h b "com/example/stackwise/stackwise/input/DecimalColumn$Builder" "size" "I" (.int (0 : Int32)) ∧ Fld Z h b "com/example/stackwise/stackwise/input/DecimalColumn$Builder" "values" "[Ljava/math/BigDecimal;" .null ∧ Exa Z h a4 "com/example/stackwise/stackwise/input/Decimals$Reading" ∧ Fld Z h a4 "com/example/stackwise/stackwise/input/Decimals$Reading" "scale" "I" (.int (0 : Int32)) ∧ Fld Z h a4 "com/example/stackwise/stackwise/input/Decimals$Reading" "unscaled" "J" (.long (0 : Int64)) ∧ Fld Z h a4 "com/example/stackwise/stackwise/input/Decimals$Reading" "wide" "Ljava/math/BigDecimal;" .null ∧ Av Z h a45 .long (List.replicate 8784 (.long (0 : Int64)))) := by
  refine Con.of (plainFor_of_name pn1) hn (fun m => ef3 m b) ?_
  intro p e s m below meth c s₀ hnm G0
  have K0 : Keep h0 h0 [b] := Keep.refl _ _
  have G1 := G0.aloadN (v := (.ref b)) (pc' := 1) d3_0 rfl
  have G2 := G1.initO (pc' := 4) (hw _ (List.mem_of_getElem? (i := 16) rfl)) (hw _ (List.mem_of_getElem? (i := 8) rfl)) (hw _ (List.mem_of_getElem? (i := 9) rfl)) d3_1 (W := 0) rfl rfl (by decide) (by decide)
  have G3 := G2.aloadN (v := (.ref b)) (pc' := 5) d3_4 rfl
  obtain ⟨a4, h4, ea4, g_a4, X4, E4, D4, G4⟩ := G3.newO (pc' := 8) (k' := 1) (j' := 3) (hw _ (List.mem_of_getElem? (i := 17) rfl)) (hw _ (List.mem_of_getElem? (i := 18) rfl)) (hw _ (List.mem_of_getElem? (i := 19) rfl)) d3_5 rfl rfl rfl (by decide) (by decide)
  have ne5 : b ≠ a4 := by rw [ea4]; exact Nat.ne_of_lt E_b.lt
  have sz4 : h0.size ≤ a4 := by rw [ea4]; exact K0.1
  have E6 : Exa Z h4 b "com/example/stackwise/stackwise/input/DecimalColumn$Builder" := E_b.ext X4
  have F7 : Fld Z h4 b "com/example/stackwise/stackwise/input/DecimalColumn$Builder" "reading" "Lcom/example/stackwise/stackwise/input/Decimals$Reading;" .null := F_b_reading.ext X4
  have F8 : Fld Z h4 b "com/example/stackwise/stackwise/input/DecimalColumn$Builder" "unscaled" "[J" .null := F_b_unscaled.ext X4
  have F9 : Fld Z h4 b "com/example/stackwise/stackwise/input/DecimalColumn$Builder" "scale" "I" (.int (0 : Int32)) := F_b_scale.ext X4
  have F10 : Fld Z h4 b "com/example/stackwise/stackwise/input/DecimalColumn$Builder" "size" "I" (.int (0 : Int32)) := F_b_size.ext X4
  have F11 : Fld Z h4 b "com/example/stackwise/stackwise/input/DecimalColumn$Builder" "values" "[Ljava/math/BigDecimal;" .null := F_b_values.ext X4
  have K12 : Keep h0 h4 [b] := K0.ext X4
  have F13 : Fld Z h4 a4 "com/example/stackwise/stackwise/input/Decimals$Reading" "scale" "I" (.int (0 : Int32)) := D4 (Or.inl (hw _ (List.mem_of_getElem? (i := 64) rfl))) (ty := .int) (by decide)
  have F14 : Fld Z h4 a4 "com/example/stackwise/stackwise/input/Decimals$Reading" "unscaled" "J" (.long (0 : Int64)) := D4 (Or.inl (hw _ (List.mem_of_getElem? (i := 66) rfl))) (ty := .long) (by decide)
  have F15 : Fld Z h4 a4 "com/example/stackwise/stackwise/input/Decimals$Reading" "wide" "Ljava/math/BigDecimal;" .null := D4 (Or.inl (hw _ (List.mem_of_getElem? (i := 68) rfl))) (ty := (.object "java/math/BigDecimal")) (by decide)
  have G16 := G4.dup (pc' := 9) d3_8
  obtain ⟨v17, h17, ⟨ev17, K17⟩, g17⟩ := G16.callI (argsL := []) (rest := [(.ref a4), (.ref b)]) (pc' := 12) (k' := 1) (j' := 3) (cn4 l Z a0 hw a4 h4 n0 G16.size ) rfl rfl (hw _ (List.mem_of_getElem? (i := 20) rfl)) (hw _ (List.mem_of_getElem? (i := 21) rfl)) (hw _ (List.mem_of_getElem? (i := 19) rfl)) (hw _ (List.mem_of_getElem? (i := 22) rfl)) (by decide) d3_9 pd0 rfl (W := 2) rfl rfl (by decide) (by decide) (by decide) (by decide) rfl rfl rfl
  subst ev17
  have G17 := g17 [(.ref a4), (.ref b)] rfl
  have E18 : Exa Z h17 b "com/example/stackwise/stackwise/input/DecimalColumn$Builder" := E6.keep K17
  have F19 : Fld Z h17 b "com/example/stackwise/stackwise/input/DecimalColumn$Builder" "reading" "Lcom/example/stackwise/stackwise/input/Decimals$Reading;" .null := F7.keep K17 nin0
  have F20 : Fld Z h17 b "com/example/stackwise/stackwise/input/DecimalColumn$Builder" "unscaled" "[J" .null := F8.keep K17 nin0
  have F21 : Fld Z h17 b "com/example/stackwise/stackwise/input/DecimalColumn$Builder" "scale" "I" (.int (0 : Int32)) := F9.keep K17 nin0
  have F22 : Fld Z h17 b "com/example/stackwise/stackwise/input/DecimalColumn$Builder" "size" "I" (.int (0 : Int32)) := F10.keep K17 nin0
  have F23 : Fld Z h17 b "com/example/stackwise/stackwise/input/DecimalColumn$Builder" "values" "[Ljava/math/BigDecimal;" .null := F11.keep K17 nin0
  have K24 : Keep h0 h17 [b] := K12.trans K17 all0
  have E25 : Exa Z h17 a4 "com/example/stackwise/stackwise/input/Decimals$Reading" := E4.keep K17
  have F26 : Fld Z h17 a4 "com/example/stackwise/stackwise/input/Decimals$Reading" "scale" "I" (.int (0 : Int32)) := F13.keep K17 nin0
  have F27 : Fld Z h17 a4 "com/example/stackwise/stackwise/input/Decimals$Reading" "unscaled" "J" (.long (0 : Int64)) := F14.keep K17 nin0
  have F28 : Fld Z h17 a4 "com/example/stackwise/stackwise/input/Decimals$Reading" "wide" "Ljava/math/BigDecimal;" .null := F15.keep K17 nin0
  obtain ⟨h29, W29, G29⟩ := G17.putF (v := (.ref a4)) (pc' := 15) (host := "") (Or.inl (hw _ (List.mem_of_getElem? (i := 24) rfl))) Via.refl F19 E18 g_b (Or.inr ⟨(hw _ (List.mem_of_getElem? (i := 25) rfl)), rfl, hnm⟩) (hw _ (List.mem_of_getElem? (i := 11) rfl)) (ty := (.object "com/example/stackwise/stackwise/input/Decimals$Reading")) (by decide) rfl rfl d3_12
  have E30 : Exa Z h29 b "com/example/stackwise/stackwise/input/DecimalColumn$Builder" := E18.wr W29
  have F31 : Fld Z h29 b "com/example/stackwise/stackwise/input/DecimalColumn$Builder" "reading" "Lcom/example/stackwise/stackwise/input/Decimals$Reading;" (.ref a4) := F19.same W29
  have F32 : Fld Z h29 b "com/example/stackwise/stackwise/input/DecimalColumn$Builder" "unscaled" "[J" .null := F20.other W29 (Or.inr (slot_ne (Or.inl (hw _ (List.mem_of_getElem? (i := 32) rfl))) (Or.inr (hw _ (List.mem_of_getElem? (i := 25) rfl))) (by decide) (t := (.array .long)) (t' := (.object "com/example/stackwise/stackwise/input/Decimals$Reading")) (by decide) (by decide)))
  have F33 : Fld Z h29 b "com/example/stackwise/stackwise/input/DecimalColumn$Builder" "scale" "I" (.int (0 : Int32)) := F21.other W29 (Or.inr (slot_ne (Or.inl (hw _ (List.mem_of_getElem? (i := 80) rfl))) (Or.inr (hw _ (List.mem_of_getElem? (i := 25) rfl))) (by decide) (t := .int) (t' := (.object "com/example/stackwise/stackwise/input/Decimals$Reading")) (by decide) (by decide)))
  have F34 : Fld Z h29 b "com/example/stackwise/stackwise/input/DecimalColumn$Builder" "size" "I" (.int (0 : Int32)) := F22.other W29 (Or.inr (slot_ne (Or.inl (hw _ (List.mem_of_getElem? (i := 46) rfl))) (Or.inr (hw _ (List.mem_of_getElem? (i := 25) rfl))) (by decide) (t := .int) (t' := (.object "com/example/stackwise/stackwise/input/Decimals$Reading")) (by decide) (by decide)))
  have F35 : Fld Z h29 b "com/example/stackwise/stackwise/input/DecimalColumn$Builder" "values" "[Ljava/math/BigDecimal;" .null := F23.other W29 (Or.inr (slot_ne (Or.inl (hw _ (List.mem_of_getElem? (i := 106) rfl))) (Or.inr (hw _ (List.mem_of_getElem? (i := 25) rfl))) (by decide) (t := (.array (.object "java/math/BigDecimal"))) (t' := (.object "com/example/stackwise/stackwise/input/Decimals$Reading")) (by decide) (by decide)))
  have K36 : Keep h0 h29 [b] := K24.wr W29 (Or.inl (List.mem_of_getElem? (i := 0) rfl))
  have E37 : Exa Z h29 a4 "com/example/stackwise/stackwise/input/Decimals$Reading" := E25.wr W29
  have F38 : Fld Z h29 a4 "com/example/stackwise/stackwise/input/Decimals$Reading" "scale" "I" (.int (0 : Int32)) := F26.other W29 (Or.inl (Ne.symm ne5))
  have F39 : Fld Z h29 a4 "com/example/stackwise/stackwise/input/Decimals$Reading" "unscaled" "J" (.long (0 : Int64)) := F27.other W29 (Or.inl (Ne.symm ne5))
  have F40 : Fld Z h29 a4 "com/example/stackwise/stackwise/input/Decimals$Reading" "wide" "Ljava/math/BigDecimal;" .null := F28.other W29 (Or.inl (Ne.symm ne5))
  have G41 := G29.aloadN (v := (.ref b)) (pc' := 16) d3_15 rfl
  have G42 := G41.iloadN (v := (8784 : Int32)) (pc' := 17) d3_16 rfl
  have G43 := G42.iconst (v := (1 : Int32)) (pc' := 18) d3_17
  obtain ⟨v44, h44, ⟨ev44, eh44⟩, g44⟩ := G43.callS (argsL := [(.int (8784 : Int32)), (.int (1 : Int32))]) (rest := [(.ref b)]) (pc' := 21) (k' := 1) (j' := 3) (cn5 l Z a0 hw (8784 : Int32) (1 : Int32) h29 n0 G43.size) rfl (hw _ (List.mem_of_getElem? (i := 26) rfl)) (hw _ (List.mem_of_getElem? (i := 27) rfl)) (hw _ (List.mem_of_getElem? (i := 28) rfl)) (hw _ (List.mem_of_getElem? (i := 29) rfl)) (by decide) d3_18 pd1 rfl (W := 1) rfl rfl (by decide) (by decide) (by decide) (by decide) rfl rfl rfl
  subst ev44
  rw [eh44] at g44
  have G44 := g44 [(.int (fM (8784 : Int32) (1 : Int32))), (.ref b)] rfl
  obtain ⟨a45, h45, ea45, g_a45, X45, V45, G45⟩ := G44.newA (ty := .long) (dv := (.long (0 : Int64))) (N := 8784) (cap := 8784) (pc' := 23) (k' := 2) (j' := 8787) (hw _ (List.mem_of_getElem? (i := 30) rfl)) d3_21 rfl rfl (by decide) (by decide) (by decide) rfl rfl rfl (by decide) (by decide)
  have ne46 : b ≠ a45 := by rw [ea45]; exact Nat.ne_of_lt E30.lt
  have ne47 : a4 ≠ a45 := by rw [ea45]; exact Nat.ne_of_lt E37.lt
  have sz45 : h0.size ≤ a45 := by rw [ea45]; exact K36.1
  have E48 : Exa Z h45 b "com/example/stackwise/stackwise/input/DecimalColumn$Builder" := E30.ext X45
  have F49 : Fld Z h45 b "com/example/stackwise/stackwise/input/DecimalColumn$Builder" "reading" "Lcom/example/stackwise/stackwise/input/Decimals$Reading;" (.ref a4) := F31.ext X45
  have F50 : Fld Z h45 b "com/example/stackwise/stackwise/input/DecimalColumn$Builder" "unscaled" "[J" .null := F32.ext X45
  have F51 : Fld Z h45 b "com/example/stackwise/stackwise/input/DecimalColumn$Builder" "scale" "I" (.int (0 : Int32)) := F33.ext X45
  have F52 : Fld Z h45 b "com/example/stackwise/stackwise/input/DecimalColumn$Builder" "size" "I" (.int (0 : Int32)) := F34.ext X45
  have F53 : Fld Z h45 b "com/example/stackwise/stackwise/input/DecimalColumn$Builder" "values" "[Ljava/math/BigDecimal;" .null := F35.ext X45
  have K54 : Keep h0 h45 [b] := K36.ext X45
  have E55 : Exa Z h45 a4 "com/example/stackwise/stackwise/input/Decimals$Reading" := E37.ext X45
  have F56 : Fld Z h45 a4 "com/example/stackwise/stackwise/input/Decimals$Reading" "scale" "I" (.int (0 : Int32)) := F38.ext X45
  have F57 : Fld Z h45 a4 "com/example/stackwise/stackwise/input/Decimals$Reading" "unscaled" "J" (.long (0 : Int64)) := F39.ext X45
  have F58 : Fld Z h45 a4 "com/example/stackwise/stackwise/input/Decimals$Reading" "wide" "Ljava/math/BigDecimal;" .null := F40.ext X45
  obtain ⟨h59, W59, G59⟩ := G45.putF (v := (.ref a45)) (pc' := 26) (host := "") (Or.inl (hw _ (List.mem_of_getElem? (i := 31) rfl))) Via.refl F50 E48 g_b (Or.inl (hw _ (List.mem_of_getElem? (i := 32) rfl))) (hw _ (List.mem_of_getElem? (i := 11) rfl)) (ty := (.array .long)) (by decide) rfl rfl d3_23
  have E60 : Exa Z h59 b "com/example/stackwise/stackwise/input/DecimalColumn$Builder" := E48.wr W59
  have F61 : Fld Z h59 b "com/example/stackwise/stackwise/input/DecimalColumn$Builder" "reading" "Lcom/example/stackwise/stackwise/input/Decimals$Reading;" (.ref a4) := F49.other W59 (Or.inr (slot_ne (Or.inr (hw _ (List.mem_of_getElem? (i := 25) rfl))) (Or.inl (hw _ (List.mem_of_getElem? (i := 32) rfl))) (by decide) (t := (.object "com/example/stackwise/stackwise/input/Decimals$Reading")) (t' := (.array .long)) (by decide) (by decide)))
  have F62 : Fld Z h59 b "com/example/stackwise/stackwise/input/DecimalColumn$Builder" "unscaled" "[J" (.ref a45) := F50.same W59
  have F63 : Fld Z h59 b "com/example/stackwise/stackwise/input/DecimalColumn$Builder" "scale" "I" (.int (0 : Int32)) := F51.other W59 (Or.inr (slot_ne (Or.inl (hw _ (List.mem_of_getElem? (i := 80) rfl))) (Or.inl (hw _ (List.mem_of_getElem? (i := 32) rfl))) (by decide) (t := .int) (t' := (.array .long)) (by decide) (by decide)))
  have F64 : Fld Z h59 b "com/example/stackwise/stackwise/input/DecimalColumn$Builder" "size" "I" (.int (0 : Int32)) := F52.other W59 (Or.inr (slot_ne (Or.inl (hw _ (List.mem_of_getElem? (i := 46) rfl))) (Or.inl (hw _ (List.mem_of_getElem? (i := 32) rfl))) (by decide) (t := .int) (t' := (.array .long)) (by decide) (by decide)))
  have F65 : Fld Z h59 b "com/example/stackwise/stackwise/input/DecimalColumn$Builder" "values" "[Ljava/math/BigDecimal;" .null := F53.other W59 (Or.inr (slot_ne (Or.inl (hw _ (List.mem_of_getElem? (i := 106) rfl))) (Or.inl (hw _ (List.mem_of_getElem? (i := 32) rfl))) (by decide) (t := (.array (.object "java/math/BigDecimal"))) (t' := (.array .long)) (by decide) (by decide)))
  have K66 : Keep h0 h59 [b] := K54.wr W59 (Or.inl (List.mem_of_getElem? (i := 0) rfl))
  have E67 : Exa Z h59 a4 "com/example/stackwise/stackwise/input/Decimals$Reading" := E55.wr W59
  have F68 : Fld Z h59 a4 "com/example/stackwise/stackwise/input/Decimals$Reading" "scale" "I" (.int (0 : Int32)) := F56.other W59 (Or.inl (Ne.symm ne5))
  have F69 : Fld Z h59 a4 "com/example/stackwise/stackwise/input/Decimals$Reading" "unscaled" "J" (.long (0 : Int64)) := F57.other W59 (Or.inl (Ne.symm ne5))
  have F70 : Fld Z h59 a4 "com/example/stackwise/stackwise/input/Decimals$Reading" "wide" "Ljava/math/BigDecimal;" .null := F58.other W59 (Or.inl (Ne.symm ne5))
  have V71 : Av Z h59 a45 .long (List.replicate 8784 (.long (0 : Int64))) := V45.other W59 (Ne.symm ne46)
  exact G59.retV d3_26 rfl ⟨a4, a45, rfl, K66, sz4, sz45, ne47, E60, F61, F62, F63, F64, F65, E67, F68, F69, F70, V71⟩
theorem d1_0 : decode prog_7_method_1_code 0 = .ok (.aload_n 0, 1) := by decide +kernel
theorem d1_1 : decode prog_7_method_1_code 1 = .ok (.invokespecial 3, 3) := by decide +kernel
theorem d1_4 : decode prog_7_method_1_code 4 = .ok (.aload_n 0, 1) := by decide +kernel
theorem d1_5 : decode prog_7_method_1_code 5 = .ok (.new 9, 3) := by decide +kernel
theorem d1_8 : decode prog_7_method_1_code 8 = .ok (.dup, 1) := by decide +kernel
theorem d1_9 : decode prog_7_method_1_code 9 = .ok (.sipush 8784, 3) := by decide +kernel
theorem d1_12 : decode prog_7_method_1_code 12 = .ok (.invokespecial 11, 3) := by decide +kernel
theorem d1_15 : decode prog_7_method_1_code 15 = .ok (.putfield 14, 3) := by decide +kernel
theorem d1_18 : decode prog_7_method_1_code 18 = .ok (.return_, 1) := by decide +kernel
theorem pn2 : plainName "com/example/stackwise/stackwise/calendar/HourlyValues$Builder" = true := by first | (simp [plainName, overriddenIn]; done) | decide +kernel
theorem ef1 (m : MethodId) (a : Addr) : entryFrame m #[(.ref a)] 1 = mkF m 0 #[.val (.ref a)] [] := by first | (simp [entryFrame, mkF, argsToLocals, Value.category]; done) | rfl
theorem pd2 : parseMethodDescriptor "(I)V" = some ⟨[.int], none⟩ := by decide +kernel
def rm1 : Room := { frames := 3, cells := 3, slots := 8792, locals := 41 }
set_option maxRecDepth 65536 in
set_option maxHeartbeats 40000000 in
theorem cn1 (l : Launch) (Z : State) (a0 : Array Value) (hw : ∀ d ∈ tables_1, d.before a0 Z = true) (a : Addr) (h0 : Heap) (n0 : Nat) (hn : n0 ≤ h0.size) (E_a : Exa Z h0 a "com/example/stackwise/stackwise/calendar/HourlyValues$Builder") (F_a_values : Fld Z h0 a "com/example/stackwise/stackwise/calendar/HourlyValues$Builder" "values" "Lcom/example/stackwise/stackwise/input/DecimalColumn$Builder;" .null) (F_a_first : Fld Z h0 a "com/example/stackwise/stackwise/calendar/HourlyValues$Builder" "first" "J" (.long (0 : Int64))) (F_a_hours : Fld Z h0 a "com/example/stackwise/stackwise/calendar/HourlyValues$Builder" "hours" "[J" .null) (g_a : n0 ≤ a) :
    Con l (⟨"com/example/stackwise/stackwise/calendar/HourlyValues$Builder", "<init>", "()V"⟩ : MethodName) prog_7_method_1_code 1 none [] rm1 rm1.cells rm1.slots Z #[(.ref a)] h0 n0 (fun v h => ∃ a4 : Addr, ∃ a19 : Addr, ∃ a20 : Addr, v = none ∧ Keep h0 h [a] ∧ h0.size ≤ a4 ∧ h0.size ≤ a19 ∧ h0.size ≤ a20 ∧ a4 ≠ a19 ∧ a4 ≠ a20 ∧ a19 ≠ a20 ∧ Exa Z h a "com/example/stackwise/stackwise/calendar/HourlyValues$Builder" ∧ Fld Z h a "com/example/stackwise/stackwise/calendar/HourlyValues$Builder" "values" "Lcom/example/stackwise/stackwise/input/DecimalColumn$Builder;" (.ref a4) ∧ Fld Z h a "com/example/stackwise/stackwise/calendar/HourlyValues$Builder" "first" "J" (.long (0 : Int64)) ∧ Fld Z h a "com/example/stackwise/stackwise/calendar/HourlyValues$Builder" "hours" "[J" .null ∧ Exa Z h a4 "com/example/stackwise/stackwise/input/DecimalColumn$Builder" ∧ Fld Z h a4 "com/example/stackwise/stackwise/input/DecimalColumn$Builder" "reading" "Lcom/example/stackwise/stackwise/input/Decimals$Reading;" (.ref a19) ∧ Fld Z h a4 "com/example/stackwise/stackwise/input/DecimalColumn$Builder" "unscaled" "[J" (.ref a20) ∧ Fld Z h a4 "com/example/stackwise/stackwise/input/DecimalColumn$Builder" "scale" "I" (.int (0 : Int32)) ∧ Fld Z h a4 "com/example/stackwise/stackwise/input/DecimalColumn$Builder" "size" "I" (.int (0 : Int32)) ∧ Fld Z h a4 "com/example/stackwise/stackwise/input/DecimalColumn$Builder" "values" "[Ljava/math/BigDecimal;" .null ∧ Exa Z h a19 "com/example/stackwise/stackwise/input/Decimals$Reading" ∧ Fld Z h a19 "com/example/stackwise/stackwise/input/Decimals$Reading" "scale" "I" (.int (0 : Int32)) ∧ Fld Z h a19 "com/example/stackwise/stackwise/input/Decimals$Reading" "unscaled" "J" (.long (0 : Int64)) ∧ Fld Z h a19 "com/example/stackwise/stackwise/input/Decimals$Reading" "wide" "Ljava/math/BigDecimal;" .null ∧ Av Z h a20 .long (List.replicate 8784 (.long (0 : Int64)))) := by
  refine Con.of (plainFor_of_name pn2) hn (fun m => ef1 m a) ?_
  intro p e s m below meth c s₀ hnm G0
  have K0 : Keep h0 h0 [a] := Keep.refl _ _
  have G1 := G0.aloadN (v := (.ref a)) (pc' := 1) d1_0 rfl
  have G2 := G1.initO (pc' := 4) (hw _ (List.mem_of_getElem? (i := 7) rfl)) (hw _ (List.mem_of_getElem? (i := 8) rfl)) (hw _ (List.mem_of_getElem? (i := 9) rfl)) d1_1 (W := 0) rfl rfl (by decide) (by decide)
  have G3 := G2.aloadN (v := (.ref a)) (pc' := 5) d1_4 rfl
  obtain ⟨a4, h4, ea4, g_a4, X4, E4, D4, G4⟩ := G3.newO (pc' := 8) (k' := 1) (j' := 5) (hw _ (List.mem_of_getElem? (i := 10) rfl)) (hw _ (List.mem_of_getElem? (i := 11) rfl)) (hw _ (List.mem_of_getElem? (i := 12) rfl)) d1_5 rfl rfl rfl (by decide) (by decide)
  have ne5 : a ≠ a4 := by rw [ea4]; exact Nat.ne_of_lt E_a.lt
  have sz4 : h0.size ≤ a4 := by rw [ea4]; exact K0.1
  have E6 : Exa Z h4 a "com/example/stackwise/stackwise/calendar/HourlyValues$Builder" := E_a.ext X4
  have F7 : Fld Z h4 a "com/example/stackwise/stackwise/calendar/HourlyValues$Builder" "values" "Lcom/example/stackwise/stackwise/input/DecimalColumn$Builder;" .null := F_a_values.ext X4
  have F8 : Fld Z h4 a "com/example/stackwise/stackwise/calendar/HourlyValues$Builder" "first" "J" (.long (0 : Int64)) := F_a_first.ext X4
  have F9 : Fld Z h4 a "com/example/stackwise/stackwise/calendar/HourlyValues$Builder" "hours" "[J" .null := F_a_hours.ext X4
  have K10 : Keep h0 h4 [a] := K0.ext X4
  have F11 : Fld Z h4 a4 "com/example/stackwise/stackwise/input/DecimalColumn$Builder" "reading" "Lcom/example/stackwise/stackwise/input/Decimals$Reading;" .null := D4 (Or.inr (hw _ (List.mem_of_getElem? (i := 25) rfl))) (ty := (.object "com/example/stackwise/stackwise/input/Decimals$Reading")) (by decide)
  have F12 : Fld Z h4 a4 "com/example/stackwise/stackwise/input/DecimalColumn$Builder" "unscaled" "[J" .null := D4 (Or.inl (hw _ (List.mem_of_getElem? (i := 32) rfl))) (ty := (.array .long)) (by decide)
  have F13 : Fld Z h4 a4 "com/example/stackwise/stackwise/input/DecimalColumn$Builder" "size" "I" (.int (0 : Int32)) := D4 (Or.inl (hw _ (List.mem_of_getElem? (i := 46) rfl))) (ty := .int) (by decide)
  have F14 : Fld Z h4 a4 "com/example/stackwise/stackwise/input/DecimalColumn$Builder" "scale" "I" (.int (0 : Int32)) := D4 (Or.inl (hw _ (List.mem_of_getElem? (i := 80) rfl))) (ty := .int) (by decide)
  have F15 : Fld Z h4 a4 "com/example/stackwise/stackwise/input/DecimalColumn$Builder" "values" "[Ljava/math/BigDecimal;" .null := D4 (Or.inl (hw _ (List.mem_of_getElem? (i := 106) rfl))) (ty := (.array (.object "java/math/BigDecimal"))) (by decide)
  have G16 := G4.dup (pc' := 9) d1_8
  have G17 := G16.sipush (v := (8784 : Int32)) (pc' := 12) d1_9
  obtain ⟨v18, h18, ⟨a19, a20, ev18, K18, sz18_0, sz18_1, ne18_0, F18_0, F18_1, F18_2, F18_3, F18_4, F18_5, F18_6, F18_7, F18_8, F18_9, F18_10⟩, g18⟩ := G17.callI (argsL := [(.int (8784 : Int32))]) (rest := [(.ref a4), (.ref a)]) (pc' := 15) (k' := 3) (j' := 8792) (cn3 l Z a0 hw a4 h4 n0 G17.size E4 F11 F12 F14 F13 F15 g_a4) rfl rfl (hw _ (List.mem_of_getElem? (i := 13) rfl)) (hw _ (List.mem_of_getElem? (i := 14) rfl)) (hw _ (List.mem_of_getElem? (i := 12) rfl)) (hw _ (List.mem_of_getElem? (i := 15) rfl)) (by decide) d1_12 pd2 rfl (W := 2) rfl rfl (by decide) (by decide) (by decide) (by decide) rfl rfl rfl
  subst ev18
  have G18 := g18 [(.ref a4), (.ref a)] rfl
  have g_a19 : n0 ≤ a19 := Nat.le_trans G17.size sz18_0
  have ne21 : a ≠ a19 := Nat.ne_of_lt (Nat.lt_of_lt_of_le E6.lt sz18_0)
  have ne22 : a4 ≠ a19 := Nat.ne_of_lt (Nat.lt_of_lt_of_le E4.lt sz18_0)
  have sz_a19 : h0.size ≤ a19 := Nat.le_trans K10.1 sz18_0
  have g_a20 : n0 ≤ a20 := Nat.le_trans G17.size sz18_1
  have ne23 : a ≠ a20 := Nat.ne_of_lt (Nat.lt_of_lt_of_le E6.lt sz18_1)
  have ne24 : a4 ≠ a20 := Nat.ne_of_lt (Nat.lt_of_lt_of_le E4.lt sz18_1)
  have sz_a20 : h0.size ≤ a20 := Nat.le_trans K10.1 sz18_1
  have E25 : Exa Z h18 a "com/example/stackwise/stackwise/calendar/HourlyValues$Builder" := E6.keep K18
  have F26 : Fld Z h18 a "com/example/stackwise/stackwise/calendar/HourlyValues$Builder" "values" "Lcom/example/stackwise/stackwise/input/DecimalColumn$Builder;" .null := F7.keep K18 (ninS ne5 nin0)
  have F27 : Fld Z h18 a "com/example/stackwise/stackwise/calendar/HourlyValues$Builder" "first" "J" (.long (0 : Int64)) := F8.keep K18 (ninS ne5 nin0)
  have F28 : Fld Z h18 a "com/example/stackwise/stackwise/calendar/HourlyValues$Builder" "hours" "[J" .null := F9.keep K18 (ninS ne5 nin0)
  have K29 : Keep h0 h18 [a] := K10.trans K18 (allS (Or.inr sz4) all0)
  have E30 : Exa Z h18 a4 "com/example/stackwise/stackwise/input/DecimalColumn$Builder" := E4.keep K18
  obtain ⟨h31, W31, G31⟩ := G18.putF (v := (.ref a4)) (pc' := 18) (host := "") (Or.inl (hw _ (List.mem_of_getElem? (i := 33) rfl))) Via.refl F26 E25 g_a (Or.inr ⟨(hw _ (List.mem_of_getElem? (i := 34) rfl)), rfl, hnm⟩) (hw _ (List.mem_of_getElem? (i := 2) rfl)) (ty := (.object "com/example/stackwise/stackwise/input/DecimalColumn$Builder")) (by decide) rfl rfl d1_15
  have E32 : Exa Z h31 a "com/example/stackwise/stackwise/calendar/HourlyValues$Builder" := E25.wr W31
  have F33 : Fld Z h31 a "com/example/stackwise/stackwise/calendar/HourlyValues$Builder" "values" "Lcom/example/stackwise/stackwise/input/DecimalColumn$Builder;" (.ref a4) := F26.same W31
  have F34 : Fld Z h31 a "com/example/stackwise/stackwise/calendar/HourlyValues$Builder" "first" "J" (.long (0 : Int64)) := F27.other W31 (Or.inr (slot_ne (Or.inl (hw _ (List.mem_of_getElem? (i := 96) rfl))) (Or.inr (hw _ (List.mem_of_getElem? (i := 34) rfl))) (by decide) (t := .long) (t' := (.object "com/example/stackwise/stackwise/input/DecimalColumn$Builder")) (by decide) (by decide)))
  have F35 : Fld Z h31 a "com/example/stackwise/stackwise/calendar/HourlyValues$Builder" "hours" "[J" .null := F28.other W31 (Or.inr (slot_ne (Or.inl (hw _ (List.mem_of_getElem? (i := 98) rfl))) (Or.inr (hw _ (List.mem_of_getElem? (i := 34) rfl))) (by decide) (t := (.array .long)) (t' := (.object "com/example/stackwise/stackwise/input/DecimalColumn$Builder")) (by decide) (by decide)))
  have K36 : Keep h0 h31 [a] := K29.wr W31 (Or.inl (List.mem_of_getElem? (i := 0) rfl))
  have E37 : Exa Z h31 a4 "com/example/stackwise/stackwise/input/DecimalColumn$Builder" := F18_0.wr W31
  have F38 : Fld Z h31 a4 "com/example/stackwise/stackwise/input/DecimalColumn$Builder" "reading" "Lcom/example/stackwise/stackwise/input/Decimals$Reading;" (.ref a19) := F18_1.other W31 (Or.inl (Ne.symm ne5))
  have F39 : Fld Z h31 a4 "com/example/stackwise/stackwise/input/DecimalColumn$Builder" "unscaled" "[J" (.ref a20) := F18_2.other W31 (Or.inl (Ne.symm ne5))
  have F40 : Fld Z h31 a4 "com/example/stackwise/stackwise/input/DecimalColumn$Builder" "scale" "I" (.int (0 : Int32)) := F18_3.other W31 (Or.inl (Ne.symm ne5))
  have F41 : Fld Z h31 a4 "com/example/stackwise/stackwise/input/DecimalColumn$Builder" "size" "I" (.int (0 : Int32)) := F18_4.other W31 (Or.inl (Ne.symm ne5))
  have F42 : Fld Z h31 a4 "com/example/stackwise/stackwise/input/DecimalColumn$Builder" "values" "[Ljava/math/BigDecimal;" .null := F18_5.other W31 (Or.inl (Ne.symm ne5))
  have E43 : Exa Z h31 a19 "com/example/stackwise/stackwise/input/Decimals$Reading" := F18_6.wr W31
  have F44 : Fld Z h31 a19 "com/example/stackwise/stackwise/input/Decimals$Reading" "scale" "I" (.int (0 : Int32)) := F18_7.other W31 (Or.inl (Ne.symm ne21))
  have F45 : Fld Z h31 a19 "com/example/stackwise/stackwise/input/Decimals$Reading" "unscaled" "J" (.long (0 : Int64)) := F18_8.other W31 (Or.inl (Ne.symm ne21))
  have F46 : Fld Z h31 a19 "com/example/stackwise/stackwise/input/Decimals$Reading" "wide" "Ljava/math/BigDecimal;" .null := F18_9.other W31 (Or.inl (Ne.symm ne21))
  have V47 : Av Z h31 a20 .long (List.replicate 8784 (.long (0 : Int64))) := F18_10.other W31 (Ne.symm ne23)
  exact G31.retV d1_18 rfl ⟨a4, a19, a20, rfl, K36, sz4, sz_a19, sz_a20, ne22, ne24, ne18_0, E32, F33, F34, F35, E37, F38, F39, F40, F41, F42, E43, F44, F45, F46, V47⟩
theorem d11_0 : decode prog_17_method_4_code 0 = .ok (.aload_n 0, 1) := by decide +kernel
theorem d11_1 : decode prog_17_method_4_code 1 = .ok (.getfield 41, 3) := by decide +kernel
theorem d11_4 : decode prog_17_method_4_code 4 = .ok (.ifnonnull 7, 3) := by decide +kernel
theorem d11_7 : decode prog_17_method_4_code 7 = .ok (.iconst 1, 1) := by decide +kernel
theorem d11_8 : decode prog_17_method_4_code 8 = .ok (.goto 4, 3) := by decide +kernel
theorem d11_11 : decode prog_17_method_4_code 11 = .ok (.iconst 0, 1) := by decide +kernel
theorem d11_12 : decode prog_17_method_4_code 12 = .ok (.ireturn, 1) := by decide +kernel
theorem ef11 (m : MethodId) (r : Addr) : entryFrame m #[(.ref r)] 1 = mkF m 0 #[.val (.ref r)] [] := by first | (simp [entryFrame, mkF, argsToLocals, Value.category]; done) | rfl
def rm11 : Room := { frames := 0, cells := 0, slots := 0, locals := 0 }
set_option maxRecDepth 65536 in
set_option maxHeartbeats 40000000 in
theorem cn11 (l : Launch) (Z : State) (a0 : Array Value) (hw : ∀ d ∈ tables_1, d.before a0 Z = true) (r : Addr) (h0 : Heap) (n0 : Nat) (hn : n0 ≤ h0.size) (F_r_wide : Fld Z h0 r "com/example/stackwise/stackwise/input/Decimals$Reading" "wide" "Ljava/math/BigDecimal;" .null) :
    Con l (⟨"com/example/stackwise/stackwise/input/Decimals$Reading", "fitsLong", "()Z"⟩ : MethodName) prog_17_method_4_code 1 (some .boolean) [] rm11 rm11.cells rm11.slots Z #[(.ref r)] h0 n0 (fun v h => v = some (.int (1 : Int32)) ∧ Keep h0 h []) := by
  refine Con.of (plainFor_of_name pn0) hn (fun m => ef11 m r) ?_
  intro p e s m below meth c s₀ hnm G0
  have K0 : Keep h0 h0 [] := Keep.refl _ _
  have G1 := G0.aloadN (v := (.ref r)) (pc' := 1) d11_0 rfl
  have G2 := G1.getF (pc' := 4) (v := .null) (host := "") (Or.inl (hw _ (List.mem_of_getElem? (i := 67) rfl))) Via.refl F_r_wide d11_1
  have G3 := G2.ifnonnullN d11_4 7
  have G4 := G3.iconst (v := (1 : Int32)) (pc' := 8) d11_7
  have G5 := G4.goto d11_8 12
  exact G5.retZ d11_12 rfl (by decide) ⟨rfl, K0⟩
theorem d12_0 : decode prog_17_method_6_code 0 = .ok (.aload_n 0, 1) := by decide +kernel
theorem d12_1 : decode prog_17_method_6_code 1 = .ok (.getfield 17, 3) := by decide +kernel
theorem d12_4 : decode prog_17_method_6_code 4 = .ok (.ireturn, 1) := by decide +kernel
theorem ef12 (m : MethodId) (r : Addr) : entryFrame m #[(.ref r)] 1 = mkF m 0 #[.val (.ref r)] [] := by first | (simp [entryFrame, mkF, argsToLocals, Value.category]; done) | rfl
def rm12 : Room := { frames := 0, cells := 0, slots := 0, locals := 0 }
set_option maxRecDepth 65536 in
set_option maxHeartbeats 40000000 in
theorem cn12 (l : Launch) (Z : State) (a0 : Array Value) (hw : ∀ d ∈ tables_1, d.before a0 Z = true) (r : Addr) (w0 : Int32) (h0 : Heap) (n0 : Nat) (hn : n0 ≤ h0.size) (F_r_scale : Fld Z h0 r "com/example/stackwise/stackwise/input/Decimals$Reading" "scale" "I" (.int w0)) :
    Con l (⟨"com/example/stackwise/stackwise/input/Decimals$Reading", "scale", "()I"⟩ : MethodName) prog_17_method_6_code 1 (some .int) [] rm12 rm12.cells rm12.slots Z #[(.ref r)] h0 n0 (fun v h => v = some (.int w0) ∧ Keep h0 h []) := by
  refine Con.of (plainFor_of_name pn0) hn (fun m => ef12 m r) ?_
  intro p e s m below meth c s₀ hnm G0
  have K0 : Keep h0 h0 [] := Keep.refl _ _
  have G1 := G0.aloadN (v := (.ref r)) (pc' := 1) d12_0 rfl
  have G2 := G1.getF (pc' := 4) (v := (.int w0)) (host := "") (Or.inl (hw _ (List.mem_of_getElem? (i := 63) rfl))) Via.refl F_r_scale d12_1
  exact G2.retI d12_4 rfl ⟨rfl, K0⟩
theorem d13_0 : decode prog_17_method_5_code 0 = .ok (.aload_n 0, 1) := by decide +kernel
theorem d13_1 : decode prog_17_method_5_code 1 = .ok (.getfield 21, 3) := by decide +kernel
theorem d13_4 : decode prog_17_method_5_code 4 = .ok (.lreturn, 1) := by decide +kernel
theorem ef13 (m : MethodId) (r : Addr) : entryFrame m #[(.ref r)] 1 = mkF m 0 #[.val (.ref r)] [] := by first | (simp [entryFrame, mkF, argsToLocals, Value.category]; done) | rfl
def rm13 : Room := { frames := 0, cells := 0, slots := 0, locals := 0 }
set_option maxRecDepth 65536 in
set_option maxHeartbeats 40000000 in
theorem cn13 (l : Launch) (Z : State) (a0 : Array Value) (hw : ∀ d ∈ tables_1, d.before a0 Z = true) (r : Addr) (w0 : Int64) (h0 : Heap) (n0 : Nat) (hn : n0 ≤ h0.size) (F_r_unscaled : Fld Z h0 r "com/example/stackwise/stackwise/input/Decimals$Reading" "unscaled" "J" (.long w0)) :
    Con l (⟨"com/example/stackwise/stackwise/input/Decimals$Reading", "unscaled", "()J"⟩ : MethodName) prog_17_method_5_code 1 (some .long) [] rm13 rm13.cells rm13.slots Z #[(.ref r)] h0 n0 (fun v h => v = some (.long w0) ∧ Keep h0 h []) := by
  refine Con.of (plainFor_of_name pn0) hn (fun m => ef13 m r) ?_
  intro p e s m below meth c s₀ hnm G0
  have K0 : Keep h0 h0 [] := Keep.refl _ _
  have G1 := G0.aloadN (v := (.ref r)) (pc' := 1) d13_0 rfl
  have G2 := G1.getF (pc' := 4) (v := (.long w0)) (host := "") (Or.inl (hw _ (List.mem_of_getElem? (i := 65) rfl))) Via.refl F_r_unscaled d13_1
  exact G2.retJ d13_4 rfl ⟨rfl, K0⟩
theorem d15_0 : decode jdk_35_method_57_code 0 = .ok (.lload_n 0, 1) := by decide +kernel
theorem d15_1 : decode jdk_35_method_57_code 1 = .ok (.bipush 63, 2) := by decide +kernel
theorem d15_3 : decode jdk_35_method_57_code 3 = .ok (.lshr, 1) := by decide +kernel
theorem d15_4 : decode jdk_35_method_57_code 4 = .ok (.lload_n 0, 1) := by decide +kernel
theorem d15_5 : decode jdk_35_method_57_code 5 = .ok (.lneg, 1) := by decide +kernel
theorem d15_6 : decode jdk_35_method_57_code 6 = .ok (.bipush 63, 2) := by decide +kernel
theorem d15_8 : decode jdk_35_method_57_code 8 = .ok (.lushr, 1) := by decide +kernel
theorem d15_9 : decode jdk_35_method_57_code 9 = .ok (.lor, 1) := by decide +kernel
theorem d15_10 : decode jdk_35_method_57_code 10 = .ok (.l2i, 1) := by decide +kernel
theorem d15_11 : decode jdk_35_method_57_code 11 = .ok (.ireturn, 1) := by decide +kernel
theorem pn3 : plainName "java/lang/Long" = true := by first | (simp [plainName, overriddenIn]; done) | decide +kernel
theorem ef15 (m : MethodId) (x0 : Int64) : entryFrame m #[(.long x0)] 2 = mkF m 0 #[.val (.long x0), .second] [] := by first | (simp [entryFrame, mkF, argsToLocals, Value.category]; done) | rfl
def fSg (x0 : Int64) : Int32 := ((x0 >>> ((63 : Int32) &&& 0x3f).toInt64) ||| (((-x0).toUInt64 >>> ((63 : Int32) &&& 0x3f).toInt64.toUInt64).toInt64)).toInt32
def rm15 : Room := { frames := 0, cells := 0, slots := 0, locals := 0 }
set_option maxRecDepth 65536 in
set_option maxHeartbeats 40000000 in
theorem cn15 (l : Launch) (Z : State) (a0 : Array Value) (hw : ∀ d ∈ tables_1, d.before a0 Z = true) (x0 : Int64) (h0 : Heap) (n0 : Nat) (hn : n0 ≤ h0.size) :
    Con l (⟨"java/lang/Long", "signum", "(J)I"⟩ : MethodName) jdk_35_method_57_code 2 (some .int) [] rm15 rm15.cells rm15.slots Z #[(.long x0)] h0 n0 (fun v h => v = some (.int (fSg x0)) ∧ h = h0) := by
  refine Con.of (plainFor_of_name pn3) hn (fun m => ef15 m x0) ?_
  intro p e s m below meth c s₀ hnm G0
  have G1 := G0.lloadN (v := x0) (pc' := 1) d15_0 rfl
  have G2 := G1.bipush (v := (63 : Int32)) (pc' := 3) d15_1
  have G3 := G2.lshr (pc' := 4) d15_3
  have G4 := G3.lloadN (v := x0) (pc' := 5) d15_4 rfl
  have G5 := G4.lneg (pc' := 6) d15_5
  have G6 := G5.bipush (v := (63 : Int32)) (pc' := 8) d15_6
  have G7 := G6.lushr (pc' := 9) d15_8
  have G8 := G7.lor (pc' := 10) d15_9
  have G9 := G8.l2i (pc' := 11) d15_10
  exact G9.retI d15_11 rfl ⟨congrArg (fun z => some (Value.int z)) (by rw [fSg]), rfl⟩
theorem d14_0 : decode prog_17_method_8_code 0 = .ok (.aload_n 0, 1) := by decide +kernel
theorem d14_1 : decode prog_17_method_8_code 1 = .ok (.getfield 41, 3) := by decide +kernel
theorem d14_4 : decode prog_17_method_8_code 4 = .ok (.ifnonnull 13, 3) := by decide +kernel
theorem d14_7 : decode prog_17_method_8_code 7 = .ok (.aload_n 0, 1) := by decide +kernel
theorem d14_8 : decode prog_17_method_8_code 8 = .ok (.getfield 21, 3) := by decide +kernel
theorem d14_11 : decode prog_17_method_8_code 11 = .ok (.invokestatic 53, 3) := by decide +kernel
theorem d14_14 : decode prog_17_method_8_code 14 = .ok (.goto 10, 3) := by decide +kernel
theorem d14_17 : decode prog_17_method_8_code 17 = .ok (.aload_n 0, 1) := by decide +kernel
theorem d14_18 : decode prog_17_method_8_code 18 = .ok (.getfield 41, 3) := by decide +kernel
theorem d14_21 : decode prog_17_method_8_code 21 = .ok (.invokevirtual 59, 3) := by decide +kernel
theorem d14_24 : decode prog_17_method_8_code 24 = .ok (.ireturn, 1) := by decide +kernel
theorem ef14 (m : MethodId) (r : Addr) : entryFrame m #[(.ref r)] 1 = mkF m 0 #[.val (.ref r)] [] := by first | (simp [entryFrame, mkF, argsToLocals, Value.category]; done) | rfl
theorem pd3 : parseMethodDescriptor "(J)I" = some ⟨[.long], some .int⟩ := by decide +kernel
def rm14 : Room := { frames := 1, cells := 0, slots := 0, locals := 13 }
set_option maxRecDepth 65536 in
set_option maxHeartbeats 40000000 in
theorem cn14 (l : Launch) (Z : State) (a0 : Array Value) (hw : ∀ d ∈ tables_1, d.before a0 Z = true) (r : Addr) (w0 : Int64) (h0 : Heap) (n0 : Nat) (hn : n0 ≤ h0.size) (F_r_wide : Fld Z h0 r "com/example/stackwise/stackwise/input/Decimals$Reading" "wide" "Ljava/math/BigDecimal;" .null) (F_r_unscaled : Fld Z h0 r "com/example/stackwise/stackwise/input/Decimals$Reading" "unscaled" "J" (.long w0)) :
    Con l (⟨"com/example/stackwise/stackwise/input/Decimals$Reading", "signum", "()I"⟩ : MethodName) prog_17_method_8_code 1 (some .int) [] rm14 rm14.cells rm14.slots Z #[(.ref r)] h0 n0 (fun v h => v = some (.int (fSg w0)) ∧ Keep h0 h []) := by
  refine Con.of (plainFor_of_name pn0) hn (fun m => ef14 m r) ?_
  intro p e s m below meth c s₀ hnm G0
  have K0 : Keep h0 h0 [] := Keep.refl _ _
  have G1 := G0.aloadN (v := (.ref r)) (pc' := 1) d14_0 rfl
  have G2 := G1.getF (pc' := 4) (v := .null) (host := "") (Or.inl (hw _ (List.mem_of_getElem? (i := 67) rfl))) Via.refl F_r_wide d14_1
  have G3 := G2.ifnonnullN d14_4 7
  have G4 := G3.aloadN (v := (.ref r)) (pc' := 8) d14_7 rfl
  have G5 := G4.getF (pc' := 11) (v := (.long w0)) (host := "") (Or.inl (hw _ (List.mem_of_getElem? (i := 65) rfl))) Via.refl F_r_unscaled d14_8
  obtain ⟨v6, h6, ⟨ev6, eh6⟩, g6⟩ := G5.callS (argsL := [(.long w0)]) (rest := []) (pc' := 14) (k' := 0) (j' := 0) (cn15 l Z a0 hw w0 h0 n0 G5.size) rfl (hw _ (List.mem_of_getElem? (i := 91) rfl)) (hw _ (List.mem_of_getElem? (i := 92) rfl)) (hw _ (List.mem_of_getElem? (i := 93) rfl)) (hw _ (List.mem_of_getElem? (i := 94) rfl)) (by decide) d14_11 pd3 rfl (W := 0) rfl rfl (by decide) (by decide) (by decide) (by decide) rfl rfl rfl
  subst ev6
  rw [eh6] at g6
  have G6 := g6 [(.int (fSg w0))] rfl
  have G7 := G6.goto d14_14 24
  exact G7.retI d14_24 rfl ⟨rfl, K0⟩
theorem d10_0 : decode prog_17_method_3_code 0 = .ok (.iload_n 2, 1) := by decide +kernel
theorem d10_1 : decode prog_17_method_3_code 1 = .ok (.iload_n 3, 1) := by decide +kernel
theorem d10_2 : decode prog_17_method_3_code 2 = .ok (.if_icmp .ge 15, 3) := by decide +kernel
theorem d10_5 : decode prog_17_method_3_code 5 = .ok (.aload_n 1, 1) := by decide +kernel
theorem d10_6 : decode prog_17_method_3_code 6 = .ok (.iload_n 2, 1) := by decide +kernel
theorem d10_7 : decode prog_17_method_3_code 7 = .ok (.baload, 1) := by decide +kernel
theorem d10_8 : decode prog_17_method_3_code 8 = .ok (.bipush 45, 2) := by decide +kernel
theorem d10_10 : decode prog_17_method_3_code 10 = .ok (.if_icmp .ne 7, 3) := by decide +kernel
theorem d10_13 : decode prog_17_method_3_code 13 = .ok (.iconst 1, 1) := by decide +kernel
theorem d10_14 : decode prog_17_method_3_code 14 = .ok (.goto 4, 3) := by decide +kernel
theorem d10_17 : decode prog_17_method_3_code 17 = .ok (.iconst 0, 1) := by decide +kernel
theorem d10_18 : decode prog_17_method_3_code 18 = .ok (.istore 4, 2) := by decide +kernel
theorem d10_20 : decode prog_17_method_3_code 20 = .ok (.lconst 0, 1) := by decide +kernel
theorem d10_21 : decode prog_17_method_3_code 21 = .ok (.lstore 5, 2) := by decide +kernel
theorem d10_23 : decode prog_17_method_3_code 23 = .ok (.iconst 0, 1) := by decide +kernel
theorem d10_24 : decode prog_17_method_3_code 24 = .ok (.istore 7, 2) := by decide +kernel
theorem d10_26 : decode prog_17_method_3_code 26 = .ok (.iconst (-1), 1) := by decide +kernel
theorem d10_27 : decode prog_17_method_3_code 27 = .ok (.istore 8, 2) := by decide +kernel
theorem d10_29 : decode prog_17_method_3_code 29 = .ok (.iload 4, 2) := by decide +kernel
theorem d10_31 : decode prog_17_method_3_code 31 = .ok (.ifCond .eq 9, 3) := by decide +kernel
theorem d10_34 : decode prog_17_method_3_code 34 = .ok (.iload_n 2, 1) := by decide +kernel
theorem d10_35 : decode prog_17_method_3_code 35 = .ok (.iconst 1, 1) := by decide +kernel
theorem d10_36 : decode prog_17_method_3_code 36 = .ok (.iadd, 1) := by decide +kernel
theorem d10_37 : decode prog_17_method_3_code 37 = .ok (.goto 4, 3) := by decide +kernel
theorem d10_40 : decode prog_17_method_3_code 40 = .ok (.iload_n 2, 1) := by decide +kernel
theorem d10_41 : decode prog_17_method_3_code 41 = .ok (.istore 9, 2) := by decide +kernel
theorem d10_43 : decode prog_17_method_3_code 43 = .ok (.iload 9, 2) := by decide +kernel
theorem d10_45 : decode prog_17_method_3_code 45 = .ok (.iload_n 3, 1) := by decide +kernel
theorem d10_46 : decode prog_17_method_3_code 46 = .ok (.if_icmp .ge 71, 3) := by decide +kernel
theorem d10_49 : decode prog_17_method_3_code 49 = .ok (.aload_n 1, 1) := by decide +kernel
theorem d10_50 : decode prog_17_method_3_code 50 = .ok (.iload 9, 2) := by decide +kernel
theorem d10_52 : decode prog_17_method_3_code 52 = .ok (.baload, 1) := by decide +kernel
theorem d10_53 : decode prog_17_method_3_code 53 = .ok (.bipush 48, 2) := by decide +kernel
theorem d10_55 : decode prog_17_method_3_code 55 = .ok (.isub, 1) := by decide +kernel
theorem d10_56 : decode prog_17_method_3_code 56 = .ok (.istore 10, 2) := by decide +kernel
theorem d10_58 : decode prog_17_method_3_code 58 = .ok (.iload 10, 2) := by decide +kernel
theorem d10_60 : decode prog_17_method_3_code 60 = .ok (.ifCond .lt 28, 3) := by decide +kernel
theorem d10_63 : decode prog_17_method_3_code 63 = .ok (.iload 10, 2) := by decide +kernel
theorem d10_65 : decode prog_17_method_3_code 65 = .ok (.bipush 9, 2) := by decide +kernel
theorem d10_67 : decode prog_17_method_3_code 67 = .ok (.if_icmp .gt 21, 3) := by decide +kernel
theorem d10_70 : decode prog_17_method_3_code 70 = .ok (.lload 5, 2) := by decide +kernel
theorem d10_72 : decode prog_17_method_3_code 72 = .ok (.ldc2_w 15, 3) := by decide +kernel
theorem d10_75 : decode prog_17_method_3_code 75 = .ok (.lmul, 1) := by decide +kernel
theorem d10_76 : decode prog_17_method_3_code 76 = .ok (.iload 10, 2) := by decide +kernel
theorem d10_78 : decode prog_17_method_3_code 78 = .ok (.i2l, 1) := by decide +kernel
theorem d10_79 : decode prog_17_method_3_code 79 = .ok (.ladd, 1) := by decide +kernel
theorem d10_80 : decode prog_17_method_3_code 80 = .ok (.lstore 5, 2) := by decide +kernel
theorem d10_82 : decode prog_17_method_3_code 82 = .ok (.iinc 7 1, 3) := by decide +kernel
theorem d10_85 : decode prog_17_method_3_code 85 = .ok (.goto 26, 3) := by decide +kernel
theorem d10_88 : decode prog_17_method_3_code 88 = .ok (.aload_n 1, 1) := by decide +kernel
theorem d10_89 : decode prog_17_method_3_code 89 = .ok (.iload 9, 2) := by decide +kernel
theorem d10_91 : decode prog_17_method_3_code 91 = .ok (.baload, 1) := by decide +kernel
theorem d10_92 : decode prog_17_method_3_code 92 = .ok (.bipush 46, 2) := by decide +kernel
theorem d10_94 : decode prog_17_method_3_code 94 = .ok (.if_icmp .ne 23, 3) := by decide +kernel
theorem d10_97 : decode prog_17_method_3_code 97 = .ok (.iload 8, 2) := by decide +kernel
theorem d10_99 : decode prog_17_method_3_code 99 = .ok (.ifCond .ge 18, 3) := by decide +kernel
theorem d10_102 : decode prog_17_method_3_code 102 = .ok (.iload 7, 2) := by decide +kernel
theorem d10_104 : decode prog_17_method_3_code 104 = .ok (.ifCond .le 13, 3) := by decide +kernel
theorem d10_107 : decode prog_17_method_3_code 107 = .ok (.iload 9, 2) := by decide +kernel
theorem d10_109 : decode prog_17_method_3_code 109 = .ok (.istore 8, 2) := by decide +kernel
theorem d10_111 : decode prog_17_method_3_code 111 = .ok (.iinc 9 1, 3) := by decide +kernel
theorem d10_114 : decode prog_17_method_3_code 114 = .ok (.goto (-71), 3) := by decide +kernel
theorem d10_117 : decode prog_17_method_3_code 117 = .ok (.iload 7, 2) := by decide +kernel
theorem d10_119 : decode prog_17_method_3_code 119 = .ok (.ifCond .eq 21, 3) := by decide +kernel
theorem d10_122 : decode prog_17_method_3_code 122 = .ok (.iload 8, 2) := by decide +kernel
theorem d10_124 : decode prog_17_method_3_code 124 = .ok (.iload 9, 2) := by decide +kernel
theorem d10_126 : decode prog_17_method_3_code 126 = .ok (.iconst 1, 1) := by decide +kernel
theorem d10_127 : decode prog_17_method_3_code 127 = .ok (.isub, 1) := by decide +kernel
theorem d10_128 : decode prog_17_method_3_code 128 = .ok (.if_icmp .eq 12, 3) := by decide +kernel
theorem d10_131 : decode prog_17_method_3_code 131 = .ok (.iload 9, 2) := by decide +kernel
theorem d10_133 : decode prog_17_method_3_code 133 = .ok (.iload_n 2, 1) := by decide +kernel
theorem d10_134 : decode prog_17_method_3_code 134 = .ok (.isub, 1) := by decide +kernel
theorem d10_135 : decode prog_17_method_3_code 135 = .ok (.bipush 42, 2) := by decide +kernel
theorem d10_137 : decode prog_17_method_3_code 137 = .ok (.if_icmp .le 5, 3) := by decide +kernel
theorem d10_140 : decode prog_17_method_3_code 140 = .ok (.iconst (-1), 1) := by decide +kernel
theorem d10_141 : decode prog_17_method_3_code 141 = .ok (.ireturn, 1) := by decide +kernel
theorem d10_142 : decode prog_17_method_3_code 142 = .ok (.aload_n 0, 1) := by decide +kernel
theorem d10_143 : decode prog_17_method_3_code 143 = .ok (.iload 8, 2) := by decide +kernel
theorem d10_145 : decode prog_17_method_3_code 145 = .ok (.ifCond .ge 7, 3) := by decide +kernel
theorem d10_148 : decode prog_17_method_3_code 148 = .ok (.iconst 0, 1) := by decide +kernel
theorem d10_149 : decode prog_17_method_3_code 149 = .ok (.goto 10, 3) := by decide +kernel
theorem d10_152 : decode prog_17_method_3_code 152 = .ok (.iload 9, 2) := by decide +kernel
theorem d10_154 : decode prog_17_method_3_code 154 = .ok (.iload 8, 2) := by decide +kernel
theorem d10_156 : decode prog_17_method_3_code 156 = .ok (.isub, 1) := by decide +kernel
theorem d10_157 : decode prog_17_method_3_code 157 = .ok (.iconst 1, 1) := by decide +kernel
theorem d10_158 : decode prog_17_method_3_code 158 = .ok (.isub, 1) := by decide +kernel
theorem d10_159 : decode prog_17_method_3_code 159 = .ok (.putfield 17, 3) := by decide +kernel
theorem d10_162 : decode prog_17_method_3_code 162 = .ok (.aload_n 0, 1) := by decide +kernel
theorem d10_163 : decode prog_17_method_3_code 163 = .ok (.iload 4, 2) := by decide +kernel
theorem d10_165 : decode prog_17_method_3_code 165 = .ok (.ifCond .eq 9, 3) := by decide +kernel
theorem d10_168 : decode prog_17_method_3_code 168 = .ok (.lload 5, 2) := by decide +kernel
theorem d10_170 : decode prog_17_method_3_code 170 = .ok (.lneg, 1) := by decide +kernel
theorem d10_171 : decode prog_17_method_3_code 171 = .ok (.goto 5, 3) := by decide +kernel
theorem d10_174 : decode prog_17_method_3_code 174 = .ok (.lload 5, 2) := by decide +kernel
theorem d10_176 : decode prog_17_method_3_code 176 = .ok (.putfield 21, 3) := by decide +kernel
theorem d10_179 : decode prog_17_method_3_code 179 = .ok (.aload_n 0, 1) := by decide +kernel
theorem d10_180 : decode prog_17_method_3_code 180 = .ok (.iload 7, 2) := by decide +kernel
theorem d10_182 : decode prog_17_method_3_code 182 = .ok (.bipush 18, 2) := by decide +kernel
theorem d10_184 : decode prog_17_method_3_code 184 = .ok (.if_icmp .gt 7, 3) := by decide +kernel
theorem d10_187 : decode prog_17_method_3_code 187 = .ok (.aconst_null, 1) := by decide +kernel
theorem d10_188 : decode prog_17_method_3_code 188 = .ok (.goto 26, 3) := by decide +kernel
theorem d10_191 : decode prog_17_method_3_code 191 = .ok (.new 25, 3) := by decide +kernel
theorem d10_194 : decode prog_17_method_3_code 194 = .ok (.dup, 1) := by decide +kernel
theorem d10_195 : decode prog_17_method_3_code 195 = .ok (.new 27, 3) := by decide +kernel
theorem d10_198 : decode prog_17_method_3_code 198 = .ok (.dup, 1) := by decide +kernel
theorem d10_199 : decode prog_17_method_3_code 199 = .ok (.aload_n 1, 1) := by decide +kernel
theorem d10_200 : decode prog_17_method_3_code 200 = .ok (.iload_n 2, 1) := by decide +kernel
theorem d10_201 : decode prog_17_method_3_code 201 = .ok (.iload 9, 2) := by decide +kernel
theorem d10_203 : decode prog_17_method_3_code 203 = .ok (.iload_n 2, 1) := by decide +kernel
theorem d10_204 : decode prog_17_method_3_code 204 = .ok (.isub, 1) := by decide +kernel
theorem d10_205 : decode prog_17_method_3_code 205 = .ok (.getstatic 29, 3) := by decide +kernel
theorem d10_208 : decode prog_17_method_3_code 208 = .ok (.invokespecial 35, 3) := by decide +kernel
theorem d10_211 : decode prog_17_method_3_code 211 = .ok (.invokespecial 38, 3) := by decide +kernel
theorem d10_214 : decode prog_17_method_3_code 214 = .ok (.putfield 41, 3) := by decide +kernel
theorem d10_217 : decode prog_17_method_3_code 217 = .ok (.aload_n 0, 1) := by decide +kernel
theorem d10_218 : decode prog_17_method_3_code 218 = .ok (.getfield 41, 3) := by decide +kernel
theorem d10_221 : decode prog_17_method_3_code 221 = .ok (.ifnull 13, 3) := by decide +kernel
theorem d10_224 : decode prog_17_method_3_code 224 = .ok (.aload_n 0, 1) := by decide +kernel
theorem d10_225 : decode prog_17_method_3_code 225 = .ok (.getfield 41, 3) := by decide +kernel
theorem d10_228 : decode prog_17_method_3_code 228 = .ok (.invokestatic 45, 3) := by decide +kernel
theorem d10_231 : decode prog_17_method_3_code 231 = .ok (.ifCond .eq 8, 3) := by decide +kernel
theorem d10_234 : decode prog_17_method_3_code 234 = .ok (.iload 9, 2) := by decide +kernel
theorem d10_236 : decode prog_17_method_3_code 236 = .ok (.goto 4, 3) := by decide +kernel
theorem d10_239 : decode prog_17_method_3_code 239 = .ok (.iconst (-1), 1) := by decide +kernel
theorem d10_240 : decode prog_17_method_3_code 240 = .ok (.ireturn, 1) := by decide +kernel
theorem ef10 (m : MethodId) (r : Addr) (g : Addr) : entryFrame m #[(.ref r), (.ref g), (.int (0 : Int32)), (.int (1 : Int32))] 11 = mkF m 0 #[.val (.ref r), .val (.ref g), .val (.int (0 : Int32)), .val (.int (1 : Int32)), .unset, .unset, .unset, .unset, .unset, .unset, .unset] [] := by first | (simp [entryFrame, mkF, argsToLocals, Value.category]; done) | rfl
def rm10 : Room := { frames := 0, cells := 0, slots := 0, locals := 0 }
set_option maxRecDepth 65536 in
set_option maxHeartbeats 40000000 in
theorem cn10 (l : Launch) (Z : State) (a0 : Array Value) (hw : ∀ d ∈ tables_1, d.before a0 Z = true) (r : Addr) (g : Addr) (w : Int32) (w1 : Int32) (w2 : Int64) (h0 : Heap) (n0 : Nat) (hn : n0 ≤ h0.size) (E_r : Exa Z h0 r "com/example/stackwise/stackwise/input/Decimals$Reading") (F_r_wide : Fld Z h0 r "com/example/stackwise/stackwise/input/Decimals$Reading" "wide" "Ljava/math/BigDecimal;" .null) (F_r_scale : Fld Z h0 r "com/example/stackwise/stackwise/input/Decimals$Reading" "scale" "I" (.int w1)) (F_r_unscaled : Fld Z h0 r "com/example/stackwise/stackwise/input/Decimals$Reading" "unscaled" "J" (.long w2)) (V_g : Av Z h0 g .byte [(.int w)]) (g_r : n0 ≤ r) (ne_g_r : g ≠ r) (q0 : ¬ w = (45 : Int32)) (q1 : ¬ (w - (48 : Int32)) < (0 : Int32)) (q2 : ¬ (9 : Int32) < (w - (48 : Int32))) :
    Con l (⟨"com/example/stackwise/stackwise/input/Decimals$Reading", "readUpTo", "([BII)I"⟩ : MethodName) prog_17_method_3_code 11 (some .int) [] rm10 rm10.cells rm10.slots Z #[(.ref r), (.ref g), (.int (0 : Int32)), (.int (1 : Int32))] h0 n0 (fun v h => v = some (.int ((0 : Int32) + (1 : Int32))) ∧ Keep h0 h [r] ∧ Exa Z h r "com/example/stackwise/stackwise/input/Decimals$Reading" ∧ Fld Z h r "com/example/stackwise/stackwise/input/Decimals$Reading" "wide" "Ljava/math/BigDecimal;" .null ∧ Fld Z h r "com/example/stackwise/stackwise/input/Decimals$Reading" "scale" "I" (.int (0 : Int32)) ∧ Fld Z h r "com/example/stackwise/stackwise/input/Decimals$Reading" "unscaled" "J" (.long (((0 : Int64) * (10 : Int64)) + (w - (48 : Int32)).toInt64))) := by
  refine Con.of (plainFor_of_name pn0) hn (fun m => ef10 m r g) ?_
  intro p e s m below meth c s₀ hnm G0
  have K0 : Keep h0 h0 [r] := Keep.refl _ _
  have G1 := G0.iloadN (v := (0 : Int32)) (pc' := 1) d10_0 rfl
  have G2 := G1.iloadN (v := (1 : Int32)) (pc' := 2) d10_1 rfl
  have G3 := G2.icmpN d10_2 5 (Jvm.Free.XT.ii_ge_f (by decide))
  have G4 := G3.aloadN (v := (.ref g)) (pc' := 6) d10_5 rfl
  have G5 := G4.iloadN (v := (0 : Int32)) (pc' := 7) d10_6 rfl
  have G6 := G5.ldB (i := 0) (v := (.int w)) (pc' := 8) V_g (by decide) rfl d10_7
  have G7 := G6.bipush (v := (45 : Int32)) (pc' := 10) d10_8
  have G8 := G7.icmpY d10_10 17 (Jvm.Free.XT.ii_ne_t q0)
  have G9 := G8.iconst (v := (0 : Int32)) (pc' := 18) d10_17
  have G10 := G9.istore (L' := #[.val (.ref r), .val (.ref g), .val (.int (0 : Int32)), .val (.int (1 : Int32)), .val (.int (0 : Int32)), .unset, .unset, .unset, .unset, .unset, .unset]) (pc' := 20) d10_18 rfl
  have G11 := G10.lconst (v := (0 : Int64)) (pc' := 21) d10_20
  have G12 := G11.lstore (L' := #[.val (.ref r), .val (.ref g), .val (.int (0 : Int32)), .val (.int (1 : Int32)), .val (.int (0 : Int32)), .val (.long (0 : Int64)), .second, .unset, .unset, .unset, .unset]) (pc' := 23) d10_21 rfl
  have G13 := G12.iconst (v := (0 : Int32)) (pc' := 24) d10_23
  have G14 := G13.istore (L' := #[.val (.ref r), .val (.ref g), .val (.int (0 : Int32)), .val (.int (1 : Int32)), .val (.int (0 : Int32)), .val (.long (0 : Int64)), .second, .val (.int (0 : Int32)), .unset, .unset, .unset]) (pc' := 26) d10_24 rfl
  have G15 := G14.iconst (v := (-1 : Int32)) (pc' := 27) d10_26
  have G16 := G15.istore (L' := #[.val (.ref r), .val (.ref g), .val (.int (0 : Int32)), .val (.int (1 : Int32)), .val (.int (0 : Int32)), .val (.long (0 : Int64)), .second, .val (.int (0 : Int32)), .val (.int (-1 : Int32)), .unset, .unset]) (pc' := 29) d10_27 rfl
  have G17 := G16.iload (v := (0 : Int32)) (pc' := 31) d10_29 rfl
  have G18 := G17.ifY d10_31 40 (Jvm.Free.XT.i0_eq_t (by decide))
  have G19 := G18.iloadN (v := (0 : Int32)) (pc' := 41) d10_40 rfl
  have G20 := G19.istore (L' := #[.val (.ref r), .val (.ref g), .val (.int (0 : Int32)), .val (.int (1 : Int32)), .val (.int (0 : Int32)), .val (.long (0 : Int64)), .second, .val (.int (0 : Int32)), .val (.int (-1 : Int32)), .val (.int (0 : Int32)), .unset]) (pc' := 43) d10_41 rfl
  have G21 := G20.iload (v := (0 : Int32)) (pc' := 45) d10_43 rfl
  have G22 := G21.iloadN (v := (1 : Int32)) (pc' := 46) d10_45 rfl
  have G23 := G22.icmpN d10_46 49 (Jvm.Free.XT.ii_ge_f (by decide))
  have G24 := G23.aloadN (v := (.ref g)) (pc' := 50) d10_49 rfl
  have G25 := G24.iload (v := (0 : Int32)) (pc' := 52) d10_50 rfl
  have G26 := G25.ldB (i := 0) (v := (.int w)) (pc' := 53) V_g (by decide) rfl d10_52
  have G27 := G26.bipush (v := (48 : Int32)) (pc' := 55) d10_53
  have G28 := G27.isub (pc' := 56) d10_55
  have G29 := G28.istore (L' := #[.val (.ref r), .val (.ref g), .val (.int (0 : Int32)), .val (.int (1 : Int32)), .val (.int (0 : Int32)), .val (.long (0 : Int64)), .second, .val (.int (0 : Int32)), .val (.int (-1 : Int32)), .val (.int (0 : Int32)), .val (.int (w - (48 : Int32)))]) (pc' := 58) d10_56 rfl
  have G30 := G29.iload (v := (w - (48 : Int32))) (pc' := 60) d10_58 rfl
  have G31 := G30.ifN d10_60 63 (Jvm.Free.XT.i0_lt_f q1)
  have G32 := G31.iload (v := (w - (48 : Int32))) (pc' := 65) d10_63 rfl
  have G33 := G32.bipush (v := (9 : Int32)) (pc' := 67) d10_65
  have G34 := G33.icmpN d10_67 70 (Jvm.Free.XT.ii_gt_f q2)
  have G35 := G34.lload (v := (0 : Int64)) (pc' := 72) d10_70 rfl
  have G36 := G35.ldc2 (v := (10 : Int64)) (pc' := 75) (hw _ (List.mem_of_getElem? (i := 62) rfl)) d10_72
  have G37 := G36.lmul (pc' := 76) d10_75
  have G38 := G37.iload (v := (w - (48 : Int32))) (pc' := 78) d10_76 rfl
  have G39 := G38.i2l (pc' := 79) d10_78
  have G40 := G39.ladd (pc' := 80) d10_79
  have G41 := G40.lstore (L' := #[.val (.ref r), .val (.ref g), .val (.int (0 : Int32)), .val (.int (1 : Int32)), .val (.int (0 : Int32)), .val (.long (((0 : Int64) * (10 : Int64)) + (w - (48 : Int32)).toInt64)), .second, .val (.int (0 : Int32)), .val (.int (-1 : Int32)), .val (.int (0 : Int32)), .val (.int (w - (48 : Int32)))]) (pc' := 82) d10_80 rfl
  have G42 := G41.iinc (v := (1 : Int32)) (x := (0 : Int32)) (L' := #[.val (.ref r), .val (.ref g), .val (.int (0 : Int32)), .val (.int (1 : Int32)), .val (.int (0 : Int32)), .val (.long (((0 : Int64) * (10 : Int64)) + (w - (48 : Int32)).toInt64)), .second, .val (.int ((0 : Int32) + (1 : Int32))), .val (.int (-1 : Int32)), .val (.int (0 : Int32)), .val (.int (w - (48 : Int32)))]) (pc' := 85) d10_82 rfl rfl
  have G43 := G42.goto d10_85 111
  have G44 := G43.iinc (v := (1 : Int32)) (x := (0 : Int32)) (L' := #[.val (.ref r), .val (.ref g), .val (.int (0 : Int32)), .val (.int (1 : Int32)), .val (.int (0 : Int32)), .val (.long (((0 : Int64) * (10 : Int64)) + (w - (48 : Int32)).toInt64)), .second, .val (.int ((0 : Int32) + (1 : Int32))), .val (.int (-1 : Int32)), .val (.int ((0 : Int32) + (1 : Int32))), .val (.int (w - (48 : Int32)))]) (pc' := 114) d10_111 rfl rfl
  have G45 := G44.goto d10_114 43
  have G46 := G45.iload (v := ((0 : Int32) + (1 : Int32))) (pc' := 45) d10_43 rfl
  have G47 := G46.iloadN (v := (1 : Int32)) (pc' := 46) d10_45 rfl
  have G48 := G47.icmpY d10_46 117 (Jvm.Free.XT.ii_ge_t (by decide))
  have G49 := G48.iload (v := ((0 : Int32) + (1 : Int32))) (pc' := 119) d10_117 rfl
  have G50 := G49.ifN d10_119 122 (Jvm.Free.XT.i0_eq_f (by decide))
  have G51 := G50.iload (v := (-1 : Int32)) (pc' := 124) d10_122 rfl
  have G52 := G51.iload (v := ((0 : Int32) + (1 : Int32))) (pc' := 126) d10_124 rfl
  have G53 := G52.iconst (v := (1 : Int32)) (pc' := 127) d10_126
  have G54 := G53.isub (pc' := 128) d10_127
  have G55 := G54.icmpN d10_128 131 (Jvm.Free.XT.ii_eq_f (by decide))
  have G56 := G55.iload (v := ((0 : Int32) + (1 : Int32))) (pc' := 133) d10_131 rfl
  have G57 := G56.iloadN (v := (0 : Int32)) (pc' := 134) d10_133 rfl
  have G58 := G57.isub (pc' := 135) d10_134
  have G59 := G58.bipush (v := (42 : Int32)) (pc' := 137) d10_135
  have G60 := G59.icmpY d10_137 142 (Jvm.Free.XT.ii_le_t (by decide))
  have G61 := G60.aloadN (v := (.ref r)) (pc' := 143) d10_142 rfl
  have G62 := G61.iload (v := (-1 : Int32)) (pc' := 145) d10_143 rfl
  have G63 := G62.ifN d10_145 148 (Jvm.Free.XT.i0_ge_f (by decide))
  have G64 := G63.iconst (v := (0 : Int32)) (pc' := 149) d10_148
  have G65 := G64.goto d10_149 159
  obtain ⟨h66, W66, G66⟩ := G65.putF (v := (.int (0 : Int32))) (pc' := 162) (host := "") (Or.inl (hw _ (List.mem_of_getElem? (i := 63) rfl))) Via.refl F_r_scale E_r g_r (Or.inl (hw _ (List.mem_of_getElem? (i := 64) rfl))) (hw _ (List.mem_of_getElem? (i := 18) rfl)) (ty := .int) (by decide) rfl rfl d10_159
  have E67 : Exa Z h66 r "com/example/stackwise/stackwise/input/Decimals$Reading" := E_r.wr W66
  have F68 : Fld Z h66 r "com/example/stackwise/stackwise/input/Decimals$Reading" "wide" "Ljava/math/BigDecimal;" .null := F_r_wide.other W66 (Or.inr (slot_ne (Or.inl (hw _ (List.mem_of_getElem? (i := 68) rfl))) (Or.inl (hw _ (List.mem_of_getElem? (i := 64) rfl))) (by decide) (t := (.object "java/math/BigDecimal")) (t' := .int) (by decide) (by decide)))
  have F69 : Fld Z h66 r "com/example/stackwise/stackwise/input/Decimals$Reading" "scale" "I" (.int (0 : Int32)) := F_r_scale.same W66
  have F70 : Fld Z h66 r "com/example/stackwise/stackwise/input/Decimals$Reading" "unscaled" "J" (.long w2) := F_r_unscaled.other W66 (Or.inr (slot_ne (Or.inl (hw _ (List.mem_of_getElem? (i := 66) rfl))) (Or.inl (hw _ (List.mem_of_getElem? (i := 64) rfl))) (by decide) (t := .long) (t' := .int) (by decide) (by decide)))
  have V71 : Av Z h66 g .byte [(.int w)] := V_g.other W66 ne_g_r
  have K72 : Keep h0 h66 [r] := K0.wr W66 (Or.inl (List.mem_of_getElem? (i := 0) rfl))
  have G73 := G66.aloadN (v := (.ref r)) (pc' := 163) d10_162 rfl
  have G74 := G73.iload (v := (0 : Int32)) (pc' := 165) d10_163 rfl
  have G75 := G74.ifY d10_165 174 (Jvm.Free.XT.i0_eq_t (by decide))
  have G76 := G75.lload (v := (((0 : Int64) * (10 : Int64)) + (w - (48 : Int32)).toInt64)) (pc' := 176) d10_174 rfl
  obtain ⟨h77, W77, G77⟩ := G76.putF (v := (.long (((0 : Int64) * (10 : Int64)) + (w - (48 : Int32)).toInt64))) (pc' := 179) (host := "") (Or.inl (hw _ (List.mem_of_getElem? (i := 65) rfl))) Via.refl F70 E67 g_r (Or.inl (hw _ (List.mem_of_getElem? (i := 66) rfl))) (hw _ (List.mem_of_getElem? (i := 18) rfl)) (ty := .long) (by decide) rfl rfl d10_176
  have E78 : Exa Z h77 r "com/example/stackwise/stackwise/input/Decimals$Reading" := E67.wr W77
  have F79 : Fld Z h77 r "com/example/stackwise/stackwise/input/Decimals$Reading" "wide" "Ljava/math/BigDecimal;" .null := F68.other W77 (Or.inr (slot_ne (Or.inl (hw _ (List.mem_of_getElem? (i := 68) rfl))) (Or.inl (hw _ (List.mem_of_getElem? (i := 66) rfl))) (by decide) (t := (.object "java/math/BigDecimal")) (t' := .long) (by decide) (by decide)))
  have F80 : Fld Z h77 r "com/example/stackwise/stackwise/input/Decimals$Reading" "scale" "I" (.int (0 : Int32)) := F69.other W77 (Or.inr (slot_ne (Or.inl (hw _ (List.mem_of_getElem? (i := 64) rfl))) (Or.inl (hw _ (List.mem_of_getElem? (i := 66) rfl))) (by decide) (t := .int) (t' := .long) (by decide) (by decide)))
  have F81 : Fld Z h77 r "com/example/stackwise/stackwise/input/Decimals$Reading" "unscaled" "J" (.long (((0 : Int64) * (10 : Int64)) + (w - (48 : Int32)).toInt64)) := F70.same W77
  have V82 : Av Z h77 g .byte [(.int w)] := V71.other W77 ne_g_r
  have K83 : Keep h0 h77 [r] := K72.wr W77 (Or.inl (List.mem_of_getElem? (i := 0) rfl))
  have G84 := G77.aloadN (v := (.ref r)) (pc' := 180) d10_179 rfl
  have G85 := G84.iload (v := ((0 : Int32) + (1 : Int32))) (pc' := 182) d10_180 rfl
  have G86 := G85.bipush (v := (18 : Int32)) (pc' := 184) d10_182
  have G87 := G86.icmpN d10_184 187 (Jvm.Free.XT.ii_gt_f (by decide))
  have G88 := G87.aconstNull (pc' := 188) d10_187
  have G89 := G88.goto d10_188 214
  obtain ⟨h90, W90, G90⟩ := G89.putF (v := .null) (pc' := 217) (host := "") (Or.inl (hw _ (List.mem_of_getElem? (i := 67) rfl))) Via.refl F79 E78 g_r (Or.inl (hw _ (List.mem_of_getElem? (i := 68) rfl))) (hw _ (List.mem_of_getElem? (i := 18) rfl)) (ty := (.object "java/math/BigDecimal")) (by decide) rfl rfl d10_214
  have E91 : Exa Z h90 r "com/example/stackwise/stackwise/input/Decimals$Reading" := E78.wr W90
  have F92 : Fld Z h90 r "com/example/stackwise/stackwise/input/Decimals$Reading" "wide" "Ljava/math/BigDecimal;" .null := F79.same W90
  have F93 : Fld Z h90 r "com/example/stackwise/stackwise/input/Decimals$Reading" "scale" "I" (.int (0 : Int32)) := F80.other W90 (Or.inr (slot_ne (Or.inl (hw _ (List.mem_of_getElem? (i := 64) rfl))) (Or.inl (hw _ (List.mem_of_getElem? (i := 68) rfl))) (by decide) (t := .int) (t' := (.object "java/math/BigDecimal")) (by decide) (by decide)))
  have F94 : Fld Z h90 r "com/example/stackwise/stackwise/input/Decimals$Reading" "unscaled" "J" (.long (((0 : Int64) * (10 : Int64)) + (w - (48 : Int32)).toInt64)) := F81.other W90 (Or.inr (slot_ne (Or.inl (hw _ (List.mem_of_getElem? (i := 66) rfl))) (Or.inl (hw _ (List.mem_of_getElem? (i := 68) rfl))) (by decide) (t := .long) (t' := (.object "java/math/BigDecimal")) (by decide) (by decide)))
  have V95 : Av Z h90 g .byte [(.int w)] := V82.other W90 ne_g_r
  have K96 : Keep h0 h90 [r] := K83.wr W90 (Or.inl (List.mem_of_getElem? (i := 0) rfl))
  have G97 := G90.aloadN (v := (.ref r)) (pc' := 218) d10_217 rfl
  have G98 := G97.getF (pc' := 221) (v := .null) (host := "") (Or.inl (hw _ (List.mem_of_getElem? (i := 67) rfl))) Via.refl F92 d10_218
  have G99 := G98.ifnullY d10_221 234
  have G100 := G99.iload (v := ((0 : Int32) + (1 : Int32))) (pc' := 236) d10_234 rfl
  have G101 := G100.goto d10_236 240
  exact G101.retI d10_240 rfl ⟨rfl, K96, E91, F92, F93, F94⟩
theorem d9_0 : decode prog_17_method_2_code 0 = .ok (.aload_n 0, 1) := by decide +kernel
theorem d9_1 : decode prog_17_method_2_code 1 = .ok (.aload_n 1, 1) := by decide +kernel
theorem d9_2 : decode prog_17_method_2_code 2 = .ok (.iload_n 2, 1) := by decide +kernel
theorem d9_3 : decode prog_17_method_2_code 3 = .ok (.iload_n 3, 1) := by decide +kernel
theorem d9_4 : decode prog_17_method_2_code 4 = .ok (.invokevirtual 9, 3) := by decide +kernel
theorem d9_7 : decode prog_17_method_2_code 7 = .ok (.iload_n 3, 1) := by decide +kernel
theorem d9_8 : decode prog_17_method_2_code 8 = .ok (.if_icmp .ne 7, 3) := by decide +kernel
theorem d9_11 : decode prog_17_method_2_code 11 = .ok (.iconst 1, 1) := by decide +kernel
theorem d9_12 : decode prog_17_method_2_code 12 = .ok (.goto 4, 3) := by decide +kernel
theorem d9_15 : decode prog_17_method_2_code 15 = .ok (.iconst 0, 1) := by decide +kernel
theorem d9_16 : decode prog_17_method_2_code 16 = .ok (.ireturn, 1) := by decide +kernel
theorem ef9 (m : MethodId) (r : Addr) (g : Addr) : entryFrame m #[(.ref r), (.ref g), (.int (0 : Int32)), (.int (1 : Int32))] 4 = mkF m 0 #[.val (.ref r), .val (.ref g), .val (.int (0 : Int32)), .val (.int (1 : Int32))] [] := by first | (simp [entryFrame, mkF, argsToLocals, Value.category]; done) | rfl
theorem pd4 : parseMethodDescriptor "([BII)I" = some ⟨[(.array .byte), .int, .int], some .int⟩ := by decide +kernel
def rm9 : Room := { frames := 1, cells := 0, slots := 0, locals := 22 }
set_option maxRecDepth 65536 in
set_option maxHeartbeats 40000000 in
theorem cn9 (l : Launch) (Z : State) (a0 : Array Value) (hw : ∀ d ∈ tables_1, d.before a0 Z = true) (r : Addr) (g : Addr) (w : Int32) (w1 : Int32) (w2 : Int64) (h0 : Heap) (n0 : Nat) (hn : n0 ≤ h0.size) (E_r : Exa Z h0 r "com/example/stackwise/stackwise/input/Decimals$Reading") (F_r_wide : Fld Z h0 r "com/example/stackwise/stackwise/input/Decimals$Reading" "wide" "Ljava/math/BigDecimal;" .null) (F_r_scale : Fld Z h0 r "com/example/stackwise/stackwise/input/Decimals$Reading" "scale" "I" (.int w1)) (F_r_unscaled : Fld Z h0 r "com/example/stackwise/stackwise/input/Decimals$Reading" "unscaled" "J" (.long w2)) (V_g : Av Z h0 g .byte [(.int w)]) (g_r : n0 ≤ r) (ne_g_r : g ≠ r) (q0 : ¬ w = (45 : Int32)) (q1 : ¬ (w - (48 : Int32)) < (0 : Int32)) (q2 : ¬ (9 : Int32) < (w - (48 : Int32))) :
    Con l (⟨"com/example/stackwise/stackwise/input/Decimals$Reading", "read", "([BII)Z"⟩ : MethodName) prog_17_method_2_code 4 (some .boolean) [] rm9 rm9.cells rm9.slots Z #[(.ref r), (.ref g), (.int (0 : Int32)), (.int (1 : Int32))] h0 n0 (fun v h => v = some (.int (1 : Int32)) ∧ Keep h0 h [r] ∧ Exa Z h r "com/example/stackwise/stackwise/input/Decimals$Reading" ∧ Fld Z h r "com/example/stackwise/stackwise/input/Decimals$Reading" "wide" "Ljava/math/BigDecimal;" .null ∧ Fld Z h r "com/example/stackwise/stackwise/input/Decimals$Reading" "scale" "I" (.int (0 : Int32)) ∧ Fld Z h r "com/example/stackwise/stackwise/input/Decimals$Reading" "unscaled" "J" (.long (((0 : Int64) * (10 : Int64)) + (w - (48 : Int32)).toInt64))) := by
  refine Con.of (plainFor_of_name pn0) hn (fun m => ef9 m r g) ?_
  intro p e s m below meth c s₀ hnm G0
  have K0 : Keep h0 h0 [r] := Keep.refl _ _
  have G1 := G0.aloadN (v := (.ref r)) (pc' := 1) d9_0 rfl
  have G2 := G1.aloadN (v := (.ref g)) (pc' := 2) d9_1 rfl
  have G3 := G2.iloadN (v := (0 : Int32)) (pc' := 3) d9_2 rfl
  have G4 := G3.iloadN (v := (1 : Int32)) (pc' := 4) d9_3 rfl
  obtain ⟨v5, h5, ⟨ev5, K5, F5_0, F5_1, F5_2, F5_3⟩, g5⟩ := G4.callV (argsL := [(.ref g), (.int (0 : Int32)), (.int (1 : Int32))]) (rest := []) (pc' := 7) (k' := 0) (j' := 0) (cn10 l Z a0 hw r g w w1 w2 h0 n0 G4.size E_r F_r_wide F_r_scale F_r_unscaled V_g g_r ne_g_r q0 q1 q2) rfl E_r (hw _ (List.mem_of_getElem? (i := 57) rfl)) (hw _ (List.mem_of_getElem? (i := 58) rfl)) (hw _ (List.mem_of_getElem? (i := 60) rfl)) (hw _ (List.mem_of_getElem? (i := 59) rfl)) (hw _ (List.mem_of_getElem? (i := 19) rfl)) (hw _ (List.mem_of_getElem? (i := 61) rfl)) (by decide) d9_4 pd4 rfl (W := 0) rfl rfl (by decide) (by decide) (by decide) (by decide) rfl rfl rfl
  subst ev5
  have G5 := g5 [(.int ((0 : Int32) + (1 : Int32)))] rfl
  have E6 : Exa Z h5 r "com/example/stackwise/stackwise/input/Decimals$Reading" := E_r.keep K5
  have V7 : Av Z h5 g .byte [(.int w)] := V_g.keep K5 (ninS ne_g_r nin0)
  have K8 : Keep h0 h5 [r] := K0.trans K5 (allS (Or.inl (List.mem_of_getElem? (i := 0) rfl)) all0)
  have G9 := G5.iloadN (v := (1 : Int32)) (pc' := 8) d9_7 rfl
  have G10 := G9.icmpN d9_8 11 (Jvm.Free.XT.ii_ne_f (by decide))
  have G11 := G10.iconst (v := (1 : Int32)) (pc' := 12) d9_11
  have G12 := G11.goto d9_12 16
  exact G12.retZ d9_16 rfl (by decide) ⟨rfl, K8, F5_0, F5_1, F5_2, F5_3⟩
theorem d7_0 : decode prog_15_method_5_code 0 = .ok (.aload_n 0, 1) := by decide +kernel
theorem d7_1 : decode prog_15_method_5_code 1 = .ok (.getfield 61, 3) := by decide +kernel
theorem d7_4 : decode prog_15_method_5_code 4 = .ok (.ireturn, 1) := by decide +kernel
theorem ef7 (m : MethodId) (b : Addr) : entryFrame m #[(.ref b)] 1 = mkF m 0 #[.val (.ref b)] [] := by first | (simp [entryFrame, mkF, argsToLocals, Value.category]; done) | rfl
def rm7 : Room := { frames := 0, cells := 0, slots := 0, locals := 0 }
set_option maxRecDepth 65536 in
set_option maxHeartbeats 40000000 in
theorem cn7 (l : Launch) (Z : State) (a0 : Array Value) (hw : ∀ d ∈ tables_1, d.before a0 Z = true) (b : Addr) (w0 : Int32) (h0 : Heap) (n0 : Nat) (hn : n0 ≤ h0.size) (F_b_size : Fld Z h0 b "com/example/stackwise/stackwise/input/DecimalColumn$Builder" "size" "I" (.int w0)) :
    Con l (⟨"com/example/stackwise/stackwise/input/DecimalColumn$Builder", "size", "()I"⟩ : MethodName) prog_15_method_5_code 1 (some .int) [] rm7 rm7.cells rm7.slots Z #[(.ref b)] h0 n0 (fun v h => v = some (.int w0) ∧ Keep h0 h []) := by
  refine Con.of (plainFor_of_name pn1) hn (fun m => ef7 m b) ?_
  intro p e s m below meth c s₀ hnm G0
  have K0 : Keep h0 h0 [] := Keep.refl _ _
  have G1 := G0.aloadN (v := (.ref b)) (pc' := 1) d7_0 rfl
  have G2 := G1.getF (pc' := 4) (v := (.int w0)) (host := "") (Or.inl (hw _ (List.mem_of_getElem? (i := 45) rfl))) Via.refl F_b_size d7_1
  exact G2.retI d7_4 rfl ⟨rfl, K0⟩
theorem own_sz (z : Int32) (k : Nat) (h : z.toInt = (k : Int)) (hk : k ≤ 3) : z < (8784 : Int32) := by
  have e : (8784 : Int32).toInt = 8784 := rfl
  rw [Int32.lt_iff_toInt_lt, h, e]; omega
theorem d8_0 : decode prog_15_method_2_code 0 = .ok (.aload_n 0, 1) := by decide +kernel
theorem d8_1 : decode prog_15_method_2_code 1 = .ok (.getfield 10, 3) := by decide +kernel
theorem d8_4 : decode prog_15_method_2_code 4 = .ok (.aload_n 1, 1) := by decide +kernel
theorem d8_5 : decode prog_15_method_2_code 5 = .ok (.iload_n 2, 1) := by decide +kernel
theorem d8_6 : decode prog_15_method_2_code 6 = .ok (.iload_n 3, 1) := by decide +kernel
theorem d8_7 : decode prog_15_method_2_code 7 = .ok (.invokevirtual 26, 3) := by decide +kernel
theorem d8_10 : decode prog_15_method_2_code 10 = .ok (.ifCond .ne 31, 3) := by decide +kernel
theorem d8_13 : decode prog_15_method_2_code 13 = .ok (.new 30, 3) := by decide +kernel
theorem d8_16 : decode prog_15_method_2_code 16 = .ok (.dup, 1) := by decide +kernel
theorem d8_17 : decode prog_15_method_2_code 17 = .ok (.new 32, 3) := by decide +kernel
theorem d8_20 : decode prog_15_method_2_code 20 = .ok (.dup, 1) := by decide +kernel
theorem d8_21 : decode prog_15_method_2_code 21 = .ok (.aload_n 1, 1) := by decide +kernel
theorem d8_22 : decode prog_15_method_2_code 22 = .ok (.iload_n 2, 1) := by decide +kernel
theorem d8_23 : decode prog_15_method_2_code 23 = .ok (.iload_n 3, 1) := by decide +kernel
theorem d8_24 : decode prog_15_method_2_code 24 = .ok (.iload_n 2, 1) := by decide +kernel
theorem d8_25 : decode prog_15_method_2_code 25 = .ok (.isub, 1) := by decide +kernel
theorem d8_26 : decode prog_15_method_2_code 26 = .ok (.getstatic 34, 3) := by decide +kernel
theorem d8_29 : decode prog_15_method_2_code 29 = .ok (.invokespecial 40, 3) := by decide +kernel
theorem d8_32 : decode prog_15_method_2_code 32 = .ok (.invokedynamic 43, 5) := by decide +kernel
theorem d8_37 : decode prog_15_method_2_code 37 = .ok (.invokespecial 47, 3) := by decide +kernel
theorem d8_40 : decode prog_15_method_2_code 40 = .ok (.athrow, 1) := by decide +kernel
theorem d8_41 : decode prog_15_method_2_code 41 = .ok (.aload_n 0, 1) := by decide +kernel
theorem d8_42 : decode prog_15_method_2_code 42 = .ok (.getfield 22, 3) := by decide +kernel
theorem d8_45 : decode prog_15_method_2_code 45 = .ok (.ifnull 70, 3) := by decide +kernel
theorem d8_48 : decode prog_15_method_2_code 48 = .ok (.aload_n 0, 1) := by decide +kernel
theorem d8_49 : decode prog_15_method_2_code 49 = .ok (.getfield 10, 3) := by decide +kernel
theorem d8_52 : decode prog_15_method_2_code 52 = .ok (.invokevirtual 50, 3) := by decide +kernel
theorem d8_55 : decode prog_15_method_2_code 55 = .ok (.ifCond .eq 60, 3) := by decide +kernel
theorem d8_58 : decode prog_15_method_2_code 58 = .ok (.aload_n 0, 1) := by decide +kernel
theorem d8_59 : decode prog_15_method_2_code 59 = .ok (.getfield 10, 3) := by decide +kernel
theorem d8_62 : decode prog_15_method_2_code 62 = .ok (.invokevirtual 54, 3) := by decide +kernel
theorem d8_65 : decode prog_15_method_2_code 65 = .ok (.aload_n 0, 1) := by decide +kernel
theorem d8_66 : decode prog_15_method_2_code 66 = .ok (.getfield 58, 3) := by decide +kernel
theorem d8_69 : decode prog_15_method_2_code 69 = .ok (.if_icmp .ne 46, 3) := by decide +kernel
theorem d8_72 : decode prog_15_method_2_code 72 = .ok (.aload_n 0, 1) := by decide +kernel
theorem d8_73 : decode prog_15_method_2_code 73 = .ok (.getfield 61, 3) := by decide +kernel
theorem d8_76 : decode prog_15_method_2_code 76 = .ok (.aload_n 0, 1) := by decide +kernel
theorem d8_77 : decode prog_15_method_2_code 77 = .ok (.getfield 22, 3) := by decide +kernel
theorem d8_80 : decode prog_15_method_2_code 80 = .ok (.arraylength, 1) := by decide +kernel
theorem d8_81 : decode prog_15_method_2_code 81 = .ok (.if_icmp .ge 34, 3) := by decide +kernel
theorem d8_84 : decode prog_15_method_2_code 84 = .ok (.aload_n 0, 1) := by decide +kernel
theorem d8_85 : decode prog_15_method_2_code 85 = .ok (.getfield 22, 3) := by decide +kernel
theorem d8_88 : decode prog_15_method_2_code 88 = .ok (.aload_n 0, 1) := by decide +kernel
theorem d8_89 : decode prog_15_method_2_code 89 = .ok (.dup, 1) := by decide +kernel
theorem d8_90 : decode prog_15_method_2_code 90 = .ok (.getfield 61, 3) := by decide +kernel
theorem d8_93 : decode prog_15_method_2_code 93 = .ok (.dup_x1, 1) := by decide +kernel
theorem d8_94 : decode prog_15_method_2_code 94 = .ok (.iconst 1, 1) := by decide +kernel
theorem d8_95 : decode prog_15_method_2_code 95 = .ok (.iadd, 1) := by decide +kernel
theorem d8_96 : decode prog_15_method_2_code 96 = .ok (.putfield 61, 3) := by decide +kernel
theorem d8_99 : decode prog_15_method_2_code 99 = .ok (.aload_n 0, 1) := by decide +kernel
theorem d8_100 : decode prog_15_method_2_code 100 = .ok (.getfield 10, 3) := by decide +kernel
theorem d8_103 : decode prog_15_method_2_code 103 = .ok (.invokevirtual 64, 3) := by decide +kernel
theorem d8_106 : decode prog_15_method_2_code 106 = .ok (.lastore, 1) := by decide +kernel
theorem d8_107 : decode prog_15_method_2_code 107 = .ok (.aload_n 0, 1) := by decide +kernel
theorem d8_108 : decode prog_15_method_2_code 108 = .ok (.getfield 10, 3) := by decide +kernel
theorem d8_111 : decode prog_15_method_2_code 111 = .ok (.invokevirtual 67, 3) := by decide +kernel
theorem d8_114 : decode prog_15_method_2_code 114 = .ok (.ireturn, 1) := by decide +kernel
theorem d8_115 : decode prog_15_method_2_code 115 = .ok (.aload_n 0, 1) := by decide +kernel
theorem d8_116 : decode prog_15_method_2_code 116 = .ok (.getfield 22, 3) := by decide +kernel
theorem d8_119 : decode prog_15_method_2_code 119 = .ok (.ifnull 38, 3) := by decide +kernel
theorem d8_122 : decode prog_15_method_2_code 122 = .ok (.aload_n 0, 1) := by decide +kernel
theorem d8_123 : decode prog_15_method_2_code 123 = .ok (.getfield 10, 3) := by decide +kernel
theorem d8_126 : decode prog_15_method_2_code 126 = .ok (.invokevirtual 50, 3) := by decide +kernel
theorem d8_129 : decode prog_15_method_2_code 129 = .ok (.ifCond .eq 24, 3) := by decide +kernel
theorem d8_132 : decode prog_15_method_2_code 132 = .ok (.aload_n 0, 1) := by decide +kernel
theorem d8_133 : decode prog_15_method_2_code 133 = .ok (.aload_n 0, 1) := by decide +kernel
theorem d8_134 : decode prog_15_method_2_code 134 = .ok (.getfield 10, 3) := by decide +kernel
theorem d8_137 : decode prog_15_method_2_code 137 = .ok (.invokevirtual 54, 3) := by decide +kernel
theorem d8_140 : decode prog_15_method_2_code 140 = .ok (.invokevirtual 70, 3) := by decide +kernel
theorem d8_143 : decode prog_15_method_2_code 143 = .ok (.ifCond .eq 10, 3) := by decide +kernel
theorem d8_146 : decode prog_15_method_2_code 146 = .ok (.aload_n 0, 1) := by decide +kernel
theorem d8_147 : decode prog_15_method_2_code 147 = .ok (.invokevirtual 74, 3) := by decide +kernel
theorem d8_150 : decode prog_15_method_2_code 150 = .ok (.ifCond .ne 7, 3) := by decide +kernel
theorem d8_153 : decode prog_15_method_2_code 153 = .ok (.aload_n 0, 1) := by decide +kernel
theorem d8_154 : decode prog_15_method_2_code 154 = .ok (.invokevirtual 77, 3) := by decide +kernel
theorem d8_157 : decode prog_15_method_2_code 157 = .ok (.aload_n 0, 1) := by decide +kernel
theorem d8_158 : decode prog_15_method_2_code 158 = .ok (.getfield 22, 3) := by decide +kernel
theorem d8_161 : decode prog_15_method_2_code 161 = .ok (.ifnonnull 58, 3) := by decide +kernel
theorem d8_164 : decode prog_15_method_2_code 164 = .ok (.aload_n 0, 1) := by decide +kernel
theorem d8_165 : decode prog_15_method_2_code 165 = .ok (.getfield 61, 3) := by decide +kernel
theorem d8_168 : decode prog_15_method_2_code 168 = .ok (.aload_n 0, 1) := by decide +kernel
theorem d8_169 : decode prog_15_method_2_code 169 = .ok (.getfield 80, 3) := by decide +kernel
theorem d8_172 : decode prog_15_method_2_code 172 = .ok (.arraylength, 1) := by decide +kernel
theorem d8_173 : decode prog_15_method_2_code 173 = .ok (.if_icmp .ne 23, 3) := by decide +kernel
theorem d8_176 : decode prog_15_method_2_code 176 = .ok (.aload_n 0, 1) := by decide +kernel
theorem d8_177 : decode prog_15_method_2_code 177 = .ok (.aload_n 0, 1) := by decide +kernel
theorem d8_178 : decode prog_15_method_2_code 178 = .ok (.getfield 80, 3) := by decide +kernel
theorem d8_181 : decode prog_15_method_2_code 181 = .ok (.iconst 2, 1) := by decide +kernel
theorem d8_182 : decode prog_15_method_2_code 182 = .ok (.aload_n 0, 1) := by decide +kernel
theorem d8_183 : decode prog_15_method_2_code 183 = .ok (.getfield 61, 3) := by decide +kernel
theorem d8_186 : decode prog_15_method_2_code 186 = .ok (.imul, 1) := by decide +kernel
theorem d8_187 : decode prog_15_method_2_code 187 = .ok (.invokestatic 84, 3) := by decide +kernel
theorem d8_190 : decode prog_15_method_2_code 190 = .ok (.checkcast 90, 3) := by decide +kernel
theorem d8_193 : decode prog_15_method_2_code 193 = .ok (.putfield 80, 3) := by decide +kernel
theorem d8_196 : decode prog_15_method_2_code 196 = .ok (.aload_n 0, 1) := by decide +kernel
theorem d8_197 : decode prog_15_method_2_code 197 = .ok (.getfield 80, 3) := by decide +kernel
theorem d8_200 : decode prog_15_method_2_code 200 = .ok (.aload_n 0, 1) := by decide +kernel
theorem d8_201 : decode prog_15_method_2_code 201 = .ok (.dup, 1) := by decide +kernel
theorem d8_202 : decode prog_15_method_2_code 202 = .ok (.getfield 61, 3) := by decide +kernel
theorem d8_205 : decode prog_15_method_2_code 205 = .ok (.dup_x1, 1) := by decide +kernel
theorem d8_206 : decode prog_15_method_2_code 206 = .ok (.iconst 1, 1) := by decide +kernel
theorem d8_207 : decode prog_15_method_2_code 207 = .ok (.iadd, 1) := by decide +kernel
theorem d8_208 : decode prog_15_method_2_code 208 = .ok (.putfield 61, 3) := by decide +kernel
theorem d8_211 : decode prog_15_method_2_code 211 = .ok (.aload_n 0, 1) := by decide +kernel
theorem d8_212 : decode prog_15_method_2_code 212 = .ok (.getfield 10, 3) := by decide +kernel
theorem d8_215 : decode prog_15_method_2_code 215 = .ok (.invokevirtual 91, 3) := by decide +kernel
theorem d8_218 : decode prog_15_method_2_code 218 = .ok (.aastore, 1) := by decide +kernel
theorem d8_219 : decode prog_15_method_2_code 219 = .ok (.aload_n 0, 1) := by decide +kernel
theorem d8_220 : decode prog_15_method_2_code 220 = .ok (.getfield 10, 3) := by decide +kernel
theorem d8_223 : decode prog_15_method_2_code 223 = .ok (.invokevirtual 67, 3) := by decide +kernel
theorem d8_226 : decode prog_15_method_2_code 226 = .ok (.ireturn, 1) := by decide +kernel
theorem ef8 (m : MethodId) (b : Addr) (g : Addr) : entryFrame m #[(.ref b), (.ref g), (.int (0 : Int32)), (.int (1 : Int32))] 4 = mkF m 0 #[.val (.ref b), .val (.ref g), .val (.int (0 : Int32)), .val (.int (1 : Int32))] [] := by first | (simp [entryFrame, mkF, argsToLocals, Value.category]; done) | rfl
theorem pd5 : parseMethodDescriptor "([BII)Z" = some ⟨[(.array .byte), .int, .int], some .boolean⟩ := by decide +kernel
theorem pd6 : parseMethodDescriptor "()Z" = some ⟨[], some .boolean⟩ := by decide +kernel
theorem pd7 : parseMethodDescriptor "()I" = some ⟨[], some .int⟩ := by decide +kernel
theorem pd8 : parseMethodDescriptor "()J" = some ⟨[], some .long⟩ := by decide +kernel
def rm8 : Room := { frames := 2, cells := 0, slots := 0, locals := 37 }
set_option maxRecDepth 65536 in
set_option maxHeartbeats 40000000 in
theorem cn8 (l : Launch) (Z : State) (a0 : Array Value) (hw : ∀ d ∈ tables_1, d.before a0 Z = true) (b : Addr) (g : Addr) (r : Addr) (u : Addr) (w : Int32) (w1 : Int32) (w2 : Int64) (vu : List Value) (sz : Int32) (k : Nat) (h0 : Heap) (n0 : Nat) (hn : n0 ≤ h0.size) (E_b : Exa Z h0 b "com/example/stackwise/stackwise/input/DecimalColumn$Builder") (F_b_reading : Fld Z h0 b "com/example/stackwise/stackwise/input/DecimalColumn$Builder" "reading" "Lcom/example/stackwise/stackwise/input/Decimals$Reading;" (.ref r)) (F_b_unscaled : Fld Z h0 b "com/example/stackwise/stackwise/input/DecimalColumn$Builder" "unscaled" "[J" (.ref u)) (F_b_scale : Fld Z h0 b "com/example/stackwise/stackwise/input/DecimalColumn$Builder" "scale" "I" (.int (0 : Int32))) (F_b_size : Fld Z h0 b "com/example/stackwise/stackwise/input/DecimalColumn$Builder" "size" "I" (.int sz)) (F_b_values : Fld Z h0 b "com/example/stackwise/stackwise/input/DecimalColumn$Builder" "values" "[Ljava/math/BigDecimal;" .null) (E_r : Exa Z h0 r "com/example/stackwise/stackwise/input/Decimals$Reading") (F_r_wide : Fld Z h0 r "com/example/stackwise/stackwise/input/Decimals$Reading" "wide" "Ljava/math/BigDecimal;" .null) (F_r_scale : Fld Z h0 r "com/example/stackwise/stackwise/input/Decimals$Reading" "scale" "I" (.int w1)) (F_r_unscaled : Fld Z h0 r "com/example/stackwise/stackwise/input/Decimals$Reading" "unscaled" "J" (.long w2)) (V_u : Av Z h0 u .long vu) (V_g : Av Z h0 g .byte [(.int w)]) (g_b : n0 ≤ b) (g_r : n0 ≤ r) (g_u : n0 ≤ u) (ne_g_b : g ≠ b) (ne_r_b : r ≠ b) (ne_u_b : u ≠ b) (ne_g_r : g ≠ r) (ne_u_r : u ≠ r) (ne_g_u : g ≠ u) (q0 : ¬ w = (45 : Int32)) (q1 : ¬ (w - (48 : Int32)) < (0 : Int32)) (q2 : ¬ (9 : Int32) < (w - (48 : Int32))) (hsz : sz.toInt = (k : Int)) (hk : k ≤ 3) (hvu : vu.length = 8784) :
    Con l (⟨"com/example/stackwise/stackwise/input/DecimalColumn$Builder", "add", "([BII)I"⟩ : MethodName) prog_15_method_2_code 4 (some .int) [] rm8 rm8.cells rm8.slots Z #[(.ref b), (.ref g), (.int (0 : Int32)), (.int (1 : Int32))] h0 n0 (fun v h => ∃ vu1 : List Value, v = some (.int (fSg (((0 : Int64) * (10 : Int64)) + (w - (48 : Int32)).toInt64))) ∧ Keep h0 h [b, r, u] ∧ Exa Z h b "com/example/stackwise/stackwise/input/DecimalColumn$Builder" ∧ Fld Z h b "com/example/stackwise/stackwise/input/DecimalColumn$Builder" "reading" "Lcom/example/stackwise/stackwise/input/Decimals$Reading;" (.ref r) ∧ Fld Z h b "com/example/stackwise/stackwise/input/DecimalColumn$Builder" "unscaled" "[J" (.ref u) ∧ Fld Z h b "com/example/stackwise/stackwise/input/DecimalColumn$Builder" "scale" "I" (.int (0 : Int32)) ∧ Fld Z h b "com/example/stackwise/stackwise/input/DecimalColumn$Builder" "size" "I" (.int (sz + (1 : Int32))) ∧ Fld Z h b "com/example/stackwise/stackwise/input/DecimalColumn$Builder" "values" "[Ljava/math/BigDecimal;" .null ∧ Exa Z h r "com/example/stackwise/stackwise/input/Decimals$Reading" ∧ Av Z h u .long vu1 ∧ Fld Z h r "com/example/stackwise/stackwise/input/Decimals$Reading" "wide" "Ljava/math/BigDecimal;" .null ∧ Fld Z h r "com/example/stackwise/stackwise/input/Decimals$Reading" "scale" "I" (.int (0 : Int32)) ∧ Fld Z h r "com/example/stackwise/stackwise/input/Decimals$Reading" "unscaled" "J" (.long (((0 : Int64) * (10 : Int64)) + (w - (48 : Int32)).toInt64)) ∧ vu1.length = 8784) := by
  refine Con.of (plainFor_of_name pn1) hn (fun m => ef8 m b g) ?_
  intro p e s m below meth c s₀ hnm G0
  have K0 : Keep h0 h0 [b, r, u] := Keep.refl _ _
  have G1 := G0.aloadN (v := (.ref b)) (pc' := 1) d8_0 rfl
  have G2 := G1.getF (pc' := 4) (v := (.ref r)) (host := "") (Or.inl (hw _ (List.mem_of_getElem? (i := 24) rfl))) Via.refl F_b_reading d8_1
  have G3 := G2.aloadN (v := (.ref g)) (pc' := 5) d8_4 rfl
  have G4 := G3.iloadN (v := (0 : Int32)) (pc' := 6) d8_5 rfl
  have G5 := G4.iloadN (v := (1 : Int32)) (pc' := 7) d8_6 rfl
  obtain ⟨v6, h6, ⟨ev6, K6, F6_0, F6_1, F6_2, F6_3⟩, g6⟩ := G5.callV (argsL := [(.ref g), (.int (0 : Int32)), (.int (1 : Int32))]) (rest := []) (pc' := 10) (k' := 0) (j' := 0) (cn9 l Z a0 hw r g w w1 w2 h0 n0 G5.size E_r F_r_wide F_r_scale F_r_unscaled V_g g_r ne_g_r q0 q1 q2) rfl E_r (hw _ (List.mem_of_getElem? (i := 52) rfl)) (hw _ (List.mem_of_getElem? (i := 53) rfl)) (hw _ (List.mem_of_getElem? (i := 55) rfl)) (hw _ (List.mem_of_getElem? (i := 54) rfl)) (hw _ (List.mem_of_getElem? (i := 19) rfl)) (hw _ (List.mem_of_getElem? (i := 56) rfl)) (by decide) d8_7 pd5 rfl (W := 0) rfl rfl (by decide) (by decide) (by decide) (by decide) rfl rfl rfl
  subst ev6
  have G6 := g6 [(.int (1 : Int32))] rfl
  have E7 : Exa Z h6 b "com/example/stackwise/stackwise/input/DecimalColumn$Builder" := E_b.keep K6
  have F8 : Fld Z h6 b "com/example/stackwise/stackwise/input/DecimalColumn$Builder" "reading" "Lcom/example/stackwise/stackwise/input/Decimals$Reading;" (.ref r) := F_b_reading.keep K6 (ninS (Ne.symm ne_r_b) nin0)
  have F9 : Fld Z h6 b "com/example/stackwise/stackwise/input/DecimalColumn$Builder" "unscaled" "[J" (.ref u) := F_b_unscaled.keep K6 (ninS (Ne.symm ne_r_b) nin0)
  have F10 : Fld Z h6 b "com/example/stackwise/stackwise/input/DecimalColumn$Builder" "scale" "I" (.int (0 : Int32)) := F_b_scale.keep K6 (ninS (Ne.symm ne_r_b) nin0)
  have F11 : Fld Z h6 b "com/example/stackwise/stackwise/input/DecimalColumn$Builder" "size" "I" (.int sz) := F_b_size.keep K6 (ninS (Ne.symm ne_r_b) nin0)
  have F12 : Fld Z h6 b "com/example/stackwise/stackwise/input/DecimalColumn$Builder" "values" "[Ljava/math/BigDecimal;" .null := F_b_values.keep K6 (ninS (Ne.symm ne_r_b) nin0)
  have E13 : Exa Z h6 r "com/example/stackwise/stackwise/input/Decimals$Reading" := E_r.keep K6
  have V14 : Av Z h6 u .long vu := V_u.keep K6 (ninS ne_u_r nin0)
  have V15 : Av Z h6 g .byte [(.int w)] := V_g.keep K6 (ninS ne_g_r nin0)
  have K16 : Keep h0 h6 [b, r, u] := K0.trans K6 (allS (Or.inl (List.mem_of_getElem? (i := 1) rfl)) all0)
  have G17 := G6.ifY d8_10 41 (Jvm.Free.XT.i0_ne_t (by decide))
  have G18 := G17.aloadN (v := (.ref b)) (pc' := 42) d8_41 rfl
  have G19 := G18.getF (pc' := 45) (v := (.ref u)) (host := "") (Or.inl (hw _ (List.mem_of_getElem? (i := 31) rfl))) Via.refl F9 d8_42
  have G20 := G19.ifnullN d8_45 48
  have G21 := G20.aloadN (v := (.ref b)) (pc' := 49) d8_48 rfl
  have G22 := G21.getF (pc' := 52) (v := (.ref r)) (host := "") (Or.inl (hw _ (List.mem_of_getElem? (i := 24) rfl))) Via.refl F8 d8_49
  obtain ⟨v23, h23, ⟨ev23, K23⟩, g23⟩ := G22.callV (argsL := []) (rest := []) (pc' := 55) (k' := 0) (j' := 0) (cn11 l Z a0 hw r h6 n0 G22.size F6_1) rfl F6_0 (hw _ (List.mem_of_getElem? (i := 69) rfl)) (hw _ (List.mem_of_getElem? (i := 70) rfl)) (hw _ (List.mem_of_getElem? (i := 72) rfl)) (hw _ (List.mem_of_getElem? (i := 71) rfl)) (hw _ (List.mem_of_getElem? (i := 19) rfl)) (hw _ (List.mem_of_getElem? (i := 73) rfl)) (by decide) d8_52 pd6 rfl (W := 0) rfl rfl (by decide) (by decide) (by decide) (by decide) rfl rfl rfl
  subst ev23
  have G23 := g23 [(.int (1 : Int32))] rfl
  have E24 : Exa Z h23 b "com/example/stackwise/stackwise/input/DecimalColumn$Builder" := E7.keep K23
  have F25 : Fld Z h23 b "com/example/stackwise/stackwise/input/DecimalColumn$Builder" "reading" "Lcom/example/stackwise/stackwise/input/Decimals$Reading;" (.ref r) := F8.keep K23 nin0
  have F26 : Fld Z h23 b "com/example/stackwise/stackwise/input/DecimalColumn$Builder" "unscaled" "[J" (.ref u) := F9.keep K23 nin0
  have F27 : Fld Z h23 b "com/example/stackwise/stackwise/input/DecimalColumn$Builder" "scale" "I" (.int (0 : Int32)) := F10.keep K23 nin0
  have F28 : Fld Z h23 b "com/example/stackwise/stackwise/input/DecimalColumn$Builder" "size" "I" (.int sz) := F11.keep K23 nin0
  have F29 : Fld Z h23 b "com/example/stackwise/stackwise/input/DecimalColumn$Builder" "values" "[Ljava/math/BigDecimal;" .null := F12.keep K23 nin0
  have E30 : Exa Z h23 r "com/example/stackwise/stackwise/input/Decimals$Reading" := F6_0.keep K23
  have V31 : Av Z h23 u .long vu := V14.keep K23 nin0
  have V32 : Av Z h23 g .byte [(.int w)] := V15.keep K23 nin0
  have K33 : Keep h0 h23 [b, r, u] := K16.trans K23 all0
  have F34 : Fld Z h23 r "com/example/stackwise/stackwise/input/Decimals$Reading" "wide" "Ljava/math/BigDecimal;" .null := F6_1.keep K23 nin0
  have F35 : Fld Z h23 r "com/example/stackwise/stackwise/input/Decimals$Reading" "scale" "I" (.int (0 : Int32)) := F6_2.keep K23 nin0
  have F36 : Fld Z h23 r "com/example/stackwise/stackwise/input/Decimals$Reading" "unscaled" "J" (.long (((0 : Int64) * (10 : Int64)) + (w - (48 : Int32)).toInt64)) := F6_3.keep K23 nin0
  have G37 := G23.ifN d8_55 58 (Jvm.Free.XT.i0_eq_f (by decide))
  have G38 := G37.aloadN (v := (.ref b)) (pc' := 59) d8_58 rfl
  have G39 := G38.getF (pc' := 62) (v := (.ref r)) (host := "") (Or.inl (hw _ (List.mem_of_getElem? (i := 24) rfl))) Via.refl F25 d8_59
  obtain ⟨v40, h40, ⟨ev40, K40⟩, g40⟩ := G39.callV (argsL := []) (rest := []) (pc' := 65) (k' := 0) (j' := 0) (cn12 l Z a0 hw r (0 : Int32) h23 n0 G39.size F35) rfl E30 (hw _ (List.mem_of_getElem? (i := 74) rfl)) (hw _ (List.mem_of_getElem? (i := 75) rfl)) (hw _ (List.mem_of_getElem? (i := 77) rfl)) (hw _ (List.mem_of_getElem? (i := 76) rfl)) (hw _ (List.mem_of_getElem? (i := 19) rfl)) (hw _ (List.mem_of_getElem? (i := 78) rfl)) (by decide) d8_62 pd7 rfl (W := 0) rfl rfl (by decide) (by decide) (by decide) (by decide) rfl rfl rfl
  subst ev40
  have G40 := g40 [(.int (0 : Int32))] rfl
  have E41 : Exa Z h40 b "com/example/stackwise/stackwise/input/DecimalColumn$Builder" := E24.keep K40
  have F42 : Fld Z h40 b "com/example/stackwise/stackwise/input/DecimalColumn$Builder" "reading" "Lcom/example/stackwise/stackwise/input/Decimals$Reading;" (.ref r) := F25.keep K40 nin0
  have F43 : Fld Z h40 b "com/example/stackwise/stackwise/input/DecimalColumn$Builder" "unscaled" "[J" (.ref u) := F26.keep K40 nin0
  have F44 : Fld Z h40 b "com/example/stackwise/stackwise/input/DecimalColumn$Builder" "scale" "I" (.int (0 : Int32)) := F27.keep K40 nin0
  have F45 : Fld Z h40 b "com/example/stackwise/stackwise/input/DecimalColumn$Builder" "size" "I" (.int sz) := F28.keep K40 nin0
  have F46 : Fld Z h40 b "com/example/stackwise/stackwise/input/DecimalColumn$Builder" "values" "[Ljava/math/BigDecimal;" .null := F29.keep K40 nin0
  have E47 : Exa Z h40 r "com/example/stackwise/stackwise/input/Decimals$Reading" := E30.keep K40
  have V48 : Av Z h40 u .long vu := V31.keep K40 nin0
  have V49 : Av Z h40 g .byte [(.int w)] := V32.keep K40 nin0
  have K50 : Keep h0 h40 [b, r, u] := K33.trans K40 all0
  have F51 : Fld Z h40 r "com/example/stackwise/stackwise/input/Decimals$Reading" "wide" "Ljava/math/BigDecimal;" .null := F34.keep K40 nin0
  have F52 : Fld Z h40 r "com/example/stackwise/stackwise/input/Decimals$Reading" "scale" "I" (.int (0 : Int32)) := F35.keep K40 nin0
  have F53 : Fld Z h40 r "com/example/stackwise/stackwise/input/Decimals$Reading" "unscaled" "J" (.long (((0 : Int64) * (10 : Int64)) + (w - (48 : Int32)).toInt64)) := F36.keep K40 nin0
  have G54 := G40.aloadN (v := (.ref b)) (pc' := 66) d8_65 rfl
  have G55 := G54.getF (pc' := 69) (v := (.int (0 : Int32))) (host := "") (Or.inl (hw _ (List.mem_of_getElem? (i := 79) rfl))) Via.refl F44 d8_66
  have G56 := G55.icmpN d8_69 72 (Jvm.Free.XT.ii_ne_f (by decide))
  have G57 := G56.aloadN (v := (.ref b)) (pc' := 73) d8_72 rfl
  have G58 := G57.getF (pc' := 76) (v := (.int sz)) (host := "") (Or.inl (hw _ (List.mem_of_getElem? (i := 45) rfl))) Via.refl F45 d8_73
  have G59 := G58.aloadN (v := (.ref b)) (pc' := 77) d8_76 rfl
  have G60 := G59.getF (pc' := 80) (v := (.ref u)) (host := "") (Or.inl (hw _ (List.mem_of_getElem? (i := 31) rfl))) Via.refl F43 d8_77
  have G61 := G60.arrlen (pc' := 81) (v := (8784 : Int32)) V48 (by rw [hvu]; decide) d8_80
  have G62 := G61.icmpN d8_81 84 (Jvm.Free.XT.ii_ge_f (own_sz sz k hsz hk))
  have G63 := G62.aloadN (v := (.ref b)) (pc' := 85) d8_84 rfl
  have G64 := G63.getF (pc' := 88) (v := (.ref u)) (host := "") (Or.inl (hw _ (List.mem_of_getElem? (i := 31) rfl))) Via.refl F43 d8_85
  have G65 := G64.aloadN (v := (.ref b)) (pc' := 89) d8_88 rfl
  have G66 := G65.dup (pc' := 90) d8_89
  have G67 := G66.getF (pc' := 93) (v := (.int sz)) (host := "") (Or.inl (hw _ (List.mem_of_getElem? (i := 45) rfl))) Via.refl F45 d8_90
  have G68 := G67.dupX1 (pc' := 94) d8_93
  have G69 := G68.iconst (v := (1 : Int32)) (pc' := 95) d8_94
  have G70 := G69.iadd (pc' := 96) d8_95
  obtain ⟨h71, W71, G71⟩ := G70.putF (v := (.int (sz + (1 : Int32)))) (pc' := 99) (host := "") (Or.inl (hw _ (List.mem_of_getElem? (i := 45) rfl))) Via.refl F45 E41 g_b (Or.inl (hw _ (List.mem_of_getElem? (i := 46) rfl))) (hw _ (List.mem_of_getElem? (i := 11) rfl)) (ty := .int) (by decide) rfl rfl d8_96
  have E72 : Exa Z h71 b "com/example/stackwise/stackwise/input/DecimalColumn$Builder" := E41.wr W71
  have F73 : Fld Z h71 b "com/example/stackwise/stackwise/input/DecimalColumn$Builder" "reading" "Lcom/example/stackwise/stackwise/input/Decimals$Reading;" (.ref r) := F42.other W71 (Or.inr (slot_ne (Or.inr (hw _ (List.mem_of_getElem? (i := 25) rfl))) (Or.inl (hw _ (List.mem_of_getElem? (i := 46) rfl))) (by decide) (t := (.object "com/example/stackwise/stackwise/input/Decimals$Reading")) (t' := .int) (by decide) (by decide)))
  have F74 : Fld Z h71 b "com/example/stackwise/stackwise/input/DecimalColumn$Builder" "unscaled" "[J" (.ref u) := F43.other W71 (Or.inr (slot_ne (Or.inl (hw _ (List.mem_of_getElem? (i := 32) rfl))) (Or.inl (hw _ (List.mem_of_getElem? (i := 46) rfl))) (by decide) (t := (.array .long)) (t' := .int) (by decide) (by decide)))
  have F75 : Fld Z h71 b "com/example/stackwise/stackwise/input/DecimalColumn$Builder" "scale" "I" (.int (0 : Int32)) := F44.other W71 (Or.inr (slot_ne (Or.inl (hw _ (List.mem_of_getElem? (i := 80) rfl))) (Or.inl (hw _ (List.mem_of_getElem? (i := 46) rfl))) (by decide) (t := .int) (t' := .int) (by decide) (by decide)))
  have F76 : Fld Z h71 b "com/example/stackwise/stackwise/input/DecimalColumn$Builder" "size" "I" (.int (sz + (1 : Int32))) := F45.same W71
  have F77 : Fld Z h71 b "com/example/stackwise/stackwise/input/DecimalColumn$Builder" "values" "[Ljava/math/BigDecimal;" .null := F46.other W71 (Or.inr (slot_ne (Or.inl (hw _ (List.mem_of_getElem? (i := 106) rfl))) (Or.inl (hw _ (List.mem_of_getElem? (i := 46) rfl))) (by decide) (t := (.array (.object "java/math/BigDecimal"))) (t' := .int) (by decide) (by decide)))
  have E78 : Exa Z h71 r "com/example/stackwise/stackwise/input/Decimals$Reading" := E47.wr W71
  have V79 : Av Z h71 u .long vu := V48.other W71 ne_u_b
  have V80 : Av Z h71 g .byte [(.int w)] := V49.other W71 ne_g_b
  have K81 : Keep h0 h71 [b, r, u] := K50.wr W71 (Or.inl (List.mem_of_getElem? (i := 0) rfl))
  have F82 : Fld Z h71 r "com/example/stackwise/stackwise/input/Decimals$Reading" "wide" "Ljava/math/BigDecimal;" .null := F51.other W71 (Or.inl ne_r_b)
  have F83 : Fld Z h71 r "com/example/stackwise/stackwise/input/Decimals$Reading" "scale" "I" (.int (0 : Int32)) := F52.other W71 (Or.inl ne_r_b)
  have F84 : Fld Z h71 r "com/example/stackwise/stackwise/input/Decimals$Reading" "unscaled" "J" (.long (((0 : Int64) * (10 : Int64)) + (w - (48 : Int32)).toInt64)) := F53.other W71 (Or.inl ne_r_b)
  have G85 := G71.aloadN (v := (.ref b)) (pc' := 100) d8_99 rfl
  have G86 := G85.getF (pc' := 103) (v := (.ref r)) (host := "") (Or.inl (hw _ (List.mem_of_getElem? (i := 24) rfl))) Via.refl F73 d8_100
  obtain ⟨v87, h87, ⟨ev87, K87⟩, g87⟩ := G86.callV (argsL := []) (rest := [(.int sz), (.ref u)]) (pc' := 106) (k' := 0) (j' := 0) (cn13 l Z a0 hw r (((0 : Int64) * (10 : Int64)) + (w - (48 : Int32)).toInt64) h71 n0 G86.size F84) rfl E78 (hw _ (List.mem_of_getElem? (i := 81) rfl)) (hw _ (List.mem_of_getElem? (i := 82) rfl)) (hw _ (List.mem_of_getElem? (i := 84) rfl)) (hw _ (List.mem_of_getElem? (i := 83) rfl)) (hw _ (List.mem_of_getElem? (i := 19) rfl)) (hw _ (List.mem_of_getElem? (i := 85) rfl)) (by decide) d8_103 pd8 rfl (W := 2) rfl rfl (by decide) (by decide) (by decide) (by decide) rfl rfl rfl
  subst ev87
  have G87 := g87 [(.long (((0 : Int64) * (10 : Int64)) + (w - (48 : Int32)).toInt64)), (.int sz), (.ref u)] rfl
  have E88 : Exa Z h87 b "com/example/stackwise/stackwise/input/DecimalColumn$Builder" := E72.keep K87
  have F89 : Fld Z h87 b "com/example/stackwise/stackwise/input/DecimalColumn$Builder" "reading" "Lcom/example/stackwise/stackwise/input/Decimals$Reading;" (.ref r) := F73.keep K87 nin0
  have F90 : Fld Z h87 b "com/example/stackwise/stackwise/input/DecimalColumn$Builder" "unscaled" "[J" (.ref u) := F74.keep K87 nin0
  have F91 : Fld Z h87 b "com/example/stackwise/stackwise/input/DecimalColumn$Builder" "scale" "I" (.int (0 : Int32)) := F75.keep K87 nin0
  have F92 : Fld Z h87 b "com/example/stackwise/stackwise/input/DecimalColumn$Builder" "size" "I" (.int (sz + (1 : Int32))) := F76.keep K87 nin0
  have F93 : Fld Z h87 b "com/example/stackwise/stackwise/input/DecimalColumn$Builder" "values" "[Ljava/math/BigDecimal;" .null := F77.keep K87 nin0
  have E94 : Exa Z h87 r "com/example/stackwise/stackwise/input/Decimals$Reading" := E78.keep K87
  have V95 : Av Z h87 u .long vu := V79.keep K87 nin0
  have V96 : Av Z h87 g .byte [(.int w)] := V80.keep K87 nin0
  have K97 : Keep h0 h87 [b, r, u] := K81.trans K87 all0
  have F98 : Fld Z h87 r "com/example/stackwise/stackwise/input/Decimals$Reading" "wide" "Ljava/math/BigDecimal;" .null := F82.keep K87 nin0
  have F99 : Fld Z h87 r "com/example/stackwise/stackwise/input/Decimals$Reading" "scale" "I" (.int (0 : Int32)) := F83.keep K87 nin0
  have F100 : Fld Z h87 r "com/example/stackwise/stackwise/input/Decimals$Reading" "unscaled" "J" (.long (((0 : Int64) * (10 : Int64)) + (w - (48 : Int32)).toInt64)) := F84.keep K87 nin0
  obtain ⟨h101, W101, V101, G101⟩ := G87.stJ (i := k) (pc' := 107) V95 g_u hsz (by omega) d8_106
  have E102 : Exa Z h101 b "com/example/stackwise/stackwise/input/DecimalColumn$Builder" := E88.wr W101
  have F103 : Fld Z h101 b "com/example/stackwise/stackwise/input/DecimalColumn$Builder" "reading" "Lcom/example/stackwise/stackwise/input/Decimals$Reading;" (.ref r) := F89.other W101 (Or.inl (Ne.symm ne_u_b))
  have F104 : Fld Z h101 b "com/example/stackwise/stackwise/input/DecimalColumn$Builder" "unscaled" "[J" (.ref u) := F90.other W101 (Or.inl (Ne.symm ne_u_b))
  have F105 : Fld Z h101 b "com/example/stackwise/stackwise/input/DecimalColumn$Builder" "scale" "I" (.int (0 : Int32)) := F91.other W101 (Or.inl (Ne.symm ne_u_b))
  have F106 : Fld Z h101 b "com/example/stackwise/stackwise/input/DecimalColumn$Builder" "size" "I" (.int (sz + (1 : Int32))) := F92.other W101 (Or.inl (Ne.symm ne_u_b))
  have F107 : Fld Z h101 b "com/example/stackwise/stackwise/input/DecimalColumn$Builder" "values" "[Ljava/math/BigDecimal;" .null := F93.other W101 (Or.inl (Ne.symm ne_u_b))
  have E108 : Exa Z h101 r "com/example/stackwise/stackwise/input/Decimals$Reading" := E94.wr W101
  have V109 : Av Z h101 g .byte [(.int w)] := V96.other W101 ne_g_u
  have K110 : Keep h0 h101 [b, r, u] := K97.wr W101 (Or.inl (List.mem_of_getElem? (i := 2) rfl))
  have F111 : Fld Z h101 r "com/example/stackwise/stackwise/input/Decimals$Reading" "wide" "Ljava/math/BigDecimal;" .null := F98.other W101 (Or.inl (Ne.symm ne_u_r))
  have F112 : Fld Z h101 r "com/example/stackwise/stackwise/input/Decimals$Reading" "scale" "I" (.int (0 : Int32)) := F99.other W101 (Or.inl (Ne.symm ne_u_r))
  have F113 : Fld Z h101 r "com/example/stackwise/stackwise/input/Decimals$Reading" "unscaled" "J" (.long (((0 : Int64) * (10 : Int64)) + (w - (48 : Int32)).toInt64)) := F100.other W101 (Or.inl (Ne.symm ne_u_r))
  have hvu1 : ((List.set vu k (.long (((0 : Int64) * (10 : Int64)) + (w - (48 : Int32)).toInt64)))).length = 8784 := by rw [List.length_set]; exact hvu
  obtain ⟨vu1, hvu2, Vu1⟩ : ∃ vu1 : List Value, vu1.length = 8784 ∧ Av Z h101 u .long vu1 := ⟨_, hvu1, V101⟩
  have G114 := G101.aloadN (v := (.ref b)) (pc' := 108) d8_107 rfl
  have G115 := G114.getF (pc' := 111) (v := (.ref r)) (host := "") (Or.inl (hw _ (List.mem_of_getElem? (i := 24) rfl))) Via.refl F103 d8_108
  obtain ⟨v116, h116, ⟨ev116, K116⟩, g116⟩ := G115.callV (argsL := []) (rest := []) (pc' := 114) (k' := 0) (j' := 0) (cn14 l Z a0 hw r (((0 : Int64) * (10 : Int64)) + (w - (48 : Int32)).toInt64) h101 n0 G115.size F111 F113) rfl E108 (hw _ (List.mem_of_getElem? (i := 86) rfl)) (hw _ (List.mem_of_getElem? (i := 87) rfl)) (hw _ (List.mem_of_getElem? (i := 89) rfl)) (hw _ (List.mem_of_getElem? (i := 88) rfl)) (hw _ (List.mem_of_getElem? (i := 19) rfl)) (hw _ (List.mem_of_getElem? (i := 90) rfl)) (by decide) d8_111 pd7 rfl (W := 0) rfl rfl (by decide) (by decide) (by decide) (by decide) rfl rfl rfl
  subst ev116
  have G116 := g116 [(.int (fSg (((0 : Int64) * (10 : Int64)) + (w - (48 : Int32)).toInt64)))] rfl
  have E117 : Exa Z h116 b "com/example/stackwise/stackwise/input/DecimalColumn$Builder" := E102.keep K116
  have F118 : Fld Z h116 b "com/example/stackwise/stackwise/input/DecimalColumn$Builder" "reading" "Lcom/example/stackwise/stackwise/input/Decimals$Reading;" (.ref r) := F103.keep K116 nin0
  have F119 : Fld Z h116 b "com/example/stackwise/stackwise/input/DecimalColumn$Builder" "unscaled" "[J" (.ref u) := F104.keep K116 nin0
  have F120 : Fld Z h116 b "com/example/stackwise/stackwise/input/DecimalColumn$Builder" "scale" "I" (.int (0 : Int32)) := F105.keep K116 nin0
  have F121 : Fld Z h116 b "com/example/stackwise/stackwise/input/DecimalColumn$Builder" "size" "I" (.int (sz + (1 : Int32))) := F106.keep K116 nin0
  have F122 : Fld Z h116 b "com/example/stackwise/stackwise/input/DecimalColumn$Builder" "values" "[Ljava/math/BigDecimal;" .null := F107.keep K116 nin0
  have E123 : Exa Z h116 r "com/example/stackwise/stackwise/input/Decimals$Reading" := E108.keep K116
  have V124 : Av Z h116 u .long vu1 := Vu1.keep K116 nin0
  have V125 : Av Z h116 g .byte [(.int w)] := V109.keep K116 nin0
  have K126 : Keep h0 h116 [b, r, u] := K110.trans K116 all0
  have F127 : Fld Z h116 r "com/example/stackwise/stackwise/input/Decimals$Reading" "wide" "Ljava/math/BigDecimal;" .null := F111.keep K116 nin0
  have F128 : Fld Z h116 r "com/example/stackwise/stackwise/input/Decimals$Reading" "scale" "I" (.int (0 : Int32)) := F112.keep K116 nin0
  have F129 : Fld Z h116 r "com/example/stackwise/stackwise/input/Decimals$Reading" "unscaled" "J" (.long (((0 : Int64) * (10 : Int64)) + (w - (48 : Int32)).toInt64)) := F113.keep K116 nin0
  exact G116.retI d8_114 rfl ⟨vu1, rfl, K126, E117, F118, F119, F120, F121, F122, E123, V124, F127, F128, F129, hvu2⟩
theorem d6_0 : decode prog_7_method_2_code 0 = .ok (.aload_n 0, 1) := by decide +kernel
theorem d6_1 : decode prog_7_method_2_code 1 = .ok (.getfield 14, 3) := by decide +kernel
theorem d6_4 : decode prog_7_method_2_code 4 = .ok (.invokevirtual 20, 3) := by decide +kernel
theorem d6_7 : decode prog_7_method_2_code 7 = .ok (.istore 6, 2) := by decide +kernel
theorem d6_9 : decode prog_7_method_2_code 9 = .ok (.aload_n 0, 1) := by decide +kernel
theorem d6_10 : decode prog_7_method_2_code 10 = .ok (.getfield 14, 3) := by decide +kernel
theorem d6_13 : decode prog_7_method_2_code 13 = .ok (.aload_n 3, 1) := by decide +kernel
theorem d6_14 : decode prog_7_method_2_code 14 = .ok (.iload 4, 2) := by decide +kernel
theorem d6_16 : decode prog_7_method_2_code 16 = .ok (.iload 5, 2) := by decide +kernel
theorem d6_18 : decode prog_7_method_2_code 18 = .ok (.invokevirtual 24, 3) := by decide +kernel
theorem d6_21 : decode prog_7_method_2_code 21 = .ok (.istore 7, 2) := by decide +kernel
theorem d6_23 : decode prog_7_method_2_code 23 = .ok (.iload 6, 2) := by decide +kernel
theorem d6_25 : decode prog_7_method_2_code 25 = .ok (.ifCond .ne 11, 3) := by decide +kernel
theorem d6_28 : decode prog_7_method_2_code 28 = .ok (.aload_n 0, 1) := by decide +kernel
theorem d6_29 : decode prog_7_method_2_code 29 = .ok (.lload_n 1, 1) := by decide +kernel
theorem d6_30 : decode prog_7_method_2_code 30 = .ok (.putfield 28, 3) := by decide +kernel
theorem d6_33 : decode prog_7_method_2_code 33 = .ok (.goto 70, 3) := by decide +kernel
theorem d6_36 : decode prog_7_method_2_code 36 = .ok (.aload_n 0, 1) := by decide +kernel
theorem d6_37 : decode prog_7_method_2_code 37 = .ok (.getfield 32, 3) := by decide +kernel
theorem d6_40 : decode prog_7_method_2_code 40 = .ok (.ifnonnull 63, 3) := by decide +kernel
theorem d6_43 : decode prog_7_method_2_code 43 = .ok (.lload_n 1, 1) := by decide +kernel
theorem d6_44 : decode prog_7_method_2_code 44 = .ok (.aload_n 0, 1) := by decide +kernel
theorem d6_45 : decode prog_7_method_2_code 45 = .ok (.getfield 28, 3) := by decide +kernel
theorem d6_48 : decode prog_7_method_2_code 48 = .ok (.iload 6, 2) := by decide +kernel
theorem d6_50 : decode prog_7_method_2_code 50 = .ok (.i2l, 1) := by decide +kernel
theorem d6_51 : decode prog_7_method_2_code 51 = .ok (.ladd, 1) := by decide +kernel
theorem d6_52 : decode prog_7_method_2_code 52 = .ok (.lcmp, 1) := by decide +kernel
theorem d6_53 : decode prog_7_method_2_code 53 = .ok (.ifCond .eq 50, 3) := by decide +kernel
theorem d6_56 : decode prog_7_method_2_code 56 = .ok (.aload_n 0, 1) := by decide +kernel
theorem d6_57 : decode prog_7_method_2_code 57 = .ok (.sipush 8784, 3) := by decide +kernel
theorem d6_60 : decode prog_7_method_2_code 60 = .ok (.iconst 2, 1) := by decide +kernel
theorem d6_61 : decode prog_7_method_2_code 61 = .ok (.iload 6, 2) := by decide +kernel
theorem d6_63 : decode prog_7_method_2_code 63 = .ok (.imul, 1) := by decide +kernel
theorem d6_64 : decode prog_7_method_2_code 64 = .ok (.invokestatic 36, 3) := by decide +kernel
theorem d6_67 : decode prog_7_method_2_code 67 = .ok (.newarray .long, 2) := by decide +kernel
theorem d6_69 : decode prog_7_method_2_code 69 = .ok (.putfield 32, 3) := by decide +kernel
theorem d6_72 : decode prog_7_method_2_code 72 = .ok (.iconst 0, 1) := by decide +kernel
theorem d6_73 : decode prog_7_method_2_code 73 = .ok (.istore 8, 2) := by decide +kernel
theorem d6_75 : decode prog_7_method_2_code 75 = .ok (.iload 8, 2) := by decide +kernel
theorem d6_77 : decode prog_7_method_2_code 77 = .ok (.iload 6, 2) := by decide +kernel
theorem d6_79 : decode prog_7_method_2_code 79 = .ok (.if_icmp .ge 24, 3) := by decide +kernel
theorem d6_82 : decode prog_7_method_2_code 82 = .ok (.aload_n 0, 1) := by decide +kernel
theorem d6_83 : decode prog_7_method_2_code 83 = .ok (.getfield 32, 3) := by decide +kernel
theorem d6_86 : decode prog_7_method_2_code 86 = .ok (.iload 8, 2) := by decide +kernel
theorem d6_88 : decode prog_7_method_2_code 88 = .ok (.aload_n 0, 1) := by decide +kernel
theorem d6_89 : decode prog_7_method_2_code 89 = .ok (.getfield 28, 3) := by decide +kernel
theorem d6_92 : decode prog_7_method_2_code 92 = .ok (.iload 8, 2) := by decide +kernel
theorem d6_94 : decode prog_7_method_2_code 94 = .ok (.i2l, 1) := by decide +kernel
theorem d6_95 : decode prog_7_method_2_code 95 = .ok (.ladd, 1) := by decide +kernel
theorem d6_96 : decode prog_7_method_2_code 96 = .ok (.lastore, 1) := by decide +kernel
theorem d6_97 : decode prog_7_method_2_code 97 = .ok (.iinc 8 1, 3) := by decide +kernel
theorem d6_100 : decode prog_7_method_2_code 100 = .ok (.goto (-25), 3) := by decide +kernel
theorem d6_103 : decode prog_7_method_2_code 103 = .ok (.aload_n 0, 1) := by decide +kernel
theorem d6_104 : decode prog_7_method_2_code 104 = .ok (.getfield 32, 3) := by decide +kernel
theorem d6_107 : decode prog_7_method_2_code 107 = .ok (.ifnull 36, 3) := by decide +kernel
theorem d6_110 : decode prog_7_method_2_code 110 = .ok (.iload 6, 2) := by decide +kernel
theorem d6_112 : decode prog_7_method_2_code 112 = .ok (.aload_n 0, 1) := by decide +kernel
theorem d6_113 : decode prog_7_method_2_code 113 = .ok (.getfield 32, 3) := by decide +kernel
theorem d6_116 : decode prog_7_method_2_code 116 = .ok (.arraylength, 1) := by decide +kernel
theorem d6_117 : decode prog_7_method_2_code 117 = .ok (.if_icmp .ne 18, 3) := by decide +kernel
theorem d6_120 : decode prog_7_method_2_code 120 = .ok (.aload_n 0, 1) := by decide +kernel
theorem d6_121 : decode prog_7_method_2_code 121 = .ok (.aload_n 0, 1) := by decide +kernel
theorem d6_122 : decode prog_7_method_2_code 122 = .ok (.getfield 32, 3) := by decide +kernel
theorem d6_125 : decode prog_7_method_2_code 125 = .ok (.iconst 2, 1) := by decide +kernel
theorem d6_126 : decode prog_7_method_2_code 126 = .ok (.iload 6, 2) := by decide +kernel
theorem d6_128 : decode prog_7_method_2_code 128 = .ok (.imul, 1) := by decide +kernel
theorem d6_129 : decode prog_7_method_2_code 129 = .ok (.invokestatic 42, 3) := by decide +kernel
theorem d6_132 : decode prog_7_method_2_code 132 = .ok (.putfield 32, 3) := by decide +kernel
theorem d6_135 : decode prog_7_method_2_code 135 = .ok (.aload_n 0, 1) := by decide +kernel
theorem d6_136 : decode prog_7_method_2_code 136 = .ok (.getfield 32, 3) := by decide +kernel
theorem d6_139 : decode prog_7_method_2_code 139 = .ok (.iload 6, 2) := by decide +kernel
theorem d6_141 : decode prog_7_method_2_code 141 = .ok (.lload_n 1, 1) := by decide +kernel
theorem d6_142 : decode prog_7_method_2_code 142 = .ok (.lastore, 1) := by decide +kernel
theorem d6_143 : decode prog_7_method_2_code 143 = .ok (.iload 7, 2) := by decide +kernel
theorem d6_145 : decode prog_7_method_2_code 145 = .ok (.ireturn, 1) := by decide +kernel
theorem ef_a0 (m : MethodId) (a : Addr) (x1 : Int64) (g : Addr) : entryFrame m #[(.ref a), (.long x1), (.ref g), (.int (0 : Int32)), (.int (1 : Int32))] 9 = mkF m 0 #[.val (.ref a), .val (.long x1), .second, .val (.ref g), .val (.int (0 : Int32)), .val (.int (1 : Int32)), .unset, .unset, .unset] [] := by first | (simp [entryFrame, mkF, argsToLocals, Value.category]; done) | rfl
def rm_a0 : Room := { frames := 3, cells := 0, slots := 0, locals := 52 }
set_option maxRecDepth 65536 in
set_option maxHeartbeats 40000000 in
theorem cn_a0 (l : Launch) (Z : State) (a0 : Array Value) (hw : ∀ d ∈ tables_1, d.before a0 Z = true) (a : Addr) (x1 : Int64) (g : Addr) (b : Addr) (r : Addr) (u : Addr) (w : Int32) (w1 : Int32) (w2 : Int64) (vu : List Value) (f0 : Int64) (h0 : Heap) (n0 : Nat) (hn : n0 ≤ h0.size) (E_a : Exa Z h0 a "com/example/stackwise/stackwise/calendar/HourlyValues$Builder") (F_a_values : Fld Z h0 a "com/example/stackwise/stackwise/calendar/HourlyValues$Builder" "values" "Lcom/example/stackwise/stackwise/input/DecimalColumn$Builder;" (.ref b)) (F_a_first : Fld Z h0 a "com/example/stackwise/stackwise/calendar/HourlyValues$Builder" "first" "J" (.long f0)) (F_a_hours : Fld Z h0 a "com/example/stackwise/stackwise/calendar/HourlyValues$Builder" "hours" "[J" .null) (E_b : Exa Z h0 b "com/example/stackwise/stackwise/input/DecimalColumn$Builder") (F_b_reading : Fld Z h0 b "com/example/stackwise/stackwise/input/DecimalColumn$Builder" "reading" "Lcom/example/stackwise/stackwise/input/Decimals$Reading;" (.ref r)) (F_b_unscaled : Fld Z h0 b "com/example/stackwise/stackwise/input/DecimalColumn$Builder" "unscaled" "[J" (.ref u)) (F_b_scale : Fld Z h0 b "com/example/stackwise/stackwise/input/DecimalColumn$Builder" "scale" "I" (.int (0 : Int32))) (F_b_size : Fld Z h0 b "com/example/stackwise/stackwise/input/DecimalColumn$Builder" "size" "I" (.int (0 : Int32))) (F_b_values : Fld Z h0 b "com/example/stackwise/stackwise/input/DecimalColumn$Builder" "values" "[Ljava/math/BigDecimal;" .null) (E_r : Exa Z h0 r "com/example/stackwise/stackwise/input/Decimals$Reading") (F_r_wide : Fld Z h0 r "com/example/stackwise/stackwise/input/Decimals$Reading" "wide" "Ljava/math/BigDecimal;" .null) (F_r_scale : Fld Z h0 r "com/example/stackwise/stackwise/input/Decimals$Reading" "scale" "I" (.int w1)) (F_r_unscaled : Fld Z h0 r "com/example/stackwise/stackwise/input/Decimals$Reading" "unscaled" "J" (.long w2)) (V_u : Av Z h0 u .long vu) (V_g : Av Z h0 g .byte [(.int w)]) (g_a : n0 ≤ a) (g_b : n0 ≤ b) (g_r : n0 ≤ r) (g_u : n0 ≤ u) (ne_g_a : g ≠ a) (ne_b_a : b ≠ a) (ne_r_a : r ≠ a) (ne_u_a : u ≠ a) (ne_g_b : g ≠ b) (ne_r_b : r ≠ b) (ne_u_b : u ≠ b) (ne_g_r : g ≠ r) (ne_u_r : u ≠ r) (ne_g_u : g ≠ u) (q0 : ¬ w = (45 : Int32)) (q1 : ¬ (w - (48 : Int32)) < (0 : Int32)) (q2 : ¬ (9 : Int32) < (w - (48 : Int32))) (hvu : vu.length = 8784) :
    Con l (⟨"com/example/stackwise/stackwise/calendar/HourlyValues$Builder", "add", "(J[BII)I"⟩ : MethodName) prog_7_method_2_code 9 (some .int) [] rm_a0 rm_a0.cells rm_a0.slots Z #[(.ref a), (.long x1), (.ref g), (.int (0 : Int32)), (.int (1 : Int32))] h0 n0 (fun v h => ∃ y28 : List Value, v = some (.int (fSg (((0 : Int64) * (10 : Int64)) + (w - (48 : Int32)).toInt64))) ∧ Keep h0 h [a, b, r, u] ∧ Exa Z h a "com/example/stackwise/stackwise/calendar/HourlyValues$Builder" ∧ Fld Z h a "com/example/stackwise/stackwise/calendar/HourlyValues$Builder" "values" "Lcom/example/stackwise/stackwise/input/DecimalColumn$Builder;" (.ref b) ∧ Fld Z h a "com/example/stackwise/stackwise/calendar/HourlyValues$Builder" "first" "J" (.long x1) ∧ Fld Z h a "com/example/stackwise/stackwise/calendar/HourlyValues$Builder" "hours" "[J" .null ∧ Exa Z h b "com/example/stackwise/stackwise/input/DecimalColumn$Builder" ∧ Exa Z h r "com/example/stackwise/stackwise/input/Decimals$Reading" ∧ Fld Z h b "com/example/stackwise/stackwise/input/DecimalColumn$Builder" "reading" "Lcom/example/stackwise/stackwise/input/Decimals$Reading;" (.ref r) ∧ Fld Z h b "com/example/stackwise/stackwise/input/DecimalColumn$Builder" "unscaled" "[J" (.ref u) ∧ Fld Z h b "com/example/stackwise/stackwise/input/DecimalColumn$Builder" "scale" "I" (.int (0 : Int32)) ∧ Fld Z h b "com/example/stackwise/stackwise/input/DecimalColumn$Builder" "size" "I" (.int ((0 : Int32) + (1 : Int32))) ∧ Fld Z h b "com/example/stackwise/stackwise/input/DecimalColumn$Builder" "values" "[Ljava/math/BigDecimal;" .null ∧ Av Z h u .long y28 ∧ Fld Z h r "com/example/stackwise/stackwise/input/Decimals$Reading" "wide" "Ljava/math/BigDecimal;" .null ∧ Fld Z h r "com/example/stackwise/stackwise/input/Decimals$Reading" "scale" "I" (.int (0 : Int32)) ∧ Fld Z h r "com/example/stackwise/stackwise/input/Decimals$Reading" "unscaled" "J" (.long (((0 : Int64) * (10 : Int64)) + (w - (48 : Int32)).toInt64)) ∧ y28.length = 8784) := by
  refine Con.of (plainFor_of_name pn2) hn (fun m => ef_a0 m a x1 g) ?_
  intro p e s m below meth c s₀ hnm G0
  have K0 : Keep h0 h0 [a, b, r, u] := Keep.refl _ _
  have G1 := G0.aloadN (v := (.ref a)) (pc' := 1) d6_0 rfl
  have G2 := G1.getF (pc' := 4) (v := (.ref b)) (host := "") (Or.inl (hw _ (List.mem_of_getElem? (i := 33) rfl))) Via.refl F_a_values d6_1
  obtain ⟨v3, h3, ⟨ev3, K3⟩, g3⟩ := G2.callV (argsL := []) (rest := []) (pc' := 7) (k' := 0) (j' := 0) (cn7 l Z a0 hw b (0 : Int32) h0 n0 G2.size F_b_size) rfl E_b (hw _ (List.mem_of_getElem? (i := 40) rfl)) (hw _ (List.mem_of_getElem? (i := 41) rfl)) (hw _ (List.mem_of_getElem? (i := 43) rfl)) (hw _ (List.mem_of_getElem? (i := 42) rfl)) (hw _ (List.mem_of_getElem? (i := 12) rfl)) (hw _ (List.mem_of_getElem? (i := 44) rfl)) (by decide) d6_4 pd7 rfl (W := 0) rfl rfl (by decide) (by decide) (by decide) (by decide) rfl rfl rfl
  subst ev3
  have G3 := g3 [(.int (0 : Int32))] rfl
  have E4 : Exa Z h3 a "com/example/stackwise/stackwise/calendar/HourlyValues$Builder" := E_a.keep K3
  have F5 : Fld Z h3 a "com/example/stackwise/stackwise/calendar/HourlyValues$Builder" "values" "Lcom/example/stackwise/stackwise/input/DecimalColumn$Builder;" (.ref b) := F_a_values.keep K3 nin0
  have F6 : Fld Z h3 a "com/example/stackwise/stackwise/calendar/HourlyValues$Builder" "first" "J" (.long f0) := F_a_first.keep K3 nin0
  have F7 : Fld Z h3 a "com/example/stackwise/stackwise/calendar/HourlyValues$Builder" "hours" "[J" .null := F_a_hours.keep K3 nin0
  have E8 : Exa Z h3 b "com/example/stackwise/stackwise/input/DecimalColumn$Builder" := E_b.keep K3
  have F9 : Fld Z h3 b "com/example/stackwise/stackwise/input/DecimalColumn$Builder" "reading" "Lcom/example/stackwise/stackwise/input/Decimals$Reading;" (.ref r) := F_b_reading.keep K3 nin0
  have F10 : Fld Z h3 b "com/example/stackwise/stackwise/input/DecimalColumn$Builder" "unscaled" "[J" (.ref u) := F_b_unscaled.keep K3 nin0
  have F11 : Fld Z h3 b "com/example/stackwise/stackwise/input/DecimalColumn$Builder" "scale" "I" (.int (0 : Int32)) := F_b_scale.keep K3 nin0
  have F12 : Fld Z h3 b "com/example/stackwise/stackwise/input/DecimalColumn$Builder" "size" "I" (.int (0 : Int32)) := F_b_size.keep K3 nin0
  have F13 : Fld Z h3 b "com/example/stackwise/stackwise/input/DecimalColumn$Builder" "values" "[Ljava/math/BigDecimal;" .null := F_b_values.keep K3 nin0
  have E14 : Exa Z h3 r "com/example/stackwise/stackwise/input/Decimals$Reading" := E_r.keep K3
  have F15 : Fld Z h3 r "com/example/stackwise/stackwise/input/Decimals$Reading" "wide" "Ljava/math/BigDecimal;" .null := F_r_wide.keep K3 nin0
  have F16 : Fld Z h3 r "com/example/stackwise/stackwise/input/Decimals$Reading" "scale" "I" (.int w1) := F_r_scale.keep K3 nin0
  have F17 : Fld Z h3 r "com/example/stackwise/stackwise/input/Decimals$Reading" "unscaled" "J" (.long w2) := F_r_unscaled.keep K3 nin0
  have V18 : Av Z h3 u .long vu := V_u.keep K3 nin0
  have V19 : Av Z h3 g .byte [(.int w)] := V_g.keep K3 nin0
  have K20 : Keep h0 h3 [a, b, r, u] := K0.trans K3 all0
  have G21 := G3.istore (L' := #[.val (.ref a), .val (.long x1), .second, .val (.ref g), .val (.int (0 : Int32)), .val (.int (1 : Int32)), .val (.int (0 : Int32)), .unset, .unset]) (pc' := 9) d6_7 rfl
  have G22 := G21.aloadN (v := (.ref a)) (pc' := 10) d6_9 rfl
  have G23 := G22.getF (pc' := 13) (v := (.ref b)) (host := "") (Or.inl (hw _ (List.mem_of_getElem? (i := 33) rfl))) Via.refl F5 d6_10
  have G24 := G23.aloadN (v := (.ref g)) (pc' := 14) d6_13 rfl
  have G25 := G24.iload (v := (0 : Int32)) (pc' := 16) d6_14 rfl
  have G26 := G25.iload (v := (1 : Int32)) (pc' := 18) d6_16 rfl
  obtain ⟨v27, h27, ⟨y28, ev27, K27, F27_0, F27_1, F27_2, F27_3, F27_4, F27_5, F27_6, F27_7, F27_8, F27_9, F27_10, hx_y28⟩, g27⟩ := G26.callV (argsL := [(.ref g), (.int (0 : Int32)), (.int (1 : Int32))]) (rest := []) (pc' := 21) (k' := 0) (j' := 0) (cn8 l Z a0 hw b g r u w w1 w2 vu (0 : Int32) 0 h3 n0 G26.size E8 F9 F10 F11 F12 F13 E14 F15 F16 F17 V18 V19 g_b g_r g_u ne_g_b ne_r_b ne_u_b ne_g_r ne_u_r ne_g_u q0 q1 q2 (by decide) (by decide) hvu) rfl E8 (hw _ (List.mem_of_getElem? (i := 47) rfl)) (hw _ (List.mem_of_getElem? (i := 48) rfl)) (hw _ (List.mem_of_getElem? (i := 50) rfl)) (hw _ (List.mem_of_getElem? (i := 49) rfl)) (hw _ (List.mem_of_getElem? (i := 12) rfl)) (hw _ (List.mem_of_getElem? (i := 51) rfl)) (by decide) d6_18 pd4 rfl (W := 0) rfl rfl (by decide) (by decide) (by decide) (by decide) rfl rfl rfl
  subst ev27
  have G27 := g27 [(.int (fSg (((0 : Int64) * (10 : Int64)) + (w - (48 : Int32)).toInt64)))] rfl
  have E29 : Exa Z h27 a "com/example/stackwise/stackwise/calendar/HourlyValues$Builder" := E4.keep K27
  have F30 : Fld Z h27 a "com/example/stackwise/stackwise/calendar/HourlyValues$Builder" "values" "Lcom/example/stackwise/stackwise/input/DecimalColumn$Builder;" (.ref b) := F5.keep K27 (ninS (Ne.symm ne_b_a) (ninS (Ne.symm ne_r_a) (ninS (Ne.symm ne_u_a) nin0)))
  have F31 : Fld Z h27 a "com/example/stackwise/stackwise/calendar/HourlyValues$Builder" "first" "J" (.long f0) := F6.keep K27 (ninS (Ne.symm ne_b_a) (ninS (Ne.symm ne_r_a) (ninS (Ne.symm ne_u_a) nin0)))
  have F32 : Fld Z h27 a "com/example/stackwise/stackwise/calendar/HourlyValues$Builder" "hours" "[J" .null := F7.keep K27 (ninS (Ne.symm ne_b_a) (ninS (Ne.symm ne_r_a) (ninS (Ne.symm ne_u_a) nin0)))
  have E33 : Exa Z h27 b "com/example/stackwise/stackwise/input/DecimalColumn$Builder" := E8.keep K27
  have E34 : Exa Z h27 r "com/example/stackwise/stackwise/input/Decimals$Reading" := E14.keep K27
  have V35 : Av Z h27 g .byte [(.int w)] := V19.keep K27 (ninS ne_g_b (ninS ne_g_r (ninS ne_g_u nin0)))
  have K36 : Keep h0 h27 [a, b, r, u] := K20.trans K27 (allS (Or.inl (List.mem_of_getElem? (i := 1) rfl)) (allS (Or.inl (List.mem_of_getElem? (i := 2) rfl)) (allS (Or.inl (List.mem_of_getElem? (i := 3) rfl)) all0)))
  have G37 := G27.istore (L' := #[.val (.ref a), .val (.long x1), .second, .val (.ref g), .val (.int (0 : Int32)), .val (.int (1 : Int32)), .val (.int (0 : Int32)), .val (.int (fSg (((0 : Int64) * (10 : Int64)) + (w - (48 : Int32)).toInt64))), .unset]) (pc' := 23) d6_21 rfl
  have G38 := G37.iload (v := (0 : Int32)) (pc' := 25) d6_23 rfl
  have G39 := G38.ifN d6_25 28 (Jvm.Free.XT.i0_ne_f (by decide))
  have G40 := G39.aloadN (v := (.ref a)) (pc' := 29) d6_28 rfl
  have G41 := G40.lloadN (v := x1) (pc' := 30) d6_29 rfl
  obtain ⟨h42, W42, G42⟩ := G41.putF (v := (.long x1)) (pc' := 33) (host := "") (Or.inl (hw _ (List.mem_of_getElem? (i := 95) rfl))) Via.refl F31 E29 g_a (Or.inl (hw _ (List.mem_of_getElem? (i := 96) rfl))) (hw _ (List.mem_of_getElem? (i := 2) rfl)) (ty := .long) (by decide) rfl rfl d6_30
  have E43 : Exa Z h42 a "com/example/stackwise/stackwise/calendar/HourlyValues$Builder" := E29.wr W42
  have F44 : Fld Z h42 a "com/example/stackwise/stackwise/calendar/HourlyValues$Builder" "values" "Lcom/example/stackwise/stackwise/input/DecimalColumn$Builder;" (.ref b) := F30.other W42 (Or.inr (slot_ne (Or.inr (hw _ (List.mem_of_getElem? (i := 34) rfl))) (Or.inl (hw _ (List.mem_of_getElem? (i := 96) rfl))) (by decide) (t := (.object "com/example/stackwise/stackwise/input/DecimalColumn$Builder")) (t' := .long) (by decide) (by decide)))
  have F45 : Fld Z h42 a "com/example/stackwise/stackwise/calendar/HourlyValues$Builder" "first" "J" (.long x1) := F31.same W42
  have F46 : Fld Z h42 a "com/example/stackwise/stackwise/calendar/HourlyValues$Builder" "hours" "[J" .null := F32.other W42 (Or.inr (slot_ne (Or.inl (hw _ (List.mem_of_getElem? (i := 98) rfl))) (Or.inl (hw _ (List.mem_of_getElem? (i := 96) rfl))) (by decide) (t := (.array .long)) (t' := .long) (by decide) (by decide)))
  have E47 : Exa Z h42 b "com/example/stackwise/stackwise/input/DecimalColumn$Builder" := F27_0.wr W42
  have E48 : Exa Z h42 r "com/example/stackwise/stackwise/input/Decimals$Reading" := F27_6.wr W42
  have V49 : Av Z h42 g .byte [(.int w)] := V35.other W42 ne_g_a
  have K50 : Keep h0 h42 [a, b, r, u] := K36.wr W42 (Or.inl (List.mem_of_getElem? (i := 0) rfl))
  have F51 : Fld Z h42 b "com/example/stackwise/stackwise/input/DecimalColumn$Builder" "reading" "Lcom/example/stackwise/stackwise/input/Decimals$Reading;" (.ref r) := F27_1.other W42 (Or.inl ne_b_a)
  have F52 : Fld Z h42 b "com/example/stackwise/stackwise/input/DecimalColumn$Builder" "unscaled" "[J" (.ref u) := F27_2.other W42 (Or.inl ne_b_a)
  have F53 : Fld Z h42 b "com/example/stackwise/stackwise/input/DecimalColumn$Builder" "scale" "I" (.int (0 : Int32)) := F27_3.other W42 (Or.inl ne_b_a)
  have F54 : Fld Z h42 b "com/example/stackwise/stackwise/input/DecimalColumn$Builder" "size" "I" (.int ((0 : Int32) + (1 : Int32))) := F27_4.other W42 (Or.inl ne_b_a)
  have F55 : Fld Z h42 b "com/example/stackwise/stackwise/input/DecimalColumn$Builder" "values" "[Ljava/math/BigDecimal;" .null := F27_5.other W42 (Or.inl ne_b_a)
  have V56 : Av Z h42 u .long y28 := F27_7.other W42 ne_u_a
  have F57 : Fld Z h42 r "com/example/stackwise/stackwise/input/Decimals$Reading" "wide" "Ljava/math/BigDecimal;" .null := F27_8.other W42 (Or.inl ne_r_a)
  have F58 : Fld Z h42 r "com/example/stackwise/stackwise/input/Decimals$Reading" "scale" "I" (.int (0 : Int32)) := F27_9.other W42 (Or.inl ne_r_a)
  have F59 : Fld Z h42 r "com/example/stackwise/stackwise/input/Decimals$Reading" "unscaled" "J" (.long (((0 : Int64) * (10 : Int64)) + (w - (48 : Int32)).toInt64)) := F27_10.other W42 (Or.inl ne_r_a)
  have G60 := G42.goto d6_33 103
  have G61 := G60.aloadN (v := (.ref a)) (pc' := 104) d6_103 rfl
  have G62 := G61.getF (pc' := 107) (v := .null) (host := "") (Or.inl (hw _ (List.mem_of_getElem? (i := 97) rfl))) Via.refl F46 d6_104
  have G63 := G62.ifnullY d6_107 143
  have G64 := G63.iload (v := (fSg (((0 : Int64) * (10 : Int64)) + (w - (48 : Int32)).toInt64))) (pc' := 145) d6_143 rfl
  exact G64.retI d6_145 rfl ⟨y28, rfl, K50, E43, F44, F45, F46, E47, E48, F51, F52, F53, F54, F55, V56, F57, F58, F59, hx_y28⟩
theorem ef_e1 (m : MethodId) (a : Addr) (x1 : Int64) (g : Addr) : entryFrame m #[(.ref a), (.long x1), (.ref g), (.int (0 : Int32)), (.int (1 : Int32))] 9 = mkF m 0 #[.val (.ref a), .val (.long x1), .second, .val (.ref g), .val (.int (0 : Int32)), .val (.int (1 : Int32)), .unset, .unset, .unset] [] := by first | (simp [entryFrame, mkF, argsToLocals, Value.category]; done) | rfl
def rm_e1 : Room := { frames := 3, cells := 0, slots := 0, locals := 52 }
set_option maxRecDepth 65536 in
set_option maxHeartbeats 40000000 in
theorem cn_e1 (l : Launch) (Z : State) (a0 : Array Value) (hw : ∀ d ∈ tables_1, d.before a0 Z = true) (a : Addr) (x1 : Int64) (g : Addr) (b : Addr) (r : Addr) (u : Addr) (w : Int32) (w1 : Int32) (w2 : Int64) (vu : List Value) (f0 : Int64) (h0 : Heap) (n0 : Nat) (hn : n0 ≤ h0.size) (E_a : Exa Z h0 a "com/example/stackwise/stackwise/calendar/HourlyValues$Builder") (F_a_values : Fld Z h0 a "com/example/stackwise/stackwise/calendar/HourlyValues$Builder" "values" "Lcom/example/stackwise/stackwise/input/DecimalColumn$Builder;" (.ref b)) (F_a_first : Fld Z h0 a "com/example/stackwise/stackwise/calendar/HourlyValues$Builder" "first" "J" (.long f0)) (F_a_hours : Fld Z h0 a "com/example/stackwise/stackwise/calendar/HourlyValues$Builder" "hours" "[J" .null) (E_b : Exa Z h0 b "com/example/stackwise/stackwise/input/DecimalColumn$Builder") (F_b_reading : Fld Z h0 b "com/example/stackwise/stackwise/input/DecimalColumn$Builder" "reading" "Lcom/example/stackwise/stackwise/input/Decimals$Reading;" (.ref r)) (F_b_unscaled : Fld Z h0 b "com/example/stackwise/stackwise/input/DecimalColumn$Builder" "unscaled" "[J" (.ref u)) (F_b_scale : Fld Z h0 b "com/example/stackwise/stackwise/input/DecimalColumn$Builder" "scale" "I" (.int (0 : Int32))) (F_b_size : Fld Z h0 b "com/example/stackwise/stackwise/input/DecimalColumn$Builder" "size" "I" (.int ((0 : Int32) + (1 : Int32)))) (F_b_values : Fld Z h0 b "com/example/stackwise/stackwise/input/DecimalColumn$Builder" "values" "[Ljava/math/BigDecimal;" .null) (E_r : Exa Z h0 r "com/example/stackwise/stackwise/input/Decimals$Reading") (F_r_wide : Fld Z h0 r "com/example/stackwise/stackwise/input/Decimals$Reading" "wide" "Ljava/math/BigDecimal;" .null) (F_r_scale : Fld Z h0 r "com/example/stackwise/stackwise/input/Decimals$Reading" "scale" "I" (.int w1)) (F_r_unscaled : Fld Z h0 r "com/example/stackwise/stackwise/input/Decimals$Reading" "unscaled" "J" (.long w2)) (V_u : Av Z h0 u .long vu) (V_g : Av Z h0 g .byte [(.int w)]) (g_a : n0 ≤ a) (g_b : n0 ≤ b) (g_r : n0 ≤ r) (g_u : n0 ≤ u) (ne_g_a : g ≠ a) (ne_b_a : b ≠ a) (ne_r_a : r ≠ a) (ne_u_a : u ≠ a) (ne_g_b : g ≠ b) (ne_r_b : r ≠ b) (ne_u_b : u ≠ b) (ne_g_r : g ≠ r) (ne_u_r : u ≠ r) (ne_g_u : g ≠ u) (q0 : ¬ w = (45 : Int32)) (q1 : ¬ (w - (48 : Int32)) < (0 : Int32)) (q2 : ¬ (9 : Int32) < (w - (48 : Int32))) (hvu : vu.length = 8784) (q3 : x1 = (f0 + ((0 : Int32) + (1 : Int32)).toInt64)) :
    Con l (⟨"com/example/stackwise/stackwise/calendar/HourlyValues$Builder", "add", "(J[BII)I"⟩ : MethodName) prog_7_method_2_code 9 (some .int) [] rm_e1 rm_e1.cells rm_e1.slots Z #[(.ref a), (.long x1), (.ref g), (.int (0 : Int32)), (.int (1 : Int32))] h0 n0 (fun v h => ∃ y28 : List Value, v = some (.int (fSg (((0 : Int64) * (10 : Int64)) + (w - (48 : Int32)).toInt64))) ∧ Keep h0 h [a, b, r, u] ∧ Exa Z h a "com/example/stackwise/stackwise/calendar/HourlyValues$Builder" ∧ Fld Z h a "com/example/stackwise/stackwise/calendar/HourlyValues$Builder" "values" "Lcom/example/stackwise/stackwise/input/DecimalColumn$Builder;" (.ref b) ∧ Fld Z h a "com/example/stackwise/stackwise/calendar/HourlyValues$Builder" "first" "J" (.long f0) ∧ Fld Z h a "com/example/stackwise/stackwise/calendar/HourlyValues$Builder" "hours" "[J" .null ∧ Exa Z h b "com/example/stackwise/stackwise/input/DecimalColumn$Builder" ∧ Exa Z h r "com/example/stackwise/stackwise/input/Decimals$Reading" ∧ Fld Z h b "com/example/stackwise/stackwise/input/DecimalColumn$Builder" "reading" "Lcom/example/stackwise/stackwise/input/Decimals$Reading;" (.ref r) ∧ Fld Z h b "com/example/stackwise/stackwise/input/DecimalColumn$Builder" "unscaled" "[J" (.ref u) ∧ Fld Z h b "com/example/stackwise/stackwise/input/DecimalColumn$Builder" "scale" "I" (.int (0 : Int32)) ∧ Fld Z h b "com/example/stackwise/stackwise/input/DecimalColumn$Builder" "size" "I" (.int (((0 : Int32) + (1 : Int32)) + (1 : Int32))) ∧ Fld Z h b "com/example/stackwise/stackwise/input/DecimalColumn$Builder" "values" "[Ljava/math/BigDecimal;" .null ∧ Av Z h u .long y28 ∧ Fld Z h r "com/example/stackwise/stackwise/input/Decimals$Reading" "wide" "Ljava/math/BigDecimal;" .null ∧ Fld Z h r "com/example/stackwise/stackwise/input/Decimals$Reading" "scale" "I" (.int (0 : Int32)) ∧ Fld Z h r "com/example/stackwise/stackwise/input/Decimals$Reading" "unscaled" "J" (.long (((0 : Int64) * (10 : Int64)) + (w - (48 : Int32)).toInt64)) ∧ y28.length = 8784) := by
  refine Con.of (plainFor_of_name pn2) hn (fun m => ef_e1 m a x1 g) ?_
  intro p e s m below meth c s₀ hnm G0
  have K0 : Keep h0 h0 [a, b, r, u] := Keep.refl _ _
  have G1 := G0.aloadN (v := (.ref a)) (pc' := 1) d6_0 rfl
  have G2 := G1.getF (pc' := 4) (v := (.ref b)) (host := "") (Or.inl (hw _ (List.mem_of_getElem? (i := 33) rfl))) Via.refl F_a_values d6_1
  obtain ⟨v3, h3, ⟨ev3, K3⟩, g3⟩ := G2.callV (argsL := []) (rest := []) (pc' := 7) (k' := 0) (j' := 0) (cn7 l Z a0 hw b ((0 : Int32) + (1 : Int32)) h0 n0 G2.size F_b_size) rfl E_b (hw _ (List.mem_of_getElem? (i := 40) rfl)) (hw _ (List.mem_of_getElem? (i := 41) rfl)) (hw _ (List.mem_of_getElem? (i := 43) rfl)) (hw _ (List.mem_of_getElem? (i := 42) rfl)) (hw _ (List.mem_of_getElem? (i := 12) rfl)) (hw _ (List.mem_of_getElem? (i := 44) rfl)) (by decide) d6_4 pd7 rfl (W := 0) rfl rfl (by decide) (by decide) (by decide) (by decide) rfl rfl rfl
  subst ev3
  have G3 := g3 [(.int ((0 : Int32) + (1 : Int32)))] rfl
  have E4 : Exa Z h3 a "com/example/stackwise/stackwise/calendar/HourlyValues$Builder" := E_a.keep K3
  have F5 : Fld Z h3 a "com/example/stackwise/stackwise/calendar/HourlyValues$Builder" "values" "Lcom/example/stackwise/stackwise/input/DecimalColumn$Builder;" (.ref b) := F_a_values.keep K3 nin0
  have F6 : Fld Z h3 a "com/example/stackwise/stackwise/calendar/HourlyValues$Builder" "first" "J" (.long f0) := F_a_first.keep K3 nin0
  have F7 : Fld Z h3 a "com/example/stackwise/stackwise/calendar/HourlyValues$Builder" "hours" "[J" .null := F_a_hours.keep K3 nin0
  have E8 : Exa Z h3 b "com/example/stackwise/stackwise/input/DecimalColumn$Builder" := E_b.keep K3
  have F9 : Fld Z h3 b "com/example/stackwise/stackwise/input/DecimalColumn$Builder" "reading" "Lcom/example/stackwise/stackwise/input/Decimals$Reading;" (.ref r) := F_b_reading.keep K3 nin0
  have F10 : Fld Z h3 b "com/example/stackwise/stackwise/input/DecimalColumn$Builder" "unscaled" "[J" (.ref u) := F_b_unscaled.keep K3 nin0
  have F11 : Fld Z h3 b "com/example/stackwise/stackwise/input/DecimalColumn$Builder" "scale" "I" (.int (0 : Int32)) := F_b_scale.keep K3 nin0
  have F12 : Fld Z h3 b "com/example/stackwise/stackwise/input/DecimalColumn$Builder" "size" "I" (.int ((0 : Int32) + (1 : Int32))) := F_b_size.keep K3 nin0
  have F13 : Fld Z h3 b "com/example/stackwise/stackwise/input/DecimalColumn$Builder" "values" "[Ljava/math/BigDecimal;" .null := F_b_values.keep K3 nin0
  have E14 : Exa Z h3 r "com/example/stackwise/stackwise/input/Decimals$Reading" := E_r.keep K3
  have F15 : Fld Z h3 r "com/example/stackwise/stackwise/input/Decimals$Reading" "wide" "Ljava/math/BigDecimal;" .null := F_r_wide.keep K3 nin0
  have F16 : Fld Z h3 r "com/example/stackwise/stackwise/input/Decimals$Reading" "scale" "I" (.int w1) := F_r_scale.keep K3 nin0
  have F17 : Fld Z h3 r "com/example/stackwise/stackwise/input/Decimals$Reading" "unscaled" "J" (.long w2) := F_r_unscaled.keep K3 nin0
  have V18 : Av Z h3 u .long vu := V_u.keep K3 nin0
  have V19 : Av Z h3 g .byte [(.int w)] := V_g.keep K3 nin0
  have K20 : Keep h0 h3 [a, b, r, u] := K0.trans K3 all0
  have G21 := G3.istore (L' := #[.val (.ref a), .val (.long x1), .second, .val (.ref g), .val (.int (0 : Int32)), .val (.int (1 : Int32)), .val (.int ((0 : Int32) + (1 : Int32))), .unset, .unset]) (pc' := 9) d6_7 rfl
  have G22 := G21.aloadN (v := (.ref a)) (pc' := 10) d6_9 rfl
  have G23 := G22.getF (pc' := 13) (v := (.ref b)) (host := "") (Or.inl (hw _ (List.mem_of_getElem? (i := 33) rfl))) Via.refl F5 d6_10
  have G24 := G23.aloadN (v := (.ref g)) (pc' := 14) d6_13 rfl
  have G25 := G24.iload (v := (0 : Int32)) (pc' := 16) d6_14 rfl
  have G26 := G25.iload (v := (1 : Int32)) (pc' := 18) d6_16 rfl
  obtain ⟨v27, h27, ⟨y28, ev27, K27, F27_0, F27_1, F27_2, F27_3, F27_4, F27_5, F27_6, F27_7, F27_8, F27_9, F27_10, hx_y28⟩, g27⟩ := G26.callV (argsL := [(.ref g), (.int (0 : Int32)), (.int (1 : Int32))]) (rest := []) (pc' := 21) (k' := 0) (j' := 0) (cn8 l Z a0 hw b g r u w w1 w2 vu ((0 : Int32) + (1 : Int32)) 1 h3 n0 G26.size E8 F9 F10 F11 F12 F13 E14 F15 F16 F17 V18 V19 g_b g_r g_u ne_g_b ne_r_b ne_u_b ne_g_r ne_u_r ne_g_u q0 q1 q2 (by decide) (by decide) hvu) rfl E8 (hw _ (List.mem_of_getElem? (i := 47) rfl)) (hw _ (List.mem_of_getElem? (i := 48) rfl)) (hw _ (List.mem_of_getElem? (i := 50) rfl)) (hw _ (List.mem_of_getElem? (i := 49) rfl)) (hw _ (List.mem_of_getElem? (i := 12) rfl)) (hw _ (List.mem_of_getElem? (i := 51) rfl)) (by decide) d6_18 pd4 rfl (W := 0) rfl rfl (by decide) (by decide) (by decide) (by decide) rfl rfl rfl
  subst ev27
  have G27 := g27 [(.int (fSg (((0 : Int64) * (10 : Int64)) + (w - (48 : Int32)).toInt64)))] rfl
  have E29 : Exa Z h27 a "com/example/stackwise/stackwise/calendar/HourlyValues$Builder" := E4.keep K27
  have F30 : Fld Z h27 a "com/example/stackwise/stackwise/calendar/HourlyValues$Builder" "values" "Lcom/example/stackwise/stackwise/input/DecimalColumn$Builder;" (.ref b) := F5.keep K27 (ninS (Ne.symm ne_b_a) (ninS (Ne.symm ne_r_a) (ninS (Ne.symm ne_u_a) nin0)))
  have F31 : Fld Z h27 a "com/example/stackwise/stackwise/calendar/HourlyValues$Builder" "first" "J" (.long f0) := F6.keep K27 (ninS (Ne.symm ne_b_a) (ninS (Ne.symm ne_r_a) (ninS (Ne.symm ne_u_a) nin0)))
  have F32 : Fld Z h27 a "com/example/stackwise/stackwise/calendar/HourlyValues$Builder" "hours" "[J" .null := F7.keep K27 (ninS (Ne.symm ne_b_a) (ninS (Ne.symm ne_r_a) (ninS (Ne.symm ne_u_a) nin0)))
  have E33 : Exa Z h27 b "com/example/stackwise/stackwise/input/DecimalColumn$Builder" := E8.keep K27
  have E34 : Exa Z h27 r "com/example/stackwise/stackwise/input/Decimals$Reading" := E14.keep K27
  have V35 : Av Z h27 g .byte [(.int w)] := V19.keep K27 (ninS ne_g_b (ninS ne_g_r (ninS ne_g_u nin0)))
  have K36 : Keep h0 h27 [a, b, r, u] := K20.trans K27 (allS (Or.inl (List.mem_of_getElem? (i := 1) rfl)) (allS (Or.inl (List.mem_of_getElem? (i := 2) rfl)) (allS (Or.inl (List.mem_of_getElem? (i := 3) rfl)) all0)))
  have G37 := G27.istore (L' := #[.val (.ref a), .val (.long x1), .second, .val (.ref g), .val (.int (0 : Int32)), .val (.int (1 : Int32)), .val (.int ((0 : Int32) + (1 : Int32))), .val (.int (fSg (((0 : Int64) * (10 : Int64)) + (w - (48 : Int32)).toInt64))), .unset]) (pc' := 23) d6_21 rfl
  have G38 := G37.iload (v := ((0 : Int32) + (1 : Int32))) (pc' := 25) d6_23 rfl
  have G39 := G38.ifY d6_25 36 (Jvm.Free.XT.i0_ne_t (by decide))
  have G40 := G39.aloadN (v := (.ref a)) (pc' := 37) d6_36 rfl
  have G41 := G40.getF (pc' := 40) (v := .null) (host := "") (Or.inl (hw _ (List.mem_of_getElem? (i := 97) rfl))) Via.refl F32 d6_37
  have G42 := G41.ifnonnullN d6_40 43
  have G43 := G42.lloadN (v := x1) (pc' := 44) d6_43 rfl
  have G44 := G43.aloadN (v := (.ref a)) (pc' := 45) d6_44 rfl
  have G45 := G44.getF (pc' := 48) (v := (.long f0)) (host := "") (Or.inl (hw _ (List.mem_of_getElem? (i := 95) rfl))) Via.refl F31 d6_45
  have G46 := G45.iload (v := ((0 : Int32) + (1 : Int32))) (pc' := 50) d6_48 rfl
  have G47 := G46.i2l (pc' := 51) d6_50
  have G48 := G47.ladd (pc' := 52) d6_51
  have G49 := G48.lcmp (pc' := 53) d6_52
  have G50 := G49.ifY d6_53 103 (Jvm.Free.XT.ll_eq_t q3)
  have G51 := G50.aloadN (v := (.ref a)) (pc' := 104) d6_103 rfl
  have G52 := G51.getF (pc' := 107) (v := .null) (host := "") (Or.inl (hw _ (List.mem_of_getElem? (i := 97) rfl))) Via.refl F32 d6_104
  have G53 := G52.ifnullY d6_107 143
  have G54 := G53.iload (v := (fSg (((0 : Int64) * (10 : Int64)) + (w - (48 : Int32)).toInt64))) (pc' := 145) d6_143 rfl
  exact G54.retI d6_145 rfl ⟨y28, rfl, K36, E29, F30, F31, F32, F27_0, F27_6, F27_1, F27_2, F27_3, F27_4, F27_5, F27_7, F27_8, F27_9, F27_10, hx_y28⟩
theorem ef_n1 (m : MethodId) (a : Addr) (x1 : Int64) (g : Addr) : entryFrame m #[(.ref a), (.long x1), (.ref g), (.int (0 : Int32)), (.int (1 : Int32))] 9 = mkF m 0 #[.val (.ref a), .val (.long x1), .second, .val (.ref g), .val (.int (0 : Int32)), .val (.int (1 : Int32)), .unset, .unset, .unset] [] := by first | (simp [entryFrame, mkF, argsToLocals, Value.category]; done) | rfl
def rm_n1 : Room := { frames := 3, cells := 1, slots := 8784, locals := 52 }
set_option maxRecDepth 65536 in
set_option maxHeartbeats 40000000 in
theorem cn_n1 (l : Launch) (Z : State) (a0 : Array Value) (hw : ∀ d ∈ tables_1, d.before a0 Z = true) (a : Addr) (x1 : Int64) (g : Addr) (b : Addr) (r : Addr) (u : Addr) (w : Int32) (w1 : Int32) (w2 : Int64) (vu : List Value) (f0 : Int64) (h0 : Heap) (n0 : Nat) (hn : n0 ≤ h0.size) (E_a : Exa Z h0 a "com/example/stackwise/stackwise/calendar/HourlyValues$Builder") (F_a_values : Fld Z h0 a "com/example/stackwise/stackwise/calendar/HourlyValues$Builder" "values" "Lcom/example/stackwise/stackwise/input/DecimalColumn$Builder;" (.ref b)) (F_a_first : Fld Z h0 a "com/example/stackwise/stackwise/calendar/HourlyValues$Builder" "first" "J" (.long f0)) (F_a_hours : Fld Z h0 a "com/example/stackwise/stackwise/calendar/HourlyValues$Builder" "hours" "[J" .null) (E_b : Exa Z h0 b "com/example/stackwise/stackwise/input/DecimalColumn$Builder") (F_b_reading : Fld Z h0 b "com/example/stackwise/stackwise/input/DecimalColumn$Builder" "reading" "Lcom/example/stackwise/stackwise/input/Decimals$Reading;" (.ref r)) (F_b_unscaled : Fld Z h0 b "com/example/stackwise/stackwise/input/DecimalColumn$Builder" "unscaled" "[J" (.ref u)) (F_b_scale : Fld Z h0 b "com/example/stackwise/stackwise/input/DecimalColumn$Builder" "scale" "I" (.int (0 : Int32))) (F_b_size : Fld Z h0 b "com/example/stackwise/stackwise/input/DecimalColumn$Builder" "size" "I" (.int ((0 : Int32) + (1 : Int32)))) (F_b_values : Fld Z h0 b "com/example/stackwise/stackwise/input/DecimalColumn$Builder" "values" "[Ljava/math/BigDecimal;" .null) (E_r : Exa Z h0 r "com/example/stackwise/stackwise/input/Decimals$Reading") (F_r_wide : Fld Z h0 r "com/example/stackwise/stackwise/input/Decimals$Reading" "wide" "Ljava/math/BigDecimal;" .null) (F_r_scale : Fld Z h0 r "com/example/stackwise/stackwise/input/Decimals$Reading" "scale" "I" (.int w1)) (F_r_unscaled : Fld Z h0 r "com/example/stackwise/stackwise/input/Decimals$Reading" "unscaled" "J" (.long w2)) (V_u : Av Z h0 u .long vu) (V_g : Av Z h0 g .byte [(.int w)]) (g_a : n0 ≤ a) (g_b : n0 ≤ b) (g_r : n0 ≤ r) (g_u : n0 ≤ u) (ne_g_a : g ≠ a) (ne_b_a : b ≠ a) (ne_r_a : r ≠ a) (ne_u_a : u ≠ a) (ne_g_b : g ≠ b) (ne_r_b : r ≠ b) (ne_u_b : u ≠ b) (ne_g_r : g ≠ r) (ne_u_r : u ≠ r) (ne_g_u : g ≠ u) (q0 : ¬ w = (45 : Int32)) (q1 : ¬ (w - (48 : Int32)) < (0 : Int32)) (q2 : ¬ (9 : Int32) < (w - (48 : Int32))) (hvu : vu.length = 8784) (q3 : ¬ x1 = (f0 + ((0 : Int32) + (1 : Int32)).toInt64)) :
    Con l (⟨"com/example/stackwise/stackwise/calendar/HourlyValues$Builder", "add", "(J[BII)I"⟩ : MethodName) prog_7_method_2_code 9 (some .int) [] rm_n1 rm_n1.cells rm_n1.slots Z #[(.ref a), (.long x1), (.ref g), (.int (0 : Int32)), (.int (1 : Int32))] h0 n0 (fun v h => ∃ a57 : Addr, ∃ y28 : List Value, v = some (.int (fSg (((0 : Int64) * (10 : Int64)) + (w - (48 : Int32)).toInt64))) ∧ Keep h0 h [a, b, r, u] ∧ h0.size ≤ a57 ∧ Exa Z h a "com/example/stackwise/stackwise/calendar/HourlyValues$Builder" ∧ Fld Z h a "com/example/stackwise/stackwise/calendar/HourlyValues$Builder" "values" "Lcom/example/stackwise/stackwise/input/DecimalColumn$Builder;" (.ref b) ∧ Fld Z h a "com/example/stackwise/stackwise/calendar/HourlyValues$Builder" "first" "J" (.long f0) ∧ Fld Z h a "com/example/stackwise/stackwise/calendar/HourlyValues$Builder" "hours" "[J" (.ref a57) ∧ Exa Z h b "com/example/stackwise/stackwise/input/DecimalColumn$Builder" ∧ Exa Z h r "com/example/stackwise/stackwise/input/Decimals$Reading" ∧ Fld Z h b "com/example/stackwise/stackwise/input/DecimalColumn$Builder" "reading" "Lcom/example/stackwise/stackwise/input/Decimals$Reading;" (.ref r) ∧ Fld Z h b "com/example/stackwise/stackwise/input/DecimalColumn$Builder" "unscaled" "[J" (.ref u) ∧ Fld Z h b "com/example/stackwise/stackwise/input/DecimalColumn$Builder" "scale" "I" (.int (0 : Int32)) ∧ Fld Z h b "com/example/stackwise/stackwise/input/DecimalColumn$Builder" "size" "I" (.int (((0 : Int32) + (1 : Int32)) + (1 : Int32))) ∧ Fld Z h b "com/example/stackwise/stackwise/input/DecimalColumn$Builder" "values" "[Ljava/math/BigDecimal;" .null ∧ Av Z h u .long y28 ∧ Fld Z h r "com/example/stackwise/stackwise/input/Decimals$Reading" "wide" "Ljava/math/BigDecimal;" .null ∧ Fld Z h r "com/example/stackwise/stackwise/input/Decimals$Reading" "scale" "I" (.int (0 : Int32)) ∧ Fld Z h r "com/example/stackwise/stackwise/input/Decimals$Reading" "unscaled" "J" (.long (((0 : Int64) * (10 : Int64)) + (w - (48 : Int32)).toInt64)) ∧ Av Z h a57 .long (List.set (List.set (List.replicate 8784 (.long (0 : Int64))) 0 (.long (f0 + (0 : Int32).toInt64))) 1 (.long x1)) ∧ y28.length = 8784) := by
  refine Con.of (plainFor_of_name pn2) hn (fun m => ef_n1 m a x1 g) ?_
  intro p e s m below meth c s₀ hnm G0
  have K0 : Keep h0 h0 [a, b, r, u] := Keep.refl _ _
  have G1 := G0.aloadN (v := (.ref a)) (pc' := 1) d6_0 rfl
  have G2 := G1.getF (pc' := 4) (v := (.ref b)) (host := "") (Or.inl (hw _ (List.mem_of_getElem? (i := 33) rfl))) Via.refl F_a_values d6_1
  obtain ⟨v3, h3, ⟨ev3, K3⟩, g3⟩ := G2.callV (argsL := []) (rest := []) (pc' := 7) (k' := 0) (j' := 0) (cn7 l Z a0 hw b ((0 : Int32) + (1 : Int32)) h0 n0 G2.size F_b_size) rfl E_b (hw _ (List.mem_of_getElem? (i := 40) rfl)) (hw _ (List.mem_of_getElem? (i := 41) rfl)) (hw _ (List.mem_of_getElem? (i := 43) rfl)) (hw _ (List.mem_of_getElem? (i := 42) rfl)) (hw _ (List.mem_of_getElem? (i := 12) rfl)) (hw _ (List.mem_of_getElem? (i := 44) rfl)) (by decide) d6_4 pd7 rfl (W := 0) rfl rfl (by decide) (by decide) (by decide) (by decide) rfl rfl rfl
  subst ev3
  have G3 := g3 [(.int ((0 : Int32) + (1 : Int32)))] rfl
  have E4 : Exa Z h3 a "com/example/stackwise/stackwise/calendar/HourlyValues$Builder" := E_a.keep K3
  have F5 : Fld Z h3 a "com/example/stackwise/stackwise/calendar/HourlyValues$Builder" "values" "Lcom/example/stackwise/stackwise/input/DecimalColumn$Builder;" (.ref b) := F_a_values.keep K3 nin0
  have F6 : Fld Z h3 a "com/example/stackwise/stackwise/calendar/HourlyValues$Builder" "first" "J" (.long f0) := F_a_first.keep K3 nin0
  have F7 : Fld Z h3 a "com/example/stackwise/stackwise/calendar/HourlyValues$Builder" "hours" "[J" .null := F_a_hours.keep K3 nin0
  have E8 : Exa Z h3 b "com/example/stackwise/stackwise/input/DecimalColumn$Builder" := E_b.keep K3
  have F9 : Fld Z h3 b "com/example/stackwise/stackwise/input/DecimalColumn$Builder" "reading" "Lcom/example/stackwise/stackwise/input/Decimals$Reading;" (.ref r) := F_b_reading.keep K3 nin0
  have F10 : Fld Z h3 b "com/example/stackwise/stackwise/input/DecimalColumn$Builder" "unscaled" "[J" (.ref u) := F_b_unscaled.keep K3 nin0
  have F11 : Fld Z h3 b "com/example/stackwise/stackwise/input/DecimalColumn$Builder" "scale" "I" (.int (0 : Int32)) := F_b_scale.keep K3 nin0
  have F12 : Fld Z h3 b "com/example/stackwise/stackwise/input/DecimalColumn$Builder" "size" "I" (.int ((0 : Int32) + (1 : Int32))) := F_b_size.keep K3 nin0
  have F13 : Fld Z h3 b "com/example/stackwise/stackwise/input/DecimalColumn$Builder" "values" "[Ljava/math/BigDecimal;" .null := F_b_values.keep K3 nin0
  have E14 : Exa Z h3 r "com/example/stackwise/stackwise/input/Decimals$Reading" := E_r.keep K3
  have F15 : Fld Z h3 r "com/example/stackwise/stackwise/input/Decimals$Reading" "wide" "Ljava/math/BigDecimal;" .null := F_r_wide.keep K3 nin0
  have F16 : Fld Z h3 r "com/example/stackwise/stackwise/input/Decimals$Reading" "scale" "I" (.int w1) := F_r_scale.keep K3 nin0
  have F17 : Fld Z h3 r "com/example/stackwise/stackwise/input/Decimals$Reading" "unscaled" "J" (.long w2) := F_r_unscaled.keep K3 nin0
  have V18 : Av Z h3 u .long vu := V_u.keep K3 nin0
  have V19 : Av Z h3 g .byte [(.int w)] := V_g.keep K3 nin0
  have K20 : Keep h0 h3 [a, b, r, u] := K0.trans K3 all0
  have G21 := G3.istore (L' := #[.val (.ref a), .val (.long x1), .second, .val (.ref g), .val (.int (0 : Int32)), .val (.int (1 : Int32)), .val (.int ((0 : Int32) + (1 : Int32))), .unset, .unset]) (pc' := 9) d6_7 rfl
  have G22 := G21.aloadN (v := (.ref a)) (pc' := 10) d6_9 rfl
  have G23 := G22.getF (pc' := 13) (v := (.ref b)) (host := "") (Or.inl (hw _ (List.mem_of_getElem? (i := 33) rfl))) Via.refl F5 d6_10
  have G24 := G23.aloadN (v := (.ref g)) (pc' := 14) d6_13 rfl
  have G25 := G24.iload (v := (0 : Int32)) (pc' := 16) d6_14 rfl
  have G26 := G25.iload (v := (1 : Int32)) (pc' := 18) d6_16 rfl
  obtain ⟨v27, h27, ⟨y28, ev27, K27, F27_0, F27_1, F27_2, F27_3, F27_4, F27_5, F27_6, F27_7, F27_8, F27_9, F27_10, hx_y28⟩, g27⟩ := G26.callV (argsL := [(.ref g), (.int (0 : Int32)), (.int (1 : Int32))]) (rest := []) (pc' := 21) (k' := 0) (j' := 0) (cn8 l Z a0 hw b g r u w w1 w2 vu ((0 : Int32) + (1 : Int32)) 1 h3 n0 G26.size E8 F9 F10 F11 F12 F13 E14 F15 F16 F17 V18 V19 g_b g_r g_u ne_g_b ne_r_b ne_u_b ne_g_r ne_u_r ne_g_u q0 q1 q2 (by decide) (by decide) hvu) rfl E8 (hw _ (List.mem_of_getElem? (i := 47) rfl)) (hw _ (List.mem_of_getElem? (i := 48) rfl)) (hw _ (List.mem_of_getElem? (i := 50) rfl)) (hw _ (List.mem_of_getElem? (i := 49) rfl)) (hw _ (List.mem_of_getElem? (i := 12) rfl)) (hw _ (List.mem_of_getElem? (i := 51) rfl)) (by decide) d6_18 pd4 rfl (W := 0) rfl rfl (by decide) (by decide) (by decide) (by decide) rfl rfl rfl
  subst ev27
  have G27 := g27 [(.int (fSg (((0 : Int64) * (10 : Int64)) + (w - (48 : Int32)).toInt64)))] rfl
  have E29 : Exa Z h27 a "com/example/stackwise/stackwise/calendar/HourlyValues$Builder" := E4.keep K27
  have F30 : Fld Z h27 a "com/example/stackwise/stackwise/calendar/HourlyValues$Builder" "values" "Lcom/example/stackwise/stackwise/input/DecimalColumn$Builder;" (.ref b) := F5.keep K27 (ninS (Ne.symm ne_b_a) (ninS (Ne.symm ne_r_a) (ninS (Ne.symm ne_u_a) nin0)))
  have F31 : Fld Z h27 a "com/example/stackwise/stackwise/calendar/HourlyValues$Builder" "first" "J" (.long f0) := F6.keep K27 (ninS (Ne.symm ne_b_a) (ninS (Ne.symm ne_r_a) (ninS (Ne.symm ne_u_a) nin0)))
  have F32 : Fld Z h27 a "com/example/stackwise/stackwise/calendar/HourlyValues$Builder" "hours" "[J" .null := F7.keep K27 (ninS (Ne.symm ne_b_a) (ninS (Ne.symm ne_r_a) (ninS (Ne.symm ne_u_a) nin0)))
  have E33 : Exa Z h27 b "com/example/stackwise/stackwise/input/DecimalColumn$Builder" := E8.keep K27
  have E34 : Exa Z h27 r "com/example/stackwise/stackwise/input/Decimals$Reading" := E14.keep K27
  have V35 : Av Z h27 g .byte [(.int w)] := V19.keep K27 (ninS ne_g_b (ninS ne_g_r (ninS ne_g_u nin0)))
  have K36 : Keep h0 h27 [a, b, r, u] := K20.trans K27 (allS (Or.inl (List.mem_of_getElem? (i := 1) rfl)) (allS (Or.inl (List.mem_of_getElem? (i := 2) rfl)) (allS (Or.inl (List.mem_of_getElem? (i := 3) rfl)) all0)))
  have G37 := G27.istore (L' := #[.val (.ref a), .val (.long x1), .second, .val (.ref g), .val (.int (0 : Int32)), .val (.int (1 : Int32)), .val (.int ((0 : Int32) + (1 : Int32))), .val (.int (fSg (((0 : Int64) * (10 : Int64)) + (w - (48 : Int32)).toInt64))), .unset]) (pc' := 23) d6_21 rfl
  have G38 := G37.iload (v := ((0 : Int32) + (1 : Int32))) (pc' := 25) d6_23 rfl
  have G39 := G38.ifY d6_25 36 (Jvm.Free.XT.i0_ne_t (by decide))
  have G40 := G39.aloadN (v := (.ref a)) (pc' := 37) d6_36 rfl
  have G41 := G40.getF (pc' := 40) (v := .null) (host := "") (Or.inl (hw _ (List.mem_of_getElem? (i := 97) rfl))) Via.refl F32 d6_37
  have G42 := G41.ifnonnullN d6_40 43
  have G43 := G42.lloadN (v := x1) (pc' := 44) d6_43 rfl
  have G44 := G43.aloadN (v := (.ref a)) (pc' := 45) d6_44 rfl
  have G45 := G44.getF (pc' := 48) (v := (.long f0)) (host := "") (Or.inl (hw _ (List.mem_of_getElem? (i := 95) rfl))) Via.refl F31 d6_45
  have G46 := G45.iload (v := ((0 : Int32) + (1 : Int32))) (pc' := 50) d6_48 rfl
  have G47 := G46.i2l (pc' := 51) d6_50
  have G48 := G47.ladd (pc' := 52) d6_51
  have G49 := G48.lcmp (pc' := 53) d6_52
  have G50 := G49.ifN d6_53 56 (Jvm.Free.XT.ll_eq_f q3)
  have G51 := G50.aloadN (v := (.ref a)) (pc' := 57) d6_56 rfl
  have G52 := G51.sipush (v := (8784 : Int32)) (pc' := 60) d6_57
  have G53 := G52.iconst (v := (2 : Int32)) (pc' := 61) d6_60
  have G54 := G53.iload (v := ((0 : Int32) + (1 : Int32))) (pc' := 63) d6_61 rfl
  have G55 := G54.imul (pc' := 64) d6_63
  obtain ⟨v56, h56, ⟨ev56, eh56⟩, g56⟩ := G55.callS (argsL := [(.int (8784 : Int32)), (.int ((2 : Int32) * ((0 : Int32) + (1 : Int32))))]) (rest := [(.ref a)]) (pc' := 67) (k' := 0) (j' := 0) (cn5 l Z a0 hw (8784 : Int32) ((2 : Int32) * ((0 : Int32) + (1 : Int32))) h27 n0 G55.size) rfl (hw _ (List.mem_of_getElem? (i := 104) rfl)) (hw _ (List.mem_of_getElem? (i := 27) rfl)) (hw _ (List.mem_of_getElem? (i := 28) rfl)) (hw _ (List.mem_of_getElem? (i := 29) rfl)) (by decide) d6_64 pd1 rfl (W := 1) rfl rfl (by decide) (by decide) (by decide) (by decide) rfl rfl rfl
  subst ev56
  rw [eh56] at g56
  have G56 := g56 [(.int (fM (8784 : Int32) ((2 : Int32) * ((0 : Int32) + (1 : Int32))))), (.ref a)] rfl
  obtain ⟨a57, h57, ea57, g_a57, X57, V57, G57⟩ := G56.newA (ty := .long) (dv := (.long (0 : Int64))) (N := 8784) (cap := 8784) (pc' := 69) (k' := 1) (j' := 8784) (hw _ (List.mem_of_getElem? (i := 30) rfl)) d6_67 rfl rfl (by decide) (by decide) (by decide) rfl rfl rfl (by decide) (by decide)
  have ne58 : a ≠ a57 := by rw [ea57]; exact Nat.ne_of_lt E29.lt
  have ne59 : b ≠ a57 := by rw [ea57]; exact Nat.ne_of_lt F27_0.lt
  have ne60 : r ≠ a57 := by rw [ea57]; exact Nat.ne_of_lt F27_6.lt
  have ne61 : g ≠ a57 := by rw [ea57]; exact Nat.ne_of_lt V35.lt
  have ne62 : u ≠ a57 := by rw [ea57]; exact Nat.ne_of_lt F27_7.lt
  have sz57 : h0.size ≤ a57 := by rw [ea57]; exact K36.1
  have E63 : Exa Z h57 a "com/example/stackwise/stackwise/calendar/HourlyValues$Builder" := E29.ext X57
  have F64 : Fld Z h57 a "com/example/stackwise/stackwise/calendar/HourlyValues$Builder" "values" "Lcom/example/stackwise/stackwise/input/DecimalColumn$Builder;" (.ref b) := F30.ext X57
  have F65 : Fld Z h57 a "com/example/stackwise/stackwise/calendar/HourlyValues$Builder" "first" "J" (.long f0) := F31.ext X57
  have F66 : Fld Z h57 a "com/example/stackwise/stackwise/calendar/HourlyValues$Builder" "hours" "[J" .null := F32.ext X57
  have E67 : Exa Z h57 b "com/example/stackwise/stackwise/input/DecimalColumn$Builder" := F27_0.ext X57
  have E68 : Exa Z h57 r "com/example/stackwise/stackwise/input/Decimals$Reading" := F27_6.ext X57
  have V69 : Av Z h57 g .byte [(.int w)] := V35.ext X57
  have K70 : Keep h0 h57 [a, b, r, u] := K36.ext X57
  have F71 : Fld Z h57 b "com/example/stackwise/stackwise/input/DecimalColumn$Builder" "reading" "Lcom/example/stackwise/stackwise/input/Decimals$Reading;" (.ref r) := F27_1.ext X57
  have F72 : Fld Z h57 b "com/example/stackwise/stackwise/input/DecimalColumn$Builder" "unscaled" "[J" (.ref u) := F27_2.ext X57
  have F73 : Fld Z h57 b "com/example/stackwise/stackwise/input/DecimalColumn$Builder" "scale" "I" (.int (0 : Int32)) := F27_3.ext X57
  have F74 : Fld Z h57 b "com/example/stackwise/stackwise/input/DecimalColumn$Builder" "size" "I" (.int (((0 : Int32) + (1 : Int32)) + (1 : Int32))) := F27_4.ext X57
  have F75 : Fld Z h57 b "com/example/stackwise/stackwise/input/DecimalColumn$Builder" "values" "[Ljava/math/BigDecimal;" .null := F27_5.ext X57
  have V76 : Av Z h57 u .long y28 := F27_7.ext X57
  have F77 : Fld Z h57 r "com/example/stackwise/stackwise/input/Decimals$Reading" "wide" "Ljava/math/BigDecimal;" .null := F27_8.ext X57
  have F78 : Fld Z h57 r "com/example/stackwise/stackwise/input/Decimals$Reading" "scale" "I" (.int (0 : Int32)) := F27_9.ext X57
  have F79 : Fld Z h57 r "com/example/stackwise/stackwise/input/Decimals$Reading" "unscaled" "J" (.long (((0 : Int64) * (10 : Int64)) + (w - (48 : Int32)).toInt64)) := F27_10.ext X57
  obtain ⟨h80, W80, G80⟩ := G57.putF (v := (.ref a57)) (pc' := 72) (host := "") (Or.inl (hw _ (List.mem_of_getElem? (i := 97) rfl))) Via.refl F66 E63 g_a (Or.inl (hw _ (List.mem_of_getElem? (i := 98) rfl))) (hw _ (List.mem_of_getElem? (i := 2) rfl)) (ty := (.array .long)) (by decide) rfl rfl d6_69
  have E81 : Exa Z h80 a "com/example/stackwise/stackwise/calendar/HourlyValues$Builder" := E63.wr W80
  have F82 : Fld Z h80 a "com/example/stackwise/stackwise/calendar/HourlyValues$Builder" "values" "Lcom/example/stackwise/stackwise/input/DecimalColumn$Builder;" (.ref b) := F64.other W80 (Or.inr (slot_ne (Or.inr (hw _ (List.mem_of_getElem? (i := 34) rfl))) (Or.inl (hw _ (List.mem_of_getElem? (i := 98) rfl))) (by decide) (t := (.object "com/example/stackwise/stackwise/input/DecimalColumn$Builder")) (t' := (.array .long)) (by decide) (by decide)))
  have F83 : Fld Z h80 a "com/example/stackwise/stackwise/calendar/HourlyValues$Builder" "first" "J" (.long f0) := F65.other W80 (Or.inr (slot_ne (Or.inl (hw _ (List.mem_of_getElem? (i := 96) rfl))) (Or.inl (hw _ (List.mem_of_getElem? (i := 98) rfl))) (by decide) (t := .long) (t' := (.array .long)) (by decide) (by decide)))
  have F84 : Fld Z h80 a "com/example/stackwise/stackwise/calendar/HourlyValues$Builder" "hours" "[J" (.ref a57) := F66.same W80
  have E85 : Exa Z h80 b "com/example/stackwise/stackwise/input/DecimalColumn$Builder" := E67.wr W80
  have E86 : Exa Z h80 r "com/example/stackwise/stackwise/input/Decimals$Reading" := E68.wr W80
  have V87 : Av Z h80 g .byte [(.int w)] := V69.other W80 ne_g_a
  have K88 : Keep h0 h80 [a, b, r, u] := K70.wr W80 (Or.inl (List.mem_of_getElem? (i := 0) rfl))
  have F89 : Fld Z h80 b "com/example/stackwise/stackwise/input/DecimalColumn$Builder" "reading" "Lcom/example/stackwise/stackwise/input/Decimals$Reading;" (.ref r) := F71.other W80 (Or.inl ne_b_a)
  have F90 : Fld Z h80 b "com/example/stackwise/stackwise/input/DecimalColumn$Builder" "unscaled" "[J" (.ref u) := F72.other W80 (Or.inl ne_b_a)
  have F91 : Fld Z h80 b "com/example/stackwise/stackwise/input/DecimalColumn$Builder" "scale" "I" (.int (0 : Int32)) := F73.other W80 (Or.inl ne_b_a)
  have F92 : Fld Z h80 b "com/example/stackwise/stackwise/input/DecimalColumn$Builder" "size" "I" (.int (((0 : Int32) + (1 : Int32)) + (1 : Int32))) := F74.other W80 (Or.inl ne_b_a)
  have F93 : Fld Z h80 b "com/example/stackwise/stackwise/input/DecimalColumn$Builder" "values" "[Ljava/math/BigDecimal;" .null := F75.other W80 (Or.inl ne_b_a)
  have V94 : Av Z h80 u .long y28 := V76.other W80 ne_u_a
  have F95 : Fld Z h80 r "com/example/stackwise/stackwise/input/Decimals$Reading" "wide" "Ljava/math/BigDecimal;" .null := F77.other W80 (Or.inl ne_r_a)
  have F96 : Fld Z h80 r "com/example/stackwise/stackwise/input/Decimals$Reading" "scale" "I" (.int (0 : Int32)) := F78.other W80 (Or.inl ne_r_a)
  have F97 : Fld Z h80 r "com/example/stackwise/stackwise/input/Decimals$Reading" "unscaled" "J" (.long (((0 : Int64) * (10 : Int64)) + (w - (48 : Int32)).toInt64)) := F79.other W80 (Or.inl ne_r_a)
  have V98 : Av Z h80 a57 .long (List.replicate 8784 (.long (0 : Int64))) := V57.other W80 (Ne.symm ne58)
  have G99 := G80.iconst (v := (0 : Int32)) (pc' := 73) d6_72
  have G100 := G99.istore (L' := #[.val (.ref a), .val (.long x1), .second, .val (.ref g), .val (.int (0 : Int32)), .val (.int (1 : Int32)), .val (.int ((0 : Int32) + (1 : Int32))), .val (.int (fSg (((0 : Int64) * (10 : Int64)) + (w - (48 : Int32)).toInt64))), .val (.int (0 : Int32))]) (pc' := 75) d6_73 rfl
  have G101 := G100.iload (v := (0 : Int32)) (pc' := 77) d6_75 rfl
  have G102 := G101.iload (v := ((0 : Int32) + (1 : Int32))) (pc' := 79) d6_77 rfl
  have G103 := G102.icmpN d6_79 82 (Jvm.Free.XT.ii_ge_f (by decide))
  have G104 := G103.aloadN (v := (.ref a)) (pc' := 83) d6_82 rfl
  have G105 := G104.getF (pc' := 86) (v := (.ref a57)) (host := "") (Or.inl (hw _ (List.mem_of_getElem? (i := 97) rfl))) Via.refl F84 d6_83
  have G106 := G105.iload (v := (0 : Int32)) (pc' := 88) d6_86 rfl
  have G107 := G106.aloadN (v := (.ref a)) (pc' := 89) d6_88 rfl
  have G108 := G107.getF (pc' := 92) (v := (.long f0)) (host := "") (Or.inl (hw _ (List.mem_of_getElem? (i := 95) rfl))) Via.refl F83 d6_89
  have G109 := G108.iload (v := (0 : Int32)) (pc' := 94) d6_92 rfl
  have G110 := G109.i2l (pc' := 95) d6_94
  have G111 := G110.ladd (pc' := 96) d6_95
  obtain ⟨h112, W112, V112, G112⟩ := G111.stJ (i := 0) (pc' := 97) V98 g_a57 (by decide) (by simp only [List.length_set, List.length_replicate]; decide) d6_96
  have E113 : Exa Z h112 a "com/example/stackwise/stackwise/calendar/HourlyValues$Builder" := E81.wr W112
  have F114 : Fld Z h112 a "com/example/stackwise/stackwise/calendar/HourlyValues$Builder" "values" "Lcom/example/stackwise/stackwise/input/DecimalColumn$Builder;" (.ref b) := F82.other W112 (Or.inl ne58)
  have F115 : Fld Z h112 a "com/example/stackwise/stackwise/calendar/HourlyValues$Builder" "first" "J" (.long f0) := F83.other W112 (Or.inl ne58)
  have F116 : Fld Z h112 a "com/example/stackwise/stackwise/calendar/HourlyValues$Builder" "hours" "[J" (.ref a57) := F84.other W112 (Or.inl ne58)
  have E117 : Exa Z h112 b "com/example/stackwise/stackwise/input/DecimalColumn$Builder" := E85.wr W112
  have E118 : Exa Z h112 r "com/example/stackwise/stackwise/input/Decimals$Reading" := E86.wr W112
  have V119 : Av Z h112 g .byte [(.int w)] := V87.other W112 ne61
  have K120 : Keep h0 h112 [a, b, r, u] := K88.wr W112 (Or.inr sz57)
  have F121 : Fld Z h112 b "com/example/stackwise/stackwise/input/DecimalColumn$Builder" "reading" "Lcom/example/stackwise/stackwise/input/Decimals$Reading;" (.ref r) := F89.other W112 (Or.inl ne59)
  have F122 : Fld Z h112 b "com/example/stackwise/stackwise/input/DecimalColumn$Builder" "unscaled" "[J" (.ref u) := F90.other W112 (Or.inl ne59)
  have F123 : Fld Z h112 b "com/example/stackwise/stackwise/input/DecimalColumn$Builder" "scale" "I" (.int (0 : Int32)) := F91.other W112 (Or.inl ne59)
  have F124 : Fld Z h112 b "com/example/stackwise/stackwise/input/DecimalColumn$Builder" "size" "I" (.int (((0 : Int32) + (1 : Int32)) + (1 : Int32))) := F92.other W112 (Or.inl ne59)
  have F125 : Fld Z h112 b "com/example/stackwise/stackwise/input/DecimalColumn$Builder" "values" "[Ljava/math/BigDecimal;" .null := F93.other W112 (Or.inl ne59)
  have V126 : Av Z h112 u .long y28 := V94.other W112 ne62
  have F127 : Fld Z h112 r "com/example/stackwise/stackwise/input/Decimals$Reading" "wide" "Ljava/math/BigDecimal;" .null := F95.other W112 (Or.inl ne60)
  have F128 : Fld Z h112 r "com/example/stackwise/stackwise/input/Decimals$Reading" "scale" "I" (.int (0 : Int32)) := F96.other W112 (Or.inl ne60)
  have F129 : Fld Z h112 r "com/example/stackwise/stackwise/input/Decimals$Reading" "unscaled" "J" (.long (((0 : Int64) * (10 : Int64)) + (w - (48 : Int32)).toInt64)) := F97.other W112 (Or.inl ne60)
  have G130 := G112.iinc (v := (1 : Int32)) (x := (0 : Int32)) (L' := #[.val (.ref a), .val (.long x1), .second, .val (.ref g), .val (.int (0 : Int32)), .val (.int (1 : Int32)), .val (.int ((0 : Int32) + (1 : Int32))), .val (.int (fSg (((0 : Int64) * (10 : Int64)) + (w - (48 : Int32)).toInt64))), .val (.int ((0 : Int32) + (1 : Int32)))]) (pc' := 100) d6_97 rfl rfl
  have G131 := G130.goto d6_100 75
  have G132 := G131.iload (v := ((0 : Int32) + (1 : Int32))) (pc' := 77) d6_75 rfl
  have G133 := G132.iload (v := ((0 : Int32) + (1 : Int32))) (pc' := 79) d6_77 rfl
  have G134 := G133.icmpY d6_79 103 (Jvm.Free.XT.ii_ge_t (by decide))
  have G135 := G134.aloadN (v := (.ref a)) (pc' := 104) d6_103 rfl
  have G136 := G135.getF (pc' := 107) (v := (.ref a57)) (host := "") (Or.inl (hw _ (List.mem_of_getElem? (i := 97) rfl))) Via.refl F116 d6_104
  have G137 := G136.ifnullN d6_107 110
  have G138 := G137.iload (v := ((0 : Int32) + (1 : Int32))) (pc' := 112) d6_110 rfl
  have G139 := G138.aloadN (v := (.ref a)) (pc' := 113) d6_112 rfl
  have G140 := G139.getF (pc' := 116) (v := (.ref a57)) (host := "") (Or.inl (hw _ (List.mem_of_getElem? (i := 97) rfl))) Via.refl F116 d6_113
  have G141 := G140.arrlen (pc' := 117) (v := (8784 : Int32)) V112 (by simp only [List.length_set, List.length_replicate]; decide) d6_116
  have G142 := G141.icmpY d6_117 135 (Jvm.Free.XT.ii_ne_t (by decide))
  have G143 := G142.aloadN (v := (.ref a)) (pc' := 136) d6_135 rfl
  have G144 := G143.getF (pc' := 139) (v := (.ref a57)) (host := "") (Or.inl (hw _ (List.mem_of_getElem? (i := 97) rfl))) Via.refl F116 d6_136
  have G145 := G144.iload (v := ((0 : Int32) + (1 : Int32))) (pc' := 141) d6_139 rfl
  have G146 := G145.lloadN (v := x1) (pc' := 142) d6_141 rfl
  obtain ⟨h147, W147, V147, G147⟩ := G146.stJ (i := 1) (pc' := 143) V112 g_a57 (by decide) (by simp only [List.length_set, List.length_replicate]; decide) d6_142
  have E148 : Exa Z h147 a "com/example/stackwise/stackwise/calendar/HourlyValues$Builder" := E113.wr W147
  have F149 : Fld Z h147 a "com/example/stackwise/stackwise/calendar/HourlyValues$Builder" "values" "Lcom/example/stackwise/stackwise/input/DecimalColumn$Builder;" (.ref b) := F114.other W147 (Or.inl ne58)
  have F150 : Fld Z h147 a "com/example/stackwise/stackwise/calendar/HourlyValues$Builder" "first" "J" (.long f0) := F115.other W147 (Or.inl ne58)
  have F151 : Fld Z h147 a "com/example/stackwise/stackwise/calendar/HourlyValues$Builder" "hours" "[J" (.ref a57) := F116.other W147 (Or.inl ne58)
  have E152 : Exa Z h147 b "com/example/stackwise/stackwise/input/DecimalColumn$Builder" := E117.wr W147
  have E153 : Exa Z h147 r "com/example/stackwise/stackwise/input/Decimals$Reading" := E118.wr W147
  have V154 : Av Z h147 g .byte [(.int w)] := V119.other W147 ne61
  have K155 : Keep h0 h147 [a, b, r, u] := K120.wr W147 (Or.inr sz57)
  have F156 : Fld Z h147 b "com/example/stackwise/stackwise/input/DecimalColumn$Builder" "reading" "Lcom/example/stackwise/stackwise/input/Decimals$Reading;" (.ref r) := F121.other W147 (Or.inl ne59)
  have F157 : Fld Z h147 b "com/example/stackwise/stackwise/input/DecimalColumn$Builder" "unscaled" "[J" (.ref u) := F122.other W147 (Or.inl ne59)
  have F158 : Fld Z h147 b "com/example/stackwise/stackwise/input/DecimalColumn$Builder" "scale" "I" (.int (0 : Int32)) := F123.other W147 (Or.inl ne59)
  have F159 : Fld Z h147 b "com/example/stackwise/stackwise/input/DecimalColumn$Builder" "size" "I" (.int (((0 : Int32) + (1 : Int32)) + (1 : Int32))) := F124.other W147 (Or.inl ne59)
  have F160 : Fld Z h147 b "com/example/stackwise/stackwise/input/DecimalColumn$Builder" "values" "[Ljava/math/BigDecimal;" .null := F125.other W147 (Or.inl ne59)
  have V161 : Av Z h147 u .long y28 := V126.other W147 ne62
  have F162 : Fld Z h147 r "com/example/stackwise/stackwise/input/Decimals$Reading" "wide" "Ljava/math/BigDecimal;" .null := F127.other W147 (Or.inl ne60)
  have F163 : Fld Z h147 r "com/example/stackwise/stackwise/input/Decimals$Reading" "scale" "I" (.int (0 : Int32)) := F128.other W147 (Or.inl ne60)
  have F164 : Fld Z h147 r "com/example/stackwise/stackwise/input/Decimals$Reading" "unscaled" "J" (.long (((0 : Int64) * (10 : Int64)) + (w - (48 : Int32)).toInt64)) := F129.other W147 (Or.inl ne60)
  have G165 := G147.iload (v := (fSg (((0 : Int64) * (10 : Int64)) + (w - (48 : Int32)).toInt64))) (pc' := 145) d6_143 rfl
  exact G165.retI d6_145 rfl ⟨a57, y28, rfl, K155, sz57, E148, F149, F150, F151, E152, E153, F156, F157, F158, F159, F160, V161, F162, F163, F164, V147, hx_y28⟩
theorem ef_e2 (m : MethodId) (a : Addr) (x1 : Int64) (g : Addr) : entryFrame m #[(.ref a), (.long x1), (.ref g), (.int (0 : Int32)), (.int (1 : Int32))] 9 = mkF m 0 #[.val (.ref a), .val (.long x1), .second, .val (.ref g), .val (.int (0 : Int32)), .val (.int (1 : Int32)), .unset, .unset, .unset] [] := by first | (simp [entryFrame, mkF, argsToLocals, Value.category]; done) | rfl
def rm_e2 : Room := { frames := 3, cells := 0, slots := 0, locals := 52 }
set_option maxRecDepth 65536 in
set_option maxHeartbeats 40000000 in
theorem cn_e2 (l : Launch) (Z : State) (a0 : Array Value) (hw : ∀ d ∈ tables_1, d.before a0 Z = true) (a : Addr) (x1 : Int64) (g : Addr) (b : Addr) (r : Addr) (u : Addr) (w : Int32) (w1 : Int32) (w2 : Int64) (vu : List Value) (f0 : Int64) (h0 : Heap) (n0 : Nat) (hn : n0 ≤ h0.size) (E_a : Exa Z h0 a "com/example/stackwise/stackwise/calendar/HourlyValues$Builder") (F_a_values : Fld Z h0 a "com/example/stackwise/stackwise/calendar/HourlyValues$Builder" "values" "Lcom/example/stackwise/stackwise/input/DecimalColumn$Builder;" (.ref b)) (F_a_first : Fld Z h0 a "com/example/stackwise/stackwise/calendar/HourlyValues$Builder" "first" "J" (.long f0)) (F_a_hours : Fld Z h0 a "com/example/stackwise/stackwise/calendar/HourlyValues$Builder" "hours" "[J" .null) (E_b : Exa Z h0 b "com/example/stackwise/stackwise/input/DecimalColumn$Builder") (F_b_reading : Fld Z h0 b "com/example/stackwise/stackwise/input/DecimalColumn$Builder" "reading" "Lcom/example/stackwise/stackwise/input/Decimals$Reading;" (.ref r)) (F_b_unscaled : Fld Z h0 b "com/example/stackwise/stackwise/input/DecimalColumn$Builder" "unscaled" "[J" (.ref u)) (F_b_scale : Fld Z h0 b "com/example/stackwise/stackwise/input/DecimalColumn$Builder" "scale" "I" (.int (0 : Int32))) (F_b_size : Fld Z h0 b "com/example/stackwise/stackwise/input/DecimalColumn$Builder" "size" "I" (.int (((0 : Int32) + (1 : Int32)) + (1 : Int32)))) (F_b_values : Fld Z h0 b "com/example/stackwise/stackwise/input/DecimalColumn$Builder" "values" "[Ljava/math/BigDecimal;" .null) (E_r : Exa Z h0 r "com/example/stackwise/stackwise/input/Decimals$Reading") (F_r_wide : Fld Z h0 r "com/example/stackwise/stackwise/input/Decimals$Reading" "wide" "Ljava/math/BigDecimal;" .null) (F_r_scale : Fld Z h0 r "com/example/stackwise/stackwise/input/Decimals$Reading" "scale" "I" (.int w1)) (F_r_unscaled : Fld Z h0 r "com/example/stackwise/stackwise/input/Decimals$Reading" "unscaled" "J" (.long w2)) (V_u : Av Z h0 u .long vu) (V_g : Av Z h0 g .byte [(.int w)]) (g_a : n0 ≤ a) (g_b : n0 ≤ b) (g_r : n0 ≤ r) (g_u : n0 ≤ u) (ne_g_a : g ≠ a) (ne_b_a : b ≠ a) (ne_r_a : r ≠ a) (ne_u_a : u ≠ a) (ne_g_b : g ≠ b) (ne_r_b : r ≠ b) (ne_u_b : u ≠ b) (ne_g_r : g ≠ r) (ne_u_r : u ≠ r) (ne_g_u : g ≠ u) (q0 : ¬ w = (45 : Int32)) (q1 : ¬ (w - (48 : Int32)) < (0 : Int32)) (q2 : ¬ (9 : Int32) < (w - (48 : Int32))) (hvu : vu.length = 8784) (q3 : x1 = (f0 + (((0 : Int32) + (1 : Int32)) + (1 : Int32)).toInt64)) :
    Con l (⟨"com/example/stackwise/stackwise/calendar/HourlyValues$Builder", "add", "(J[BII)I"⟩ : MethodName) prog_7_method_2_code 9 (some .int) [] rm_e2 rm_e2.cells rm_e2.slots Z #[(.ref a), (.long x1), (.ref g), (.int (0 : Int32)), (.int (1 : Int32))] h0 n0 (fun v h => ∃ y28 : List Value, v = some (.int (fSg (((0 : Int64) * (10 : Int64)) + (w - (48 : Int32)).toInt64))) ∧ Keep h0 h [a, b, r, u] ∧ Exa Z h a "com/example/stackwise/stackwise/calendar/HourlyValues$Builder" ∧ Fld Z h a "com/example/stackwise/stackwise/calendar/HourlyValues$Builder" "values" "Lcom/example/stackwise/stackwise/input/DecimalColumn$Builder;" (.ref b) ∧ Fld Z h a "com/example/stackwise/stackwise/calendar/HourlyValues$Builder" "first" "J" (.long f0) ∧ Fld Z h a "com/example/stackwise/stackwise/calendar/HourlyValues$Builder" "hours" "[J" .null ∧ Exa Z h b "com/example/stackwise/stackwise/input/DecimalColumn$Builder" ∧ Exa Z h r "com/example/stackwise/stackwise/input/Decimals$Reading" ∧ Fld Z h b "com/example/stackwise/stackwise/input/DecimalColumn$Builder" "reading" "Lcom/example/stackwise/stackwise/input/Decimals$Reading;" (.ref r) ∧ Fld Z h b "com/example/stackwise/stackwise/input/DecimalColumn$Builder" "unscaled" "[J" (.ref u) ∧ Fld Z h b "com/example/stackwise/stackwise/input/DecimalColumn$Builder" "scale" "I" (.int (0 : Int32)) ∧ Fld Z h b "com/example/stackwise/stackwise/input/DecimalColumn$Builder" "size" "I" (.int ((((0 : Int32) + (1 : Int32)) + (1 : Int32)) + (1 : Int32))) ∧ Fld Z h b "com/example/stackwise/stackwise/input/DecimalColumn$Builder" "values" "[Ljava/math/BigDecimal;" .null ∧ Av Z h u .long y28 ∧ Fld Z h r "com/example/stackwise/stackwise/input/Decimals$Reading" "wide" "Ljava/math/BigDecimal;" .null ∧ Fld Z h r "com/example/stackwise/stackwise/input/Decimals$Reading" "scale" "I" (.int (0 : Int32)) ∧ Fld Z h r "com/example/stackwise/stackwise/input/Decimals$Reading" "unscaled" "J" (.long (((0 : Int64) * (10 : Int64)) + (w - (48 : Int32)).toInt64)) ∧ y28.length = 8784) := by
  refine Con.of (plainFor_of_name pn2) hn (fun m => ef_e2 m a x1 g) ?_
  intro p e s m below meth c s₀ hnm G0
  have K0 : Keep h0 h0 [a, b, r, u] := Keep.refl _ _
  have G1 := G0.aloadN (v := (.ref a)) (pc' := 1) d6_0 rfl
  have G2 := G1.getF (pc' := 4) (v := (.ref b)) (host := "") (Or.inl (hw _ (List.mem_of_getElem? (i := 33) rfl))) Via.refl F_a_values d6_1
  obtain ⟨v3, h3, ⟨ev3, K3⟩, g3⟩ := G2.callV (argsL := []) (rest := []) (pc' := 7) (k' := 0) (j' := 0) (cn7 l Z a0 hw b (((0 : Int32) + (1 : Int32)) + (1 : Int32)) h0 n0 G2.size F_b_size) rfl E_b (hw _ (List.mem_of_getElem? (i := 40) rfl)) (hw _ (List.mem_of_getElem? (i := 41) rfl)) (hw _ (List.mem_of_getElem? (i := 43) rfl)) (hw _ (List.mem_of_getElem? (i := 42) rfl)) (hw _ (List.mem_of_getElem? (i := 12) rfl)) (hw _ (List.mem_of_getElem? (i := 44) rfl)) (by decide) d6_4 pd7 rfl (W := 0) rfl rfl (by decide) (by decide) (by decide) (by decide) rfl rfl rfl
  subst ev3
  have G3 := g3 [(.int (((0 : Int32) + (1 : Int32)) + (1 : Int32)))] rfl
  have E4 : Exa Z h3 a "com/example/stackwise/stackwise/calendar/HourlyValues$Builder" := E_a.keep K3
  have F5 : Fld Z h3 a "com/example/stackwise/stackwise/calendar/HourlyValues$Builder" "values" "Lcom/example/stackwise/stackwise/input/DecimalColumn$Builder;" (.ref b) := F_a_values.keep K3 nin0
  have F6 : Fld Z h3 a "com/example/stackwise/stackwise/calendar/HourlyValues$Builder" "first" "J" (.long f0) := F_a_first.keep K3 nin0
  have F7 : Fld Z h3 a "com/example/stackwise/stackwise/calendar/HourlyValues$Builder" "hours" "[J" .null := F_a_hours.keep K3 nin0
  have E8 : Exa Z h3 b "com/example/stackwise/stackwise/input/DecimalColumn$Builder" := E_b.keep K3
  have F9 : Fld Z h3 b "com/example/stackwise/stackwise/input/DecimalColumn$Builder" "reading" "Lcom/example/stackwise/stackwise/input/Decimals$Reading;" (.ref r) := F_b_reading.keep K3 nin0
  have F10 : Fld Z h3 b "com/example/stackwise/stackwise/input/DecimalColumn$Builder" "unscaled" "[J" (.ref u) := F_b_unscaled.keep K3 nin0
  have F11 : Fld Z h3 b "com/example/stackwise/stackwise/input/DecimalColumn$Builder" "scale" "I" (.int (0 : Int32)) := F_b_scale.keep K3 nin0
  have F12 : Fld Z h3 b "com/example/stackwise/stackwise/input/DecimalColumn$Builder" "size" "I" (.int (((0 : Int32) + (1 : Int32)) + (1 : Int32))) := F_b_size.keep K3 nin0
  have F13 : Fld Z h3 b "com/example/stackwise/stackwise/input/DecimalColumn$Builder" "values" "[Ljava/math/BigDecimal;" .null := F_b_values.keep K3 nin0
  have E14 : Exa Z h3 r "com/example/stackwise/stackwise/input/Decimals$Reading" := E_r.keep K3
  have F15 : Fld Z h3 r "com/example/stackwise/stackwise/input/Decimals$Reading" "wide" "Ljava/math/BigDecimal;" .null := F_r_wide.keep K3 nin0
  have F16 : Fld Z h3 r "com/example/stackwise/stackwise/input/Decimals$Reading" "scale" "I" (.int w1) := F_r_scale.keep K3 nin0
  have F17 : Fld Z h3 r "com/example/stackwise/stackwise/input/Decimals$Reading" "unscaled" "J" (.long w2) := F_r_unscaled.keep K3 nin0
  have V18 : Av Z h3 u .long vu := V_u.keep K3 nin0
  have V19 : Av Z h3 g .byte [(.int w)] := V_g.keep K3 nin0
  have K20 : Keep h0 h3 [a, b, r, u] := K0.trans K3 all0
  have G21 := G3.istore (L' := #[.val (.ref a), .val (.long x1), .second, .val (.ref g), .val (.int (0 : Int32)), .val (.int (1 : Int32)), .val (.int (((0 : Int32) + (1 : Int32)) + (1 : Int32))), .unset, .unset]) (pc' := 9) d6_7 rfl
  have G22 := G21.aloadN (v := (.ref a)) (pc' := 10) d6_9 rfl
  have G23 := G22.getF (pc' := 13) (v := (.ref b)) (host := "") (Or.inl (hw _ (List.mem_of_getElem? (i := 33) rfl))) Via.refl F5 d6_10
  have G24 := G23.aloadN (v := (.ref g)) (pc' := 14) d6_13 rfl
  have G25 := G24.iload (v := (0 : Int32)) (pc' := 16) d6_14 rfl
  have G26 := G25.iload (v := (1 : Int32)) (pc' := 18) d6_16 rfl
  obtain ⟨v27, h27, ⟨y28, ev27, K27, F27_0, F27_1, F27_2, F27_3, F27_4, F27_5, F27_6, F27_7, F27_8, F27_9, F27_10, hx_y28⟩, g27⟩ := G26.callV (argsL := [(.ref g), (.int (0 : Int32)), (.int (1 : Int32))]) (rest := []) (pc' := 21) (k' := 0) (j' := 0) (cn8 l Z a0 hw b g r u w w1 w2 vu (((0 : Int32) + (1 : Int32)) + (1 : Int32)) 2 h3 n0 G26.size E8 F9 F10 F11 F12 F13 E14 F15 F16 F17 V18 V19 g_b g_r g_u ne_g_b ne_r_b ne_u_b ne_g_r ne_u_r ne_g_u q0 q1 q2 (by decide) (by decide) hvu) rfl E8 (hw _ (List.mem_of_getElem? (i := 47) rfl)) (hw _ (List.mem_of_getElem? (i := 48) rfl)) (hw _ (List.mem_of_getElem? (i := 50) rfl)) (hw _ (List.mem_of_getElem? (i := 49) rfl)) (hw _ (List.mem_of_getElem? (i := 12) rfl)) (hw _ (List.mem_of_getElem? (i := 51) rfl)) (by decide) d6_18 pd4 rfl (W := 0) rfl rfl (by decide) (by decide) (by decide) (by decide) rfl rfl rfl
  subst ev27
  have G27 := g27 [(.int (fSg (((0 : Int64) * (10 : Int64)) + (w - (48 : Int32)).toInt64)))] rfl
  have E29 : Exa Z h27 a "com/example/stackwise/stackwise/calendar/HourlyValues$Builder" := E4.keep K27
  have F30 : Fld Z h27 a "com/example/stackwise/stackwise/calendar/HourlyValues$Builder" "values" "Lcom/example/stackwise/stackwise/input/DecimalColumn$Builder;" (.ref b) := F5.keep K27 (ninS (Ne.symm ne_b_a) (ninS (Ne.symm ne_r_a) (ninS (Ne.symm ne_u_a) nin0)))
  have F31 : Fld Z h27 a "com/example/stackwise/stackwise/calendar/HourlyValues$Builder" "first" "J" (.long f0) := F6.keep K27 (ninS (Ne.symm ne_b_a) (ninS (Ne.symm ne_r_a) (ninS (Ne.symm ne_u_a) nin0)))
  have F32 : Fld Z h27 a "com/example/stackwise/stackwise/calendar/HourlyValues$Builder" "hours" "[J" .null := F7.keep K27 (ninS (Ne.symm ne_b_a) (ninS (Ne.symm ne_r_a) (ninS (Ne.symm ne_u_a) nin0)))
  have E33 : Exa Z h27 b "com/example/stackwise/stackwise/input/DecimalColumn$Builder" := E8.keep K27
  have E34 : Exa Z h27 r "com/example/stackwise/stackwise/input/Decimals$Reading" := E14.keep K27
  have V35 : Av Z h27 g .byte [(.int w)] := V19.keep K27 (ninS ne_g_b (ninS ne_g_r (ninS ne_g_u nin0)))
  have K36 : Keep h0 h27 [a, b, r, u] := K20.trans K27 (allS (Or.inl (List.mem_of_getElem? (i := 1) rfl)) (allS (Or.inl (List.mem_of_getElem? (i := 2) rfl)) (allS (Or.inl (List.mem_of_getElem? (i := 3) rfl)) all0)))
  have G37 := G27.istore (L' := #[.val (.ref a), .val (.long x1), .second, .val (.ref g), .val (.int (0 : Int32)), .val (.int (1 : Int32)), .val (.int (((0 : Int32) + (1 : Int32)) + (1 : Int32))), .val (.int (fSg (((0 : Int64) * (10 : Int64)) + (w - (48 : Int32)).toInt64))), .unset]) (pc' := 23) d6_21 rfl
  have G38 := G37.iload (v := (((0 : Int32) + (1 : Int32)) + (1 : Int32))) (pc' := 25) d6_23 rfl
  have G39 := G38.ifY d6_25 36 (Jvm.Free.XT.i0_ne_t (by decide))
  have G40 := G39.aloadN (v := (.ref a)) (pc' := 37) d6_36 rfl
  have G41 := G40.getF (pc' := 40) (v := .null) (host := "") (Or.inl (hw _ (List.mem_of_getElem? (i := 97) rfl))) Via.refl F32 d6_37
  have G42 := G41.ifnonnullN d6_40 43
  have G43 := G42.lloadN (v := x1) (pc' := 44) d6_43 rfl
  have G44 := G43.aloadN (v := (.ref a)) (pc' := 45) d6_44 rfl
  have G45 := G44.getF (pc' := 48) (v := (.long f0)) (host := "") (Or.inl (hw _ (List.mem_of_getElem? (i := 95) rfl))) Via.refl F31 d6_45
  have G46 := G45.iload (v := (((0 : Int32) + (1 : Int32)) + (1 : Int32))) (pc' := 50) d6_48 rfl
  have G47 := G46.i2l (pc' := 51) d6_50
  have G48 := G47.ladd (pc' := 52) d6_51
  have G49 := G48.lcmp (pc' := 53) d6_52
  have G50 := G49.ifY d6_53 103 (Jvm.Free.XT.ll_eq_t q3)
  have G51 := G50.aloadN (v := (.ref a)) (pc' := 104) d6_103 rfl
  have G52 := G51.getF (pc' := 107) (v := .null) (host := "") (Or.inl (hw _ (List.mem_of_getElem? (i := 97) rfl))) Via.refl F32 d6_104
  have G53 := G52.ifnullY d6_107 143
  have G54 := G53.iload (v := (fSg (((0 : Int64) * (10 : Int64)) + (w - (48 : Int32)).toInt64))) (pc' := 145) d6_143 rfl
  exact G54.retI d6_145 rfl ⟨y28, rfl, K36, E29, F30, F31, F32, F27_0, F27_6, F27_1, F27_2, F27_3, F27_4, F27_5, F27_7, F27_8, F27_9, F27_10, hx_y28⟩
theorem ef_n2 (m : MethodId) (a : Addr) (x1 : Int64) (g : Addr) : entryFrame m #[(.ref a), (.long x1), (.ref g), (.int (0 : Int32)), (.int (1 : Int32))] 9 = mkF m 0 #[.val (.ref a), .val (.long x1), .second, .val (.ref g), .val (.int (0 : Int32)), .val (.int (1 : Int32)), .unset, .unset, .unset] [] := by first | (simp [entryFrame, mkF, argsToLocals, Value.category]; done) | rfl
def rm_n2 : Room := { frames := 3, cells := 1, slots := 8784, locals := 52 }
set_option maxRecDepth 65536 in
set_option maxHeartbeats 40000000 in
theorem cn_n2 (l : Launch) (Z : State) (a0 : Array Value) (hw : ∀ d ∈ tables_1, d.before a0 Z = true) (a : Addr) (x1 : Int64) (g : Addr) (b : Addr) (r : Addr) (u : Addr) (w : Int32) (w1 : Int32) (w2 : Int64) (vu : List Value) (f0 : Int64) (h0 : Heap) (n0 : Nat) (hn : n0 ≤ h0.size) (E_a : Exa Z h0 a "com/example/stackwise/stackwise/calendar/HourlyValues$Builder") (F_a_values : Fld Z h0 a "com/example/stackwise/stackwise/calendar/HourlyValues$Builder" "values" "Lcom/example/stackwise/stackwise/input/DecimalColumn$Builder;" (.ref b)) (F_a_first : Fld Z h0 a "com/example/stackwise/stackwise/calendar/HourlyValues$Builder" "first" "J" (.long f0)) (F_a_hours : Fld Z h0 a "com/example/stackwise/stackwise/calendar/HourlyValues$Builder" "hours" "[J" .null) (E_b : Exa Z h0 b "com/example/stackwise/stackwise/input/DecimalColumn$Builder") (F_b_reading : Fld Z h0 b "com/example/stackwise/stackwise/input/DecimalColumn$Builder" "reading" "Lcom/example/stackwise/stackwise/input/Decimals$Reading;" (.ref r)) (F_b_unscaled : Fld Z h0 b "com/example/stackwise/stackwise/input/DecimalColumn$Builder" "unscaled" "[J" (.ref u)) (F_b_scale : Fld Z h0 b "com/example/stackwise/stackwise/input/DecimalColumn$Builder" "scale" "I" (.int (0 : Int32))) (F_b_size : Fld Z h0 b "com/example/stackwise/stackwise/input/DecimalColumn$Builder" "size" "I" (.int (((0 : Int32) + (1 : Int32)) + (1 : Int32)))) (F_b_values : Fld Z h0 b "com/example/stackwise/stackwise/input/DecimalColumn$Builder" "values" "[Ljava/math/BigDecimal;" .null) (E_r : Exa Z h0 r "com/example/stackwise/stackwise/input/Decimals$Reading") (F_r_wide : Fld Z h0 r "com/example/stackwise/stackwise/input/Decimals$Reading" "wide" "Ljava/math/BigDecimal;" .null) (F_r_scale : Fld Z h0 r "com/example/stackwise/stackwise/input/Decimals$Reading" "scale" "I" (.int w1)) (F_r_unscaled : Fld Z h0 r "com/example/stackwise/stackwise/input/Decimals$Reading" "unscaled" "J" (.long w2)) (V_u : Av Z h0 u .long vu) (V_g : Av Z h0 g .byte [(.int w)]) (g_a : n0 ≤ a) (g_b : n0 ≤ b) (g_r : n0 ≤ r) (g_u : n0 ≤ u) (ne_g_a : g ≠ a) (ne_b_a : b ≠ a) (ne_r_a : r ≠ a) (ne_u_a : u ≠ a) (ne_g_b : g ≠ b) (ne_r_b : r ≠ b) (ne_u_b : u ≠ b) (ne_g_r : g ≠ r) (ne_u_r : u ≠ r) (ne_g_u : g ≠ u) (q0 : ¬ w = (45 : Int32)) (q1 : ¬ (w - (48 : Int32)) < (0 : Int32)) (q2 : ¬ (9 : Int32) < (w - (48 : Int32))) (hvu : vu.length = 8784) (q3 : ¬ x1 = (f0 + (((0 : Int32) + (1 : Int32)) + (1 : Int32)).toInt64)) :
    Con l (⟨"com/example/stackwise/stackwise/calendar/HourlyValues$Builder", "add", "(J[BII)I"⟩ : MethodName) prog_7_method_2_code 9 (some .int) [] rm_n2 rm_n2.cells rm_n2.slots Z #[(.ref a), (.long x1), (.ref g), (.int (0 : Int32)), (.int (1 : Int32))] h0 n0 (fun v h => ∃ a57 : Addr, ∃ y28 : List Value, v = some (.int (fSg (((0 : Int64) * (10 : Int64)) + (w - (48 : Int32)).toInt64))) ∧ Keep h0 h [a, b, r, u] ∧ h0.size ≤ a57 ∧ Exa Z h a "com/example/stackwise/stackwise/calendar/HourlyValues$Builder" ∧ Fld Z h a "com/example/stackwise/stackwise/calendar/HourlyValues$Builder" "values" "Lcom/example/stackwise/stackwise/input/DecimalColumn$Builder;" (.ref b) ∧ Fld Z h a "com/example/stackwise/stackwise/calendar/HourlyValues$Builder" "first" "J" (.long f0) ∧ Fld Z h a "com/example/stackwise/stackwise/calendar/HourlyValues$Builder" "hours" "[J" (.ref a57) ∧ Exa Z h b "com/example/stackwise/stackwise/input/DecimalColumn$Builder" ∧ Exa Z h r "com/example/stackwise/stackwise/input/Decimals$Reading" ∧ Fld Z h b "com/example/stackwise/stackwise/input/DecimalColumn$Builder" "reading" "Lcom/example/stackwise/stackwise/input/Decimals$Reading;" (.ref r) ∧ Fld Z h b "com/example/stackwise/stackwise/input/DecimalColumn$Builder" "unscaled" "[J" (.ref u) ∧ Fld Z h b "com/example/stackwise/stackwise/input/DecimalColumn$Builder" "scale" "I" (.int (0 : Int32)) ∧ Fld Z h b "com/example/stackwise/stackwise/input/DecimalColumn$Builder" "size" "I" (.int ((((0 : Int32) + (1 : Int32)) + (1 : Int32)) + (1 : Int32))) ∧ Fld Z h b "com/example/stackwise/stackwise/input/DecimalColumn$Builder" "values" "[Ljava/math/BigDecimal;" .null ∧ Av Z h u .long y28 ∧ Fld Z h r "com/example/stackwise/stackwise/input/Decimals$Reading" "wide" "Ljava/math/BigDecimal;" .null ∧ Fld Z h r "com/example/stackwise/stackwise/input/Decimals$Reading" "scale" "I" (.int (0 : Int32)) ∧ Fld Z h r "com/example/stackwise/stackwise/input/Decimals$Reading" "unscaled" "J" (.long (((0 : Int64) * (10 : Int64)) + (w - (48 : Int32)).toInt64)) ∧ Av Z h a57 .long (List.set (List.set (List.set (List.replicate 8784 (.long (0 : Int64))) 0 (.long (f0 + (0 : Int32).toInt64))) 1 (.long (f0 + ((0 : Int32) + (1 : Int32)).toInt64))) 2 (.long x1)) ∧ y28.length = 8784) := by
  refine Con.of (plainFor_of_name pn2) hn (fun m => ef_n2 m a x1 g) ?_
  intro p e s m below meth c s₀ hnm G0
  have K0 : Keep h0 h0 [a, b, r, u] := Keep.refl _ _
  have G1 := G0.aloadN (v := (.ref a)) (pc' := 1) d6_0 rfl
  have G2 := G1.getF (pc' := 4) (v := (.ref b)) (host := "") (Or.inl (hw _ (List.mem_of_getElem? (i := 33) rfl))) Via.refl F_a_values d6_1
  obtain ⟨v3, h3, ⟨ev3, K3⟩, g3⟩ := G2.callV (argsL := []) (rest := []) (pc' := 7) (k' := 0) (j' := 0) (cn7 l Z a0 hw b (((0 : Int32) + (1 : Int32)) + (1 : Int32)) h0 n0 G2.size F_b_size) rfl E_b (hw _ (List.mem_of_getElem? (i := 40) rfl)) (hw _ (List.mem_of_getElem? (i := 41) rfl)) (hw _ (List.mem_of_getElem? (i := 43) rfl)) (hw _ (List.mem_of_getElem? (i := 42) rfl)) (hw _ (List.mem_of_getElem? (i := 12) rfl)) (hw _ (List.mem_of_getElem? (i := 44) rfl)) (by decide) d6_4 pd7 rfl (W := 0) rfl rfl (by decide) (by decide) (by decide) (by decide) rfl rfl rfl
  subst ev3
  have G3 := g3 [(.int (((0 : Int32) + (1 : Int32)) + (1 : Int32)))] rfl
  have E4 : Exa Z h3 a "com/example/stackwise/stackwise/calendar/HourlyValues$Builder" := E_a.keep K3
  have F5 : Fld Z h3 a "com/example/stackwise/stackwise/calendar/HourlyValues$Builder" "values" "Lcom/example/stackwise/stackwise/input/DecimalColumn$Builder;" (.ref b) := F_a_values.keep K3 nin0
  have F6 : Fld Z h3 a "com/example/stackwise/stackwise/calendar/HourlyValues$Builder" "first" "J" (.long f0) := F_a_first.keep K3 nin0
  have F7 : Fld Z h3 a "com/example/stackwise/stackwise/calendar/HourlyValues$Builder" "hours" "[J" .null := F_a_hours.keep K3 nin0
  have E8 : Exa Z h3 b "com/example/stackwise/stackwise/input/DecimalColumn$Builder" := E_b.keep K3
  have F9 : Fld Z h3 b "com/example/stackwise/stackwise/input/DecimalColumn$Builder" "reading" "Lcom/example/stackwise/stackwise/input/Decimals$Reading;" (.ref r) := F_b_reading.keep K3 nin0
  have F10 : Fld Z h3 b "com/example/stackwise/stackwise/input/DecimalColumn$Builder" "unscaled" "[J" (.ref u) := F_b_unscaled.keep K3 nin0
  have F11 : Fld Z h3 b "com/example/stackwise/stackwise/input/DecimalColumn$Builder" "scale" "I" (.int (0 : Int32)) := F_b_scale.keep K3 nin0
  have F12 : Fld Z h3 b "com/example/stackwise/stackwise/input/DecimalColumn$Builder" "size" "I" (.int (((0 : Int32) + (1 : Int32)) + (1 : Int32))) := F_b_size.keep K3 nin0
  have F13 : Fld Z h3 b "com/example/stackwise/stackwise/input/DecimalColumn$Builder" "values" "[Ljava/math/BigDecimal;" .null := F_b_values.keep K3 nin0
  have E14 : Exa Z h3 r "com/example/stackwise/stackwise/input/Decimals$Reading" := E_r.keep K3
  have F15 : Fld Z h3 r "com/example/stackwise/stackwise/input/Decimals$Reading" "wide" "Ljava/math/BigDecimal;" .null := F_r_wide.keep K3 nin0
  have F16 : Fld Z h3 r "com/example/stackwise/stackwise/input/Decimals$Reading" "scale" "I" (.int w1) := F_r_scale.keep K3 nin0
  have F17 : Fld Z h3 r "com/example/stackwise/stackwise/input/Decimals$Reading" "unscaled" "J" (.long w2) := F_r_unscaled.keep K3 nin0
  have V18 : Av Z h3 u .long vu := V_u.keep K3 nin0
  have V19 : Av Z h3 g .byte [(.int w)] := V_g.keep K3 nin0
  have K20 : Keep h0 h3 [a, b, r, u] := K0.trans K3 all0
  have G21 := G3.istore (L' := #[.val (.ref a), .val (.long x1), .second, .val (.ref g), .val (.int (0 : Int32)), .val (.int (1 : Int32)), .val (.int (((0 : Int32) + (1 : Int32)) + (1 : Int32))), .unset, .unset]) (pc' := 9) d6_7 rfl
  have G22 := G21.aloadN (v := (.ref a)) (pc' := 10) d6_9 rfl
  have G23 := G22.getF (pc' := 13) (v := (.ref b)) (host := "") (Or.inl (hw _ (List.mem_of_getElem? (i := 33) rfl))) Via.refl F5 d6_10
  have G24 := G23.aloadN (v := (.ref g)) (pc' := 14) d6_13 rfl
  have G25 := G24.iload (v := (0 : Int32)) (pc' := 16) d6_14 rfl
  have G26 := G25.iload (v := (1 : Int32)) (pc' := 18) d6_16 rfl
  obtain ⟨v27, h27, ⟨y28, ev27, K27, F27_0, F27_1, F27_2, F27_3, F27_4, F27_5, F27_6, F27_7, F27_8, F27_9, F27_10, hx_y28⟩, g27⟩ := G26.callV (argsL := [(.ref g), (.int (0 : Int32)), (.int (1 : Int32))]) (rest := []) (pc' := 21) (k' := 0) (j' := 0) (cn8 l Z a0 hw b g r u w w1 w2 vu (((0 : Int32) + (1 : Int32)) + (1 : Int32)) 2 h3 n0 G26.size E8 F9 F10 F11 F12 F13 E14 F15 F16 F17 V18 V19 g_b g_r g_u ne_g_b ne_r_b ne_u_b ne_g_r ne_u_r ne_g_u q0 q1 q2 (by decide) (by decide) hvu) rfl E8 (hw _ (List.mem_of_getElem? (i := 47) rfl)) (hw _ (List.mem_of_getElem? (i := 48) rfl)) (hw _ (List.mem_of_getElem? (i := 50) rfl)) (hw _ (List.mem_of_getElem? (i := 49) rfl)) (hw _ (List.mem_of_getElem? (i := 12) rfl)) (hw _ (List.mem_of_getElem? (i := 51) rfl)) (by decide) d6_18 pd4 rfl (W := 0) rfl rfl (by decide) (by decide) (by decide) (by decide) rfl rfl rfl
  subst ev27
  have G27 := g27 [(.int (fSg (((0 : Int64) * (10 : Int64)) + (w - (48 : Int32)).toInt64)))] rfl
  have E29 : Exa Z h27 a "com/example/stackwise/stackwise/calendar/HourlyValues$Builder" := E4.keep K27
  have F30 : Fld Z h27 a "com/example/stackwise/stackwise/calendar/HourlyValues$Builder" "values" "Lcom/example/stackwise/stackwise/input/DecimalColumn$Builder;" (.ref b) := F5.keep K27 (ninS (Ne.symm ne_b_a) (ninS (Ne.symm ne_r_a) (ninS (Ne.symm ne_u_a) nin0)))
  have F31 : Fld Z h27 a "com/example/stackwise/stackwise/calendar/HourlyValues$Builder" "first" "J" (.long f0) := F6.keep K27 (ninS (Ne.symm ne_b_a) (ninS (Ne.symm ne_r_a) (ninS (Ne.symm ne_u_a) nin0)))
  have F32 : Fld Z h27 a "com/example/stackwise/stackwise/calendar/HourlyValues$Builder" "hours" "[J" .null := F7.keep K27 (ninS (Ne.symm ne_b_a) (ninS (Ne.symm ne_r_a) (ninS (Ne.symm ne_u_a) nin0)))
  have E33 : Exa Z h27 b "com/example/stackwise/stackwise/input/DecimalColumn$Builder" := E8.keep K27
  have E34 : Exa Z h27 r "com/example/stackwise/stackwise/input/Decimals$Reading" := E14.keep K27
  have V35 : Av Z h27 g .byte [(.int w)] := V19.keep K27 (ninS ne_g_b (ninS ne_g_r (ninS ne_g_u nin0)))
  have K36 : Keep h0 h27 [a, b, r, u] := K20.trans K27 (allS (Or.inl (List.mem_of_getElem? (i := 1) rfl)) (allS (Or.inl (List.mem_of_getElem? (i := 2) rfl)) (allS (Or.inl (List.mem_of_getElem? (i := 3) rfl)) all0)))
  have G37 := G27.istore (L' := #[.val (.ref a), .val (.long x1), .second, .val (.ref g), .val (.int (0 : Int32)), .val (.int (1 : Int32)), .val (.int (((0 : Int32) + (1 : Int32)) + (1 : Int32))), .val (.int (fSg (((0 : Int64) * (10 : Int64)) + (w - (48 : Int32)).toInt64))), .unset]) (pc' := 23) d6_21 rfl
  have G38 := G37.iload (v := (((0 : Int32) + (1 : Int32)) + (1 : Int32))) (pc' := 25) d6_23 rfl
  have G39 := G38.ifY d6_25 36 (Jvm.Free.XT.i0_ne_t (by decide))
  have G40 := G39.aloadN (v := (.ref a)) (pc' := 37) d6_36 rfl
  have G41 := G40.getF (pc' := 40) (v := .null) (host := "") (Or.inl (hw _ (List.mem_of_getElem? (i := 97) rfl))) Via.refl F32 d6_37
  have G42 := G41.ifnonnullN d6_40 43
  have G43 := G42.lloadN (v := x1) (pc' := 44) d6_43 rfl
  have G44 := G43.aloadN (v := (.ref a)) (pc' := 45) d6_44 rfl
  have G45 := G44.getF (pc' := 48) (v := (.long f0)) (host := "") (Or.inl (hw _ (List.mem_of_getElem? (i := 95) rfl))) Via.refl F31 d6_45
  have G46 := G45.iload (v := (((0 : Int32) + (1 : Int32)) + (1 : Int32))) (pc' := 50) d6_48 rfl
  have G47 := G46.i2l (pc' := 51) d6_50
  have G48 := G47.ladd (pc' := 52) d6_51
  have G49 := G48.lcmp (pc' := 53) d6_52
  have G50 := G49.ifN d6_53 56 (Jvm.Free.XT.ll_eq_f q3)
  have G51 := G50.aloadN (v := (.ref a)) (pc' := 57) d6_56 rfl
  have G52 := G51.sipush (v := (8784 : Int32)) (pc' := 60) d6_57
  have G53 := G52.iconst (v := (2 : Int32)) (pc' := 61) d6_60
  have G54 := G53.iload (v := (((0 : Int32) + (1 : Int32)) + (1 : Int32))) (pc' := 63) d6_61 rfl
  have G55 := G54.imul (pc' := 64) d6_63
  obtain ⟨v56, h56, ⟨ev56, eh56⟩, g56⟩ := G55.callS (argsL := [(.int (8784 : Int32)), (.int ((2 : Int32) * (((0 : Int32) + (1 : Int32)) + (1 : Int32))))]) (rest := [(.ref a)]) (pc' := 67) (k' := 0) (j' := 0) (cn5 l Z a0 hw (8784 : Int32) ((2 : Int32) * (((0 : Int32) + (1 : Int32)) + (1 : Int32))) h27 n0 G55.size) rfl (hw _ (List.mem_of_getElem? (i := 104) rfl)) (hw _ (List.mem_of_getElem? (i := 27) rfl)) (hw _ (List.mem_of_getElem? (i := 28) rfl)) (hw _ (List.mem_of_getElem? (i := 29) rfl)) (by decide) d6_64 pd1 rfl (W := 1) rfl rfl (by decide) (by decide) (by decide) (by decide) rfl rfl rfl
  subst ev56
  rw [eh56] at g56
  have G56 := g56 [(.int (fM (8784 : Int32) ((2 : Int32) * (((0 : Int32) + (1 : Int32)) + (1 : Int32))))), (.ref a)] rfl
  obtain ⟨a57, h57, ea57, g_a57, X57, V57, G57⟩ := G56.newA (ty := .long) (dv := (.long (0 : Int64))) (N := 8784) (cap := 8784) (pc' := 69) (k' := 1) (j' := 8784) (hw _ (List.mem_of_getElem? (i := 30) rfl)) d6_67 rfl rfl (by decide) (by decide) (by decide) rfl rfl rfl (by decide) (by decide)
  have ne58 : a ≠ a57 := by rw [ea57]; exact Nat.ne_of_lt E29.lt
  have ne59 : b ≠ a57 := by rw [ea57]; exact Nat.ne_of_lt F27_0.lt
  have ne60 : r ≠ a57 := by rw [ea57]; exact Nat.ne_of_lt F27_6.lt
  have ne61 : g ≠ a57 := by rw [ea57]; exact Nat.ne_of_lt V35.lt
  have ne62 : u ≠ a57 := by rw [ea57]; exact Nat.ne_of_lt F27_7.lt
  have sz57 : h0.size ≤ a57 := by rw [ea57]; exact K36.1
  have E63 : Exa Z h57 a "com/example/stackwise/stackwise/calendar/HourlyValues$Builder" := E29.ext X57
  have F64 : Fld Z h57 a "com/example/stackwise/stackwise/calendar/HourlyValues$Builder" "values" "Lcom/example/stackwise/stackwise/input/DecimalColumn$Builder;" (.ref b) := F30.ext X57
  have F65 : Fld Z h57 a "com/example/stackwise/stackwise/calendar/HourlyValues$Builder" "first" "J" (.long f0) := F31.ext X57
  have F66 : Fld Z h57 a "com/example/stackwise/stackwise/calendar/HourlyValues$Builder" "hours" "[J" .null := F32.ext X57
  have E67 : Exa Z h57 b "com/example/stackwise/stackwise/input/DecimalColumn$Builder" := F27_0.ext X57
  have E68 : Exa Z h57 r "com/example/stackwise/stackwise/input/Decimals$Reading" := F27_6.ext X57
  have V69 : Av Z h57 g .byte [(.int w)] := V35.ext X57
  have K70 : Keep h0 h57 [a, b, r, u] := K36.ext X57
  have F71 : Fld Z h57 b "com/example/stackwise/stackwise/input/DecimalColumn$Builder" "reading" "Lcom/example/stackwise/stackwise/input/Decimals$Reading;" (.ref r) := F27_1.ext X57
  have F72 : Fld Z h57 b "com/example/stackwise/stackwise/input/DecimalColumn$Builder" "unscaled" "[J" (.ref u) := F27_2.ext X57
  have F73 : Fld Z h57 b "com/example/stackwise/stackwise/input/DecimalColumn$Builder" "scale" "I" (.int (0 : Int32)) := F27_3.ext X57
  have F74 : Fld Z h57 b "com/example/stackwise/stackwise/input/DecimalColumn$Builder" "size" "I" (.int ((((0 : Int32) + (1 : Int32)) + (1 : Int32)) + (1 : Int32))) := F27_4.ext X57
  have F75 : Fld Z h57 b "com/example/stackwise/stackwise/input/DecimalColumn$Builder" "values" "[Ljava/math/BigDecimal;" .null := F27_5.ext X57
  have V76 : Av Z h57 u .long y28 := F27_7.ext X57
  have F77 : Fld Z h57 r "com/example/stackwise/stackwise/input/Decimals$Reading" "wide" "Ljava/math/BigDecimal;" .null := F27_8.ext X57
  have F78 : Fld Z h57 r "com/example/stackwise/stackwise/input/Decimals$Reading" "scale" "I" (.int (0 : Int32)) := F27_9.ext X57
  have F79 : Fld Z h57 r "com/example/stackwise/stackwise/input/Decimals$Reading" "unscaled" "J" (.long (((0 : Int64) * (10 : Int64)) + (w - (48 : Int32)).toInt64)) := F27_10.ext X57
  obtain ⟨h80, W80, G80⟩ := G57.putF (v := (.ref a57)) (pc' := 72) (host := "") (Or.inl (hw _ (List.mem_of_getElem? (i := 97) rfl))) Via.refl F66 E63 g_a (Or.inl (hw _ (List.mem_of_getElem? (i := 98) rfl))) (hw _ (List.mem_of_getElem? (i := 2) rfl)) (ty := (.array .long)) (by decide) rfl rfl d6_69
  have E81 : Exa Z h80 a "com/example/stackwise/stackwise/calendar/HourlyValues$Builder" := E63.wr W80
  have F82 : Fld Z h80 a "com/example/stackwise/stackwise/calendar/HourlyValues$Builder" "values" "Lcom/example/stackwise/stackwise/input/DecimalColumn$Builder;" (.ref b) := F64.other W80 (Or.inr (slot_ne (Or.inr (hw _ (List.mem_of_getElem? (i := 34) rfl))) (Or.inl (hw _ (List.mem_of_getElem? (i := 98) rfl))) (by decide) (t := (.object "com/example/stackwise/stackwise/input/DecimalColumn$Builder")) (t' := (.array .long)) (by decide) (by decide)))
  have F83 : Fld Z h80 a "com/example/stackwise/stackwise/calendar/HourlyValues$Builder" "first" "J" (.long f0) := F65.other W80 (Or.inr (slot_ne (Or.inl (hw _ (List.mem_of_getElem? (i := 96) rfl))) (Or.inl (hw _ (List.mem_of_getElem? (i := 98) rfl))) (by decide) (t := .long) (t' := (.array .long)) (by decide) (by decide)))
  have F84 : Fld Z h80 a "com/example/stackwise/stackwise/calendar/HourlyValues$Builder" "hours" "[J" (.ref a57) := F66.same W80
  have E85 : Exa Z h80 b "com/example/stackwise/stackwise/input/DecimalColumn$Builder" := E67.wr W80
  have E86 : Exa Z h80 r "com/example/stackwise/stackwise/input/Decimals$Reading" := E68.wr W80
  have V87 : Av Z h80 g .byte [(.int w)] := V69.other W80 ne_g_a
  have K88 : Keep h0 h80 [a, b, r, u] := K70.wr W80 (Or.inl (List.mem_of_getElem? (i := 0) rfl))
  have F89 : Fld Z h80 b "com/example/stackwise/stackwise/input/DecimalColumn$Builder" "reading" "Lcom/example/stackwise/stackwise/input/Decimals$Reading;" (.ref r) := F71.other W80 (Or.inl ne_b_a)
  have F90 : Fld Z h80 b "com/example/stackwise/stackwise/input/DecimalColumn$Builder" "unscaled" "[J" (.ref u) := F72.other W80 (Or.inl ne_b_a)
  have F91 : Fld Z h80 b "com/example/stackwise/stackwise/input/DecimalColumn$Builder" "scale" "I" (.int (0 : Int32)) := F73.other W80 (Or.inl ne_b_a)
  have F92 : Fld Z h80 b "com/example/stackwise/stackwise/input/DecimalColumn$Builder" "size" "I" (.int ((((0 : Int32) + (1 : Int32)) + (1 : Int32)) + (1 : Int32))) := F74.other W80 (Or.inl ne_b_a)
  have F93 : Fld Z h80 b "com/example/stackwise/stackwise/input/DecimalColumn$Builder" "values" "[Ljava/math/BigDecimal;" .null := F75.other W80 (Or.inl ne_b_a)
  have V94 : Av Z h80 u .long y28 := V76.other W80 ne_u_a
  have F95 : Fld Z h80 r "com/example/stackwise/stackwise/input/Decimals$Reading" "wide" "Ljava/math/BigDecimal;" .null := F77.other W80 (Or.inl ne_r_a)
  have F96 : Fld Z h80 r "com/example/stackwise/stackwise/input/Decimals$Reading" "scale" "I" (.int (0 : Int32)) := F78.other W80 (Or.inl ne_r_a)
  have F97 : Fld Z h80 r "com/example/stackwise/stackwise/input/Decimals$Reading" "unscaled" "J" (.long (((0 : Int64) * (10 : Int64)) + (w - (48 : Int32)).toInt64)) := F79.other W80 (Or.inl ne_r_a)
  have V98 : Av Z h80 a57 .long (List.replicate 8784 (.long (0 : Int64))) := V57.other W80 (Ne.symm ne58)
  have G99 := G80.iconst (v := (0 : Int32)) (pc' := 73) d6_72
  have G100 := G99.istore (L' := #[.val (.ref a), .val (.long x1), .second, .val (.ref g), .val (.int (0 : Int32)), .val (.int (1 : Int32)), .val (.int (((0 : Int32) + (1 : Int32)) + (1 : Int32))), .val (.int (fSg (((0 : Int64) * (10 : Int64)) + (w - (48 : Int32)).toInt64))), .val (.int (0 : Int32))]) (pc' := 75) d6_73 rfl
  have G101 := G100.iload (v := (0 : Int32)) (pc' := 77) d6_75 rfl
  have G102 := G101.iload (v := (((0 : Int32) + (1 : Int32)) + (1 : Int32))) (pc' := 79) d6_77 rfl
  have G103 := G102.icmpN d6_79 82 (Jvm.Free.XT.ii_ge_f (by decide))
  have G104 := G103.aloadN (v := (.ref a)) (pc' := 83) d6_82 rfl
  have G105 := G104.getF (pc' := 86) (v := (.ref a57)) (host := "") (Or.inl (hw _ (List.mem_of_getElem? (i := 97) rfl))) Via.refl F84 d6_83
  have G106 := G105.iload (v := (0 : Int32)) (pc' := 88) d6_86 rfl
  have G107 := G106.aloadN (v := (.ref a)) (pc' := 89) d6_88 rfl
  have G108 := G107.getF (pc' := 92) (v := (.long f0)) (host := "") (Or.inl (hw _ (List.mem_of_getElem? (i := 95) rfl))) Via.refl F83 d6_89
  have G109 := G108.iload (v := (0 : Int32)) (pc' := 94) d6_92 rfl
  have G110 := G109.i2l (pc' := 95) d6_94
  have G111 := G110.ladd (pc' := 96) d6_95
  obtain ⟨h112, W112, V112, G112⟩ := G111.stJ (i := 0) (pc' := 97) V98 g_a57 (by decide) (by simp only [List.length_set, List.length_replicate]; decide) d6_96
  have E113 : Exa Z h112 a "com/example/stackwise/stackwise/calendar/HourlyValues$Builder" := E81.wr W112
  have F114 : Fld Z h112 a "com/example/stackwise/stackwise/calendar/HourlyValues$Builder" "values" "Lcom/example/stackwise/stackwise/input/DecimalColumn$Builder;" (.ref b) := F82.other W112 (Or.inl ne58)
  have F115 : Fld Z h112 a "com/example/stackwise/stackwise/calendar/HourlyValues$Builder" "first" "J" (.long f0) := F83.other W112 (Or.inl ne58)
  have F116 : Fld Z h112 a "com/example/stackwise/stackwise/calendar/HourlyValues$Builder" "hours" "[J" (.ref a57) := F84.other W112 (Or.inl ne58)
  have E117 : Exa Z h112 b "com/example/stackwise/stackwise/input/DecimalColumn$Builder" := E85.wr W112
  have E118 : Exa Z h112 r "com/example/stackwise/stackwise/input/Decimals$Reading" := E86.wr W112
  have V119 : Av Z h112 g .byte [(.int w)] := V87.other W112 ne61
  have K120 : Keep h0 h112 [a, b, r, u] := K88.wr W112 (Or.inr sz57)
  have F121 : Fld Z h112 b "com/example/stackwise/stackwise/input/DecimalColumn$Builder" "reading" "Lcom/example/stackwise/stackwise/input/Decimals$Reading;" (.ref r) := F89.other W112 (Or.inl ne59)
  have F122 : Fld Z h112 b "com/example/stackwise/stackwise/input/DecimalColumn$Builder" "unscaled" "[J" (.ref u) := F90.other W112 (Or.inl ne59)
  have F123 : Fld Z h112 b "com/example/stackwise/stackwise/input/DecimalColumn$Builder" "scale" "I" (.int (0 : Int32)) := F91.other W112 (Or.inl ne59)
  have F124 : Fld Z h112 b "com/example/stackwise/stackwise/input/DecimalColumn$Builder" "size" "I" (.int ((((0 : Int32) + (1 : Int32)) + (1 : Int32)) + (1 : Int32))) := F92.other W112 (Or.inl ne59)
  have F125 : Fld Z h112 b "com/example/stackwise/stackwise/input/DecimalColumn$Builder" "values" "[Ljava/math/BigDecimal;" .null := F93.other W112 (Or.inl ne59)
  have V126 : Av Z h112 u .long y28 := V94.other W112 ne62
  have F127 : Fld Z h112 r "com/example/stackwise/stackwise/input/Decimals$Reading" "wide" "Ljava/math/BigDecimal;" .null := F95.other W112 (Or.inl ne60)
  have F128 : Fld Z h112 r "com/example/stackwise/stackwise/input/Decimals$Reading" "scale" "I" (.int (0 : Int32)) := F96.other W112 (Or.inl ne60)
  have F129 : Fld Z h112 r "com/example/stackwise/stackwise/input/Decimals$Reading" "unscaled" "J" (.long (((0 : Int64) * (10 : Int64)) + (w - (48 : Int32)).toInt64)) := F97.other W112 (Or.inl ne60)
  have G130 := G112.iinc (v := (1 : Int32)) (x := (0 : Int32)) (L' := #[.val (.ref a), .val (.long x1), .second, .val (.ref g), .val (.int (0 : Int32)), .val (.int (1 : Int32)), .val (.int (((0 : Int32) + (1 : Int32)) + (1 : Int32))), .val (.int (fSg (((0 : Int64) * (10 : Int64)) + (w - (48 : Int32)).toInt64))), .val (.int ((0 : Int32) + (1 : Int32)))]) (pc' := 100) d6_97 rfl rfl
  have G131 := G130.goto d6_100 75
  have G132 := G131.iload (v := ((0 : Int32) + (1 : Int32))) (pc' := 77) d6_75 rfl
  have G133 := G132.iload (v := (((0 : Int32) + (1 : Int32)) + (1 : Int32))) (pc' := 79) d6_77 rfl
  have G134 := G133.icmpN d6_79 82 (Jvm.Free.XT.ii_ge_f (by decide))
  have G135 := G134.aloadN (v := (.ref a)) (pc' := 83) d6_82 rfl
  have G136 := G135.getF (pc' := 86) (v := (.ref a57)) (host := "") (Or.inl (hw _ (List.mem_of_getElem? (i := 97) rfl))) Via.refl F116 d6_83
  have G137 := G136.iload (v := ((0 : Int32) + (1 : Int32))) (pc' := 88) d6_86 rfl
  have G138 := G137.aloadN (v := (.ref a)) (pc' := 89) d6_88 rfl
  have G139 := G138.getF (pc' := 92) (v := (.long f0)) (host := "") (Or.inl (hw _ (List.mem_of_getElem? (i := 95) rfl))) Via.refl F115 d6_89
  have G140 := G139.iload (v := ((0 : Int32) + (1 : Int32))) (pc' := 94) d6_92 rfl
  have G141 := G140.i2l (pc' := 95) d6_94
  have G142 := G141.ladd (pc' := 96) d6_95
  obtain ⟨h143, W143, V143, G143⟩ := G142.stJ (i := 1) (pc' := 97) V112 g_a57 (by decide) (by simp only [List.length_set, List.length_replicate]; decide) d6_96
  have E144 : Exa Z h143 a "com/example/stackwise/stackwise/calendar/HourlyValues$Builder" := E113.wr W143
  have F145 : Fld Z h143 a "com/example/stackwise/stackwise/calendar/HourlyValues$Builder" "values" "Lcom/example/stackwise/stackwise/input/DecimalColumn$Builder;" (.ref b) := F114.other W143 (Or.inl ne58)
  have F146 : Fld Z h143 a "com/example/stackwise/stackwise/calendar/HourlyValues$Builder" "first" "J" (.long f0) := F115.other W143 (Or.inl ne58)
  have F147 : Fld Z h143 a "com/example/stackwise/stackwise/calendar/HourlyValues$Builder" "hours" "[J" (.ref a57) := F116.other W143 (Or.inl ne58)
  have E148 : Exa Z h143 b "com/example/stackwise/stackwise/input/DecimalColumn$Builder" := E117.wr W143
  have E149 : Exa Z h143 r "com/example/stackwise/stackwise/input/Decimals$Reading" := E118.wr W143
  have V150 : Av Z h143 g .byte [(.int w)] := V119.other W143 ne61
  have K151 : Keep h0 h143 [a, b, r, u] := K120.wr W143 (Or.inr sz57)
  have F152 : Fld Z h143 b "com/example/stackwise/stackwise/input/DecimalColumn$Builder" "reading" "Lcom/example/stackwise/stackwise/input/Decimals$Reading;" (.ref r) := F121.other W143 (Or.inl ne59)
  have F153 : Fld Z h143 b "com/example/stackwise/stackwise/input/DecimalColumn$Builder" "unscaled" "[J" (.ref u) := F122.other W143 (Or.inl ne59)
  have F154 : Fld Z h143 b "com/example/stackwise/stackwise/input/DecimalColumn$Builder" "scale" "I" (.int (0 : Int32)) := F123.other W143 (Or.inl ne59)
  have F155 : Fld Z h143 b "com/example/stackwise/stackwise/input/DecimalColumn$Builder" "size" "I" (.int ((((0 : Int32) + (1 : Int32)) + (1 : Int32)) + (1 : Int32))) := F124.other W143 (Or.inl ne59)
  have F156 : Fld Z h143 b "com/example/stackwise/stackwise/input/DecimalColumn$Builder" "values" "[Ljava/math/BigDecimal;" .null := F125.other W143 (Or.inl ne59)
  have V157 : Av Z h143 u .long y28 := V126.other W143 ne62
  have F158 : Fld Z h143 r "com/example/stackwise/stackwise/input/Decimals$Reading" "wide" "Ljava/math/BigDecimal;" .null := F127.other W143 (Or.inl ne60)
  have F159 : Fld Z h143 r "com/example/stackwise/stackwise/input/Decimals$Reading" "scale" "I" (.int (0 : Int32)) := F128.other W143 (Or.inl ne60)
  have F160 : Fld Z h143 r "com/example/stackwise/stackwise/input/Decimals$Reading" "unscaled" "J" (.long (((0 : Int64) * (10 : Int64)) + (w - (48 : Int32)).toInt64)) := F129.other W143 (Or.inl ne60)
  have G161 := G143.iinc (v := (1 : Int32)) (x := ((0 : Int32) + (1 : Int32))) (L' := #[.val (.ref a), .val (.long x1), .second, .val (.ref g), .val (.int (0 : Int32)), .val (.int (1 : Int32)), .val (.int (((0 : Int32) + (1 : Int32)) + (1 : Int32))), .val (.int (fSg (((0 : Int64) * (10 : Int64)) + (w - (48 : Int32)).toInt64))), .val (.int (((0 : Int32) + (1 : Int32)) + (1 : Int32)))]) (pc' := 100) d6_97 rfl rfl
  have G162 := G161.goto d6_100 75
  have G163 := G162.iload (v := (((0 : Int32) + (1 : Int32)) + (1 : Int32))) (pc' := 77) d6_75 rfl
  have G164 := G163.iload (v := (((0 : Int32) + (1 : Int32)) + (1 : Int32))) (pc' := 79) d6_77 rfl
  have G165 := G164.icmpY d6_79 103 (Jvm.Free.XT.ii_ge_t (by decide))
  have G166 := G165.aloadN (v := (.ref a)) (pc' := 104) d6_103 rfl
  have G167 := G166.getF (pc' := 107) (v := (.ref a57)) (host := "") (Or.inl (hw _ (List.mem_of_getElem? (i := 97) rfl))) Via.refl F147 d6_104
  have G168 := G167.ifnullN d6_107 110
  have G169 := G168.iload (v := (((0 : Int32) + (1 : Int32)) + (1 : Int32))) (pc' := 112) d6_110 rfl
  have G170 := G169.aloadN (v := (.ref a)) (pc' := 113) d6_112 rfl
  have G171 := G170.getF (pc' := 116) (v := (.ref a57)) (host := "") (Or.inl (hw _ (List.mem_of_getElem? (i := 97) rfl))) Via.refl F147 d6_113
  have G172 := G171.arrlen (pc' := 117) (v := (8784 : Int32)) V143 (by simp only [List.length_set, List.length_replicate]; decide) d6_116
  have G173 := G172.icmpY d6_117 135 (Jvm.Free.XT.ii_ne_t (by decide))
  have G174 := G173.aloadN (v := (.ref a)) (pc' := 136) d6_135 rfl
  have G175 := G174.getF (pc' := 139) (v := (.ref a57)) (host := "") (Or.inl (hw _ (List.mem_of_getElem? (i := 97) rfl))) Via.refl F147 d6_136
  have G176 := G175.iload (v := (((0 : Int32) + (1 : Int32)) + (1 : Int32))) (pc' := 141) d6_139 rfl
  have G177 := G176.lloadN (v := x1) (pc' := 142) d6_141 rfl
  obtain ⟨h178, W178, V178, G178⟩ := G177.stJ (i := 2) (pc' := 143) V143 g_a57 (by decide) (by simp only [List.length_set, List.length_replicate]; decide) d6_142
  have E179 : Exa Z h178 a "com/example/stackwise/stackwise/calendar/HourlyValues$Builder" := E144.wr W178
  have F180 : Fld Z h178 a "com/example/stackwise/stackwise/calendar/HourlyValues$Builder" "values" "Lcom/example/stackwise/stackwise/input/DecimalColumn$Builder;" (.ref b) := F145.other W178 (Or.inl ne58)
  have F181 : Fld Z h178 a "com/example/stackwise/stackwise/calendar/HourlyValues$Builder" "first" "J" (.long f0) := F146.other W178 (Or.inl ne58)
  have F182 : Fld Z h178 a "com/example/stackwise/stackwise/calendar/HourlyValues$Builder" "hours" "[J" (.ref a57) := F147.other W178 (Or.inl ne58)
  have E183 : Exa Z h178 b "com/example/stackwise/stackwise/input/DecimalColumn$Builder" := E148.wr W178
  have E184 : Exa Z h178 r "com/example/stackwise/stackwise/input/Decimals$Reading" := E149.wr W178
  have V185 : Av Z h178 g .byte [(.int w)] := V150.other W178 ne61
  have K186 : Keep h0 h178 [a, b, r, u] := K151.wr W178 (Or.inr sz57)
  have F187 : Fld Z h178 b "com/example/stackwise/stackwise/input/DecimalColumn$Builder" "reading" "Lcom/example/stackwise/stackwise/input/Decimals$Reading;" (.ref r) := F152.other W178 (Or.inl ne59)
  have F188 : Fld Z h178 b "com/example/stackwise/stackwise/input/DecimalColumn$Builder" "unscaled" "[J" (.ref u) := F153.other W178 (Or.inl ne59)
  have F189 : Fld Z h178 b "com/example/stackwise/stackwise/input/DecimalColumn$Builder" "scale" "I" (.int (0 : Int32)) := F154.other W178 (Or.inl ne59)
  have F190 : Fld Z h178 b "com/example/stackwise/stackwise/input/DecimalColumn$Builder" "size" "I" (.int ((((0 : Int32) + (1 : Int32)) + (1 : Int32)) + (1 : Int32))) := F155.other W178 (Or.inl ne59)
  have F191 : Fld Z h178 b "com/example/stackwise/stackwise/input/DecimalColumn$Builder" "values" "[Ljava/math/BigDecimal;" .null := F156.other W178 (Or.inl ne59)
  have V192 : Av Z h178 u .long y28 := V157.other W178 ne62
  have F193 : Fld Z h178 r "com/example/stackwise/stackwise/input/Decimals$Reading" "wide" "Ljava/math/BigDecimal;" .null := F158.other W178 (Or.inl ne60)
  have F194 : Fld Z h178 r "com/example/stackwise/stackwise/input/Decimals$Reading" "scale" "I" (.int (0 : Int32)) := F159.other W178 (Or.inl ne60)
  have F195 : Fld Z h178 r "com/example/stackwise/stackwise/input/Decimals$Reading" "unscaled" "J" (.long (((0 : Int64) * (10 : Int64)) + (w - (48 : Int32)).toInt64)) := F160.other W178 (Or.inl ne60)
  have G196 := G178.iload (v := (fSg (((0 : Int64) * (10 : Int64)) + (w - (48 : Int32)).toInt64))) (pc' := 145) d6_143 rfl
  exact G196.retI d6_145 rfl ⟨a57, y28, rfl, K186, sz57, E179, F180, F181, F182, E183, E184, F187, F188, F189, F190, F191, V192, F193, F194, F195, V178, hx_y28⟩
theorem ef_r2 (m : MethodId) (a : Addr) (x1 : Int64) (g : Addr) : entryFrame m #[(.ref a), (.long x1), (.ref g), (.int (0 : Int32)), (.int (1 : Int32))] 9 = mkF m 0 #[.val (.ref a), .val (.long x1), .second, .val (.ref g), .val (.int (0 : Int32)), .val (.int (1 : Int32)), .unset, .unset, .unset] [] := by first | (simp [entryFrame, mkF, argsToLocals, Value.category]; done) | rfl
def rm_r2 : Room := { frames := 3, cells := 0, slots := 0, locals := 52 }
set_option maxRecDepth 65536 in
set_option maxHeartbeats 40000000 in
theorem cn_r2 (l : Launch) (Z : State) (a0 : Array Value) (hw : ∀ d ∈ tables_1, d.before a0 Z = true) (a : Addr) (x1 : Int64) (g : Addr) (b : Addr) (r : Addr) (u : Addr) (w : Int32) (w1 : Int32) (w2 : Int64) (vu : List Value) (f0 : Int64) (ha : Addr) (vh : List Value) (h0 : Heap) (n0 : Nat) (hn : n0 ≤ h0.size) (E_a : Exa Z h0 a "com/example/stackwise/stackwise/calendar/HourlyValues$Builder") (F_a_values : Fld Z h0 a "com/example/stackwise/stackwise/calendar/HourlyValues$Builder" "values" "Lcom/example/stackwise/stackwise/input/DecimalColumn$Builder;" (.ref b)) (F_a_first : Fld Z h0 a "com/example/stackwise/stackwise/calendar/HourlyValues$Builder" "first" "J" (.long f0)) (F_a_hours : Fld Z h0 a "com/example/stackwise/stackwise/calendar/HourlyValues$Builder" "hours" "[J" (.ref ha)) (E_b : Exa Z h0 b "com/example/stackwise/stackwise/input/DecimalColumn$Builder") (F_b_reading : Fld Z h0 b "com/example/stackwise/stackwise/input/DecimalColumn$Builder" "reading" "Lcom/example/stackwise/stackwise/input/Decimals$Reading;" (.ref r)) (F_b_unscaled : Fld Z h0 b "com/example/stackwise/stackwise/input/DecimalColumn$Builder" "unscaled" "[J" (.ref u)) (F_b_scale : Fld Z h0 b "com/example/stackwise/stackwise/input/DecimalColumn$Builder" "scale" "I" (.int (0 : Int32))) (F_b_size : Fld Z h0 b "com/example/stackwise/stackwise/input/DecimalColumn$Builder" "size" "I" (.int (((0 : Int32) + (1 : Int32)) + (1 : Int32)))) (F_b_values : Fld Z h0 b "com/example/stackwise/stackwise/input/DecimalColumn$Builder" "values" "[Ljava/math/BigDecimal;" .null) (E_r : Exa Z h0 r "com/example/stackwise/stackwise/input/Decimals$Reading") (F_r_wide : Fld Z h0 r "com/example/stackwise/stackwise/input/Decimals$Reading" "wide" "Ljava/math/BigDecimal;" .null) (F_r_scale : Fld Z h0 r "com/example/stackwise/stackwise/input/Decimals$Reading" "scale" "I" (.int w1)) (F_r_unscaled : Fld Z h0 r "com/example/stackwise/stackwise/input/Decimals$Reading" "unscaled" "J" (.long w2)) (V_u : Av Z h0 u .long vu) (V_g : Av Z h0 g .byte [(.int w)]) (V_ha : Av Z h0 ha .long vh) (g_a : n0 ≤ a) (g_b : n0 ≤ b) (g_r : n0 ≤ r) (g_u : n0 ≤ u) (g_ha : n0 ≤ ha) (ne_g_a : g ≠ a) (ne_b_a : b ≠ a) (ne_r_a : r ≠ a) (ne_u_a : u ≠ a) (ne_ha_a : ha ≠ a) (ne_g_b : g ≠ b) (ne_r_b : r ≠ b) (ne_u_b : u ≠ b) (ne_ha_b : ha ≠ b) (ne_g_r : g ≠ r) (ne_u_r : u ≠ r) (ne_ha_r : ha ≠ r) (ne_g_u : g ≠ u) (ne_ha_u : ha ≠ u) (ne_g_ha : g ≠ ha) (q0 : ¬ w = (45 : Int32)) (q1 : ¬ (w - (48 : Int32)) < (0 : Int32)) (q2 : ¬ (9 : Int32) < (w - (48 : Int32))) (hvu : vu.length = 8784) (hvh : vh.length = 8784) :
    Con l (⟨"com/example/stackwise/stackwise/calendar/HourlyValues$Builder", "add", "(J[BII)I"⟩ : MethodName) prog_7_method_2_code 9 (some .int) [] rm_r2 rm_r2.cells rm_r2.slots Z #[(.ref a), (.long x1), (.ref g), (.int (0 : Int32)), (.int (1 : Int32))] h0 n0 (fun v h => ∃ y29 : List Value, v = some (.int (fSg (((0 : Int64) * (10 : Int64)) + (w - (48 : Int32)).toInt64))) ∧ Keep h0 h [a, b, r, u, ha] ∧ Exa Z h a "com/example/stackwise/stackwise/calendar/HourlyValues$Builder" ∧ Fld Z h a "com/example/stackwise/stackwise/calendar/HourlyValues$Builder" "values" "Lcom/example/stackwise/stackwise/input/DecimalColumn$Builder;" (.ref b) ∧ Fld Z h a "com/example/stackwise/stackwise/calendar/HourlyValues$Builder" "first" "J" (.long f0) ∧ Fld Z h a "com/example/stackwise/stackwise/calendar/HourlyValues$Builder" "hours" "[J" (.ref ha) ∧ Exa Z h b "com/example/stackwise/stackwise/input/DecimalColumn$Builder" ∧ Exa Z h r "com/example/stackwise/stackwise/input/Decimals$Reading" ∧ Av Z h ha .long (List.set vh 2 (.long x1)) ∧ Fld Z h b "com/example/stackwise/stackwise/input/DecimalColumn$Builder" "reading" "Lcom/example/stackwise/stackwise/input/Decimals$Reading;" (.ref r) ∧ Fld Z h b "com/example/stackwise/stackwise/input/DecimalColumn$Builder" "unscaled" "[J" (.ref u) ∧ Fld Z h b "com/example/stackwise/stackwise/input/DecimalColumn$Builder" "scale" "I" (.int (0 : Int32)) ∧ Fld Z h b "com/example/stackwise/stackwise/input/DecimalColumn$Builder" "size" "I" (.int ((((0 : Int32) + (1 : Int32)) + (1 : Int32)) + (1 : Int32))) ∧ Fld Z h b "com/example/stackwise/stackwise/input/DecimalColumn$Builder" "values" "[Ljava/math/BigDecimal;" .null ∧ Av Z h u .long y29 ∧ Fld Z h r "com/example/stackwise/stackwise/input/Decimals$Reading" "wide" "Ljava/math/BigDecimal;" .null ∧ Fld Z h r "com/example/stackwise/stackwise/input/Decimals$Reading" "scale" "I" (.int (0 : Int32)) ∧ Fld Z h r "com/example/stackwise/stackwise/input/Decimals$Reading" "unscaled" "J" (.long (((0 : Int64) * (10 : Int64)) + (w - (48 : Int32)).toInt64)) ∧ y29.length = 8784) := by
  refine Con.of (plainFor_of_name pn2) hn (fun m => ef_r2 m a x1 g) ?_
  intro p e s m below meth c s₀ hnm G0
  have K0 : Keep h0 h0 [a, b, r, u, ha] := Keep.refl _ _
  have G1 := G0.aloadN (v := (.ref a)) (pc' := 1) d6_0 rfl
  have G2 := G1.getF (pc' := 4) (v := (.ref b)) (host := "") (Or.inl (hw _ (List.mem_of_getElem? (i := 33) rfl))) Via.refl F_a_values d6_1
  obtain ⟨v3, h3, ⟨ev3, K3⟩, g3⟩ := G2.callV (argsL := []) (rest := []) (pc' := 7) (k' := 0) (j' := 0) (cn7 l Z a0 hw b (((0 : Int32) + (1 : Int32)) + (1 : Int32)) h0 n0 G2.size F_b_size) rfl E_b (hw _ (List.mem_of_getElem? (i := 40) rfl)) (hw _ (List.mem_of_getElem? (i := 41) rfl)) (hw _ (List.mem_of_getElem? (i := 43) rfl)) (hw _ (List.mem_of_getElem? (i := 42) rfl)) (hw _ (List.mem_of_getElem? (i := 12) rfl)) (hw _ (List.mem_of_getElem? (i := 44) rfl)) (by decide) d6_4 pd7 rfl (W := 0) rfl rfl (by decide) (by decide) (by decide) (by decide) rfl rfl rfl
  subst ev3
  have G3 := g3 [(.int (((0 : Int32) + (1 : Int32)) + (1 : Int32)))] rfl
  have E4 : Exa Z h3 a "com/example/stackwise/stackwise/calendar/HourlyValues$Builder" := E_a.keep K3
  have F5 : Fld Z h3 a "com/example/stackwise/stackwise/calendar/HourlyValues$Builder" "values" "Lcom/example/stackwise/stackwise/input/DecimalColumn$Builder;" (.ref b) := F_a_values.keep K3 nin0
  have F6 : Fld Z h3 a "com/example/stackwise/stackwise/calendar/HourlyValues$Builder" "first" "J" (.long f0) := F_a_first.keep K3 nin0
  have F7 : Fld Z h3 a "com/example/stackwise/stackwise/calendar/HourlyValues$Builder" "hours" "[J" (.ref ha) := F_a_hours.keep K3 nin0
  have E8 : Exa Z h3 b "com/example/stackwise/stackwise/input/DecimalColumn$Builder" := E_b.keep K3
  have F9 : Fld Z h3 b "com/example/stackwise/stackwise/input/DecimalColumn$Builder" "reading" "Lcom/example/stackwise/stackwise/input/Decimals$Reading;" (.ref r) := F_b_reading.keep K3 nin0
  have F10 : Fld Z h3 b "com/example/stackwise/stackwise/input/DecimalColumn$Builder" "unscaled" "[J" (.ref u) := F_b_unscaled.keep K3 nin0
  have F11 : Fld Z h3 b "com/example/stackwise/stackwise/input/DecimalColumn$Builder" "scale" "I" (.int (0 : Int32)) := F_b_scale.keep K3 nin0
  have F12 : Fld Z h3 b "com/example/stackwise/stackwise/input/DecimalColumn$Builder" "size" "I" (.int (((0 : Int32) + (1 : Int32)) + (1 : Int32))) := F_b_size.keep K3 nin0
  have F13 : Fld Z h3 b "com/example/stackwise/stackwise/input/DecimalColumn$Builder" "values" "[Ljava/math/BigDecimal;" .null := F_b_values.keep K3 nin0
  have E14 : Exa Z h3 r "com/example/stackwise/stackwise/input/Decimals$Reading" := E_r.keep K3
  have F15 : Fld Z h3 r "com/example/stackwise/stackwise/input/Decimals$Reading" "wide" "Ljava/math/BigDecimal;" .null := F_r_wide.keep K3 nin0
  have F16 : Fld Z h3 r "com/example/stackwise/stackwise/input/Decimals$Reading" "scale" "I" (.int w1) := F_r_scale.keep K3 nin0
  have F17 : Fld Z h3 r "com/example/stackwise/stackwise/input/Decimals$Reading" "unscaled" "J" (.long w2) := F_r_unscaled.keep K3 nin0
  have V18 : Av Z h3 u .long vu := V_u.keep K3 nin0
  have V19 : Av Z h3 g .byte [(.int w)] := V_g.keep K3 nin0
  have V20 : Av Z h3 ha .long vh := V_ha.keep K3 nin0
  have K21 : Keep h0 h3 [a, b, r, u, ha] := K0.trans K3 all0
  have G22 := G3.istore (L' := #[.val (.ref a), .val (.long x1), .second, .val (.ref g), .val (.int (0 : Int32)), .val (.int (1 : Int32)), .val (.int (((0 : Int32) + (1 : Int32)) + (1 : Int32))), .unset, .unset]) (pc' := 9) d6_7 rfl
  have G23 := G22.aloadN (v := (.ref a)) (pc' := 10) d6_9 rfl
  have G24 := G23.getF (pc' := 13) (v := (.ref b)) (host := "") (Or.inl (hw _ (List.mem_of_getElem? (i := 33) rfl))) Via.refl F5 d6_10
  have G25 := G24.aloadN (v := (.ref g)) (pc' := 14) d6_13 rfl
  have G26 := G25.iload (v := (0 : Int32)) (pc' := 16) d6_14 rfl
  have G27 := G26.iload (v := (1 : Int32)) (pc' := 18) d6_16 rfl
  obtain ⟨v28, h28, ⟨y29, ev28, K28, F28_0, F28_1, F28_2, F28_3, F28_4, F28_5, F28_6, F28_7, F28_8, F28_9, F28_10, hx_y29⟩, g28⟩ := G27.callV (argsL := [(.ref g), (.int (0 : Int32)), (.int (1 : Int32))]) (rest := []) (pc' := 21) (k' := 0) (j' := 0) (cn8 l Z a0 hw b g r u w w1 w2 vu (((0 : Int32) + (1 : Int32)) + (1 : Int32)) 2 h3 n0 G27.size E8 F9 F10 F11 F12 F13 E14 F15 F16 F17 V18 V19 g_b g_r g_u ne_g_b ne_r_b ne_u_b ne_g_r ne_u_r ne_g_u q0 q1 q2 (by decide) (by decide) hvu) rfl E8 (hw _ (List.mem_of_getElem? (i := 47) rfl)) (hw _ (List.mem_of_getElem? (i := 48) rfl)) (hw _ (List.mem_of_getElem? (i := 50) rfl)) (hw _ (List.mem_of_getElem? (i := 49) rfl)) (hw _ (List.mem_of_getElem? (i := 12) rfl)) (hw _ (List.mem_of_getElem? (i := 51) rfl)) (by decide) d6_18 pd4 rfl (W := 0) rfl rfl (by decide) (by decide) (by decide) (by decide) rfl rfl rfl
  subst ev28
  have G28 := g28 [(.int (fSg (((0 : Int64) * (10 : Int64)) + (w - (48 : Int32)).toInt64)))] rfl
  have E30 : Exa Z h28 a "com/example/stackwise/stackwise/calendar/HourlyValues$Builder" := E4.keep K28
  have F31 : Fld Z h28 a "com/example/stackwise/stackwise/calendar/HourlyValues$Builder" "values" "Lcom/example/stackwise/stackwise/input/DecimalColumn$Builder;" (.ref b) := F5.keep K28 (ninS (Ne.symm ne_b_a) (ninS (Ne.symm ne_r_a) (ninS (Ne.symm ne_u_a) nin0)))
  have F32 : Fld Z h28 a "com/example/stackwise/stackwise/calendar/HourlyValues$Builder" "first" "J" (.long f0) := F6.keep K28 (ninS (Ne.symm ne_b_a) (ninS (Ne.symm ne_r_a) (ninS (Ne.symm ne_u_a) nin0)))
  have F33 : Fld Z h28 a "com/example/stackwise/stackwise/calendar/HourlyValues$Builder" "hours" "[J" (.ref ha) := F7.keep K28 (ninS (Ne.symm ne_b_a) (ninS (Ne.symm ne_r_a) (ninS (Ne.symm ne_u_a) nin0)))
  have E34 : Exa Z h28 b "com/example/stackwise/stackwise/input/DecimalColumn$Builder" := E8.keep K28
  have E35 : Exa Z h28 r "com/example/stackwise/stackwise/input/Decimals$Reading" := E14.keep K28
  have V36 : Av Z h28 g .byte [(.int w)] := V19.keep K28 (ninS ne_g_b (ninS ne_g_r (ninS ne_g_u nin0)))
  have V37 : Av Z h28 ha .long vh := V20.keep K28 (ninS ne_ha_b (ninS ne_ha_r (ninS ne_ha_u nin0)))
  have K38 : Keep h0 h28 [a, b, r, u, ha] := K21.trans K28 (allS (Or.inl (List.mem_of_getElem? (i := 1) rfl)) (allS (Or.inl (List.mem_of_getElem? (i := 2) rfl)) (allS (Or.inl (List.mem_of_getElem? (i := 3) rfl)) all0)))
  have G39 := G28.istore (L' := #[.val (.ref a), .val (.long x1), .second, .val (.ref g), .val (.int (0 : Int32)), .val (.int (1 : Int32)), .val (.int (((0 : Int32) + (1 : Int32)) + (1 : Int32))), .val (.int (fSg (((0 : Int64) * (10 : Int64)) + (w - (48 : Int32)).toInt64))), .unset]) (pc' := 23) d6_21 rfl
  have G40 := G39.iload (v := (((0 : Int32) + (1 : Int32)) + (1 : Int32))) (pc' := 25) d6_23 rfl
  have G41 := G40.ifY d6_25 36 (Jvm.Free.XT.i0_ne_t (by decide))
  have G42 := G41.aloadN (v := (.ref a)) (pc' := 37) d6_36 rfl
  have G43 := G42.getF (pc' := 40) (v := (.ref ha)) (host := "") (Or.inl (hw _ (List.mem_of_getElem? (i := 97) rfl))) Via.refl F33 d6_37
  have G44 := G43.ifnonnullY d6_40 103
  have G45 := G44.aloadN (v := (.ref a)) (pc' := 104) d6_103 rfl
  have G46 := G45.getF (pc' := 107) (v := (.ref ha)) (host := "") (Or.inl (hw _ (List.mem_of_getElem? (i := 97) rfl))) Via.refl F33 d6_104
  have G47 := G46.ifnullN d6_107 110
  have G48 := G47.iload (v := (((0 : Int32) + (1 : Int32)) + (1 : Int32))) (pc' := 112) d6_110 rfl
  have G49 := G48.aloadN (v := (.ref a)) (pc' := 113) d6_112 rfl
  have G50 := G49.getF (pc' := 116) (v := (.ref ha)) (host := "") (Or.inl (hw _ (List.mem_of_getElem? (i := 97) rfl))) Via.refl F33 d6_113
  have G51 := G50.arrlen (pc' := 117) (v := (8784 : Int32)) V37 (by rw [hvh]; decide) d6_116
  have G52 := G51.icmpY d6_117 135 (Jvm.Free.XT.ii_ne_t (by decide))
  have G53 := G52.aloadN (v := (.ref a)) (pc' := 136) d6_135 rfl
  have G54 := G53.getF (pc' := 139) (v := (.ref ha)) (host := "") (Or.inl (hw _ (List.mem_of_getElem? (i := 97) rfl))) Via.refl F33 d6_136
  have G55 := G54.iload (v := (((0 : Int32) + (1 : Int32)) + (1 : Int32))) (pc' := 141) d6_139 rfl
  have G56 := G55.lloadN (v := x1) (pc' := 142) d6_141 rfl
  obtain ⟨h57, W57, V57, G57⟩ := G56.stJ (i := 2) (pc' := 143) V37 g_ha (by decide) (by rw [hvh]; decide) d6_142
  have E58 : Exa Z h57 a "com/example/stackwise/stackwise/calendar/HourlyValues$Builder" := E30.wr W57
  have F59 : Fld Z h57 a "com/example/stackwise/stackwise/calendar/HourlyValues$Builder" "values" "Lcom/example/stackwise/stackwise/input/DecimalColumn$Builder;" (.ref b) := F31.other W57 (Or.inl (Ne.symm ne_ha_a))
  have F60 : Fld Z h57 a "com/example/stackwise/stackwise/calendar/HourlyValues$Builder" "first" "J" (.long f0) := F32.other W57 (Or.inl (Ne.symm ne_ha_a))
  have F61 : Fld Z h57 a "com/example/stackwise/stackwise/calendar/HourlyValues$Builder" "hours" "[J" (.ref ha) := F33.other W57 (Or.inl (Ne.symm ne_ha_a))
  have E62 : Exa Z h57 b "com/example/stackwise/stackwise/input/DecimalColumn$Builder" := F28_0.wr W57
  have E63 : Exa Z h57 r "com/example/stackwise/stackwise/input/Decimals$Reading" := F28_6.wr W57
  have V64 : Av Z h57 g .byte [(.int w)] := V36.other W57 ne_g_ha
  have K65 : Keep h0 h57 [a, b, r, u, ha] := K38.wr W57 (Or.inl (List.mem_of_getElem? (i := 4) rfl))
  have F66 : Fld Z h57 b "com/example/stackwise/stackwise/input/DecimalColumn$Builder" "reading" "Lcom/example/stackwise/stackwise/input/Decimals$Reading;" (.ref r) := F28_1.other W57 (Or.inl (Ne.symm ne_ha_b))
  have F67 : Fld Z h57 b "com/example/stackwise/stackwise/input/DecimalColumn$Builder" "unscaled" "[J" (.ref u) := F28_2.other W57 (Or.inl (Ne.symm ne_ha_b))
  have F68 : Fld Z h57 b "com/example/stackwise/stackwise/input/DecimalColumn$Builder" "scale" "I" (.int (0 : Int32)) := F28_3.other W57 (Or.inl (Ne.symm ne_ha_b))
  have F69 : Fld Z h57 b "com/example/stackwise/stackwise/input/DecimalColumn$Builder" "size" "I" (.int ((((0 : Int32) + (1 : Int32)) + (1 : Int32)) + (1 : Int32))) := F28_4.other W57 (Or.inl (Ne.symm ne_ha_b))
  have F70 : Fld Z h57 b "com/example/stackwise/stackwise/input/DecimalColumn$Builder" "values" "[Ljava/math/BigDecimal;" .null := F28_5.other W57 (Or.inl (Ne.symm ne_ha_b))
  have V71 : Av Z h57 u .long y29 := F28_7.other W57 (Ne.symm ne_ha_u)
  have F72 : Fld Z h57 r "com/example/stackwise/stackwise/input/Decimals$Reading" "wide" "Ljava/math/BigDecimal;" .null := F28_8.other W57 (Or.inl (Ne.symm ne_ha_r))
  have F73 : Fld Z h57 r "com/example/stackwise/stackwise/input/Decimals$Reading" "scale" "I" (.int (0 : Int32)) := F28_9.other W57 (Or.inl (Ne.symm ne_ha_r))
  have F74 : Fld Z h57 r "com/example/stackwise/stackwise/input/Decimals$Reading" "unscaled" "J" (.long (((0 : Int64) * (10 : Int64)) + (w - (48 : Int32)).toInt64)) := F28_10.other W57 (Or.inl (Ne.symm ne_ha_r))
  have G75 := G57.iload (v := (fSg (((0 : Int64) * (10 : Int64)) + (w - (48 : Int32)).toInt64))) (pc' := 145) d6_143 rfl
  exact G75.retI d6_145 rfl ⟨y29, rfl, K65, E58, F59, F60, F61, E62, E63, V57, F66, F67, F68, F69, F70, V71, F72, F73, F74, hx_y29⟩
theorem d16_0 : decode prog_7_method_6_code 0 = .ok (.aload_n 0, 1) := by decide +kernel
theorem d16_1 : decode prog_7_method_6_code 1 = .ok (.getfield 32, 3) := by decide +kernel
theorem d16_4 : decode prog_7_method_6_code 4 = .ok (.ifnonnull 13, 3) := by decide +kernel
theorem d16_7 : decode prog_7_method_6_code 7 = .ok (.aload_n 0, 1) := by decide +kernel
theorem d16_8 : decode prog_7_method_6_code 8 = .ok (.getfield 28, 3) := by decide +kernel
theorem d16_11 : decode prog_7_method_6_code 11 = .ok (.iload_n 1, 1) := by decide +kernel
theorem d16_12 : decode prog_7_method_6_code 12 = .ok (.i2l, 1) := by decide +kernel
theorem d16_13 : decode prog_7_method_6_code 13 = .ok (.ladd, 1) := by decide +kernel
theorem d16_14 : decode prog_7_method_6_code 14 = .ok (.goto 9, 3) := by decide +kernel
theorem d16_17 : decode prog_7_method_6_code 17 = .ok (.aload_n 0, 1) := by decide +kernel
theorem d16_18 : decode prog_7_method_6_code 18 = .ok (.getfield 32, 3) := by decide +kernel
theorem d16_21 : decode prog_7_method_6_code 21 = .ok (.iload_n 1, 1) := by decide +kernel
theorem d16_22 : decode prog_7_method_6_code 22 = .ok (.laload, 1) := by decide +kernel
theorem d16_23 : decode prog_7_method_6_code 23 = .ok (.lreturn, 1) := by decide +kernel
theorem ef_hN (m : MethodId) (a : Addr) (x0 : Int32) : entryFrame m #[(.ref a), (.int x0)] 2 = mkF m 0 #[.val (.ref a), .val (.int x0)] [] := by first | (simp [entryFrame, mkF, argsToLocals, Value.category]; done) | rfl
def rm_hN : Room := { frames := 0, cells := 0, slots := 0, locals := 0 }
set_option maxRecDepth 65536 in
set_option maxHeartbeats 40000000 in
theorem cn_hN (l : Launch) (Z : State) (a0 : Array Value) (hw : ∀ d ∈ tables_1, d.before a0 Z = true) (a : Addr) (x0 : Int32) (f0 : Int64) (h0 : Heap) (n0 : Nat) (hn : n0 ≤ h0.size) (F_a_first : Fld Z h0 a "com/example/stackwise/stackwise/calendar/HourlyValues$Builder" "first" "J" (.long f0)) (F_a_hours : Fld Z h0 a "com/example/stackwise/stackwise/calendar/HourlyValues$Builder" "hours" "[J" .null) :
    Con l (⟨"com/example/stackwise/stackwise/calendar/HourlyValues$Builder", "hour", "(I)J"⟩ : MethodName) prog_7_method_6_code 2 (some .long) [] rm_hN rm_hN.cells rm_hN.slots Z #[(.ref a), (.int x0)] h0 n0 (fun v h => v = some (.long (f0 + x0.toInt64)) ∧ Keep h0 h []) := by
  refine Con.of (plainFor_of_name pn2) hn (fun m => ef_hN m a x0) ?_
  intro p e s m below meth c s₀ hnm G0
  have K0 : Keep h0 h0 [] := Keep.refl _ _
  have G1 := G0.aloadN (v := (.ref a)) (pc' := 1) d16_0 rfl
  have G2 := G1.getF (pc' := 4) (v := .null) (host := "") (Or.inl (hw _ (List.mem_of_getElem? (i := 97) rfl))) Via.refl F_a_hours d16_1
  have G3 := G2.ifnonnullN d16_4 7
  have G4 := G3.aloadN (v := (.ref a)) (pc' := 8) d16_7 rfl
  have G5 := G4.getF (pc' := 11) (v := (.long f0)) (host := "") (Or.inl (hw _ (List.mem_of_getElem? (i := 95) rfl))) Via.refl F_a_first d16_8
  have G6 := G5.iloadN (v := x0) (pc' := 12) d16_11 rfl
  have G7 := G6.i2l (pc' := 13) d16_12
  have G8 := G7.ladd (pc' := 14) d16_13
  have G9 := G8.goto d16_14 23
  exact G9.retJ d16_23 rfl ⟨rfl, K0⟩
theorem ef_hA (m : MethodId) (a : Addr) (x0 : Int32) : entryFrame m #[(.ref a), (.int x0)] 2 = mkF m 0 #[.val (.ref a), .val (.int x0)] [] := by first | (simp [entryFrame, mkF, argsToLocals, Value.category]; done) | rfl
def rm_hA : Room := { frames := 0, cells := 0, slots := 0, locals := 0 }
set_option maxRecDepth 65536 in
set_option maxHeartbeats 40000000 in
theorem cn_hA (l : Launch) (Z : State) (a0 : Array Value) (hw : ∀ d ∈ tables_1, d.before a0 Z = true) (a : Addr) (x0 : Int32) (ha : Addr) (vh : List Value) (k : Nat) (y : Int64) (h0 : Heap) (n0 : Nat) (hn : n0 ≤ h0.size) (F_a_hours : Fld Z h0 a "com/example/stackwise/stackwise/calendar/HourlyValues$Builder" "hours" "[J" (.ref ha)) (V_ha : Av Z h0 ha .long vh) (hk : x0.toInt = (k : Int)) (hv : vh[k]? = some (.long y)) :
    Con l (⟨"com/example/stackwise/stackwise/calendar/HourlyValues$Builder", "hour", "(I)J"⟩ : MethodName) prog_7_method_6_code 2 (some .long) [] rm_hA rm_hA.cells rm_hA.slots Z #[(.ref a), (.int x0)] h0 n0 (fun v h => v = some (.long y) ∧ Keep h0 h []) := by
  refine Con.of (plainFor_of_name pn2) hn (fun m => ef_hA m a x0) ?_
  intro p e s m below meth c s₀ hnm G0
  have K0 : Keep h0 h0 [] := Keep.refl _ _
  have G1 := G0.aloadN (v := (.ref a)) (pc' := 1) d16_0 rfl
  have G2 := G1.getF (pc' := 4) (v := (.ref ha)) (host := "") (Or.inl (hw _ (List.mem_of_getElem? (i := 97) rfl))) Via.refl F_a_hours d16_1
  have G3 := G2.ifnonnullY d16_4 17
  have G4 := G3.aloadN (v := (.ref a)) (pc' := 18) d16_17 rfl
  have G5 := G4.getF (pc' := 21) (v := (.ref ha)) (host := "") (Or.inl (hw _ (List.mem_of_getElem? (i := 97) rfl))) Via.refl F_a_hours d16_18
  have G6 := G5.iloadN (v := x0) (pc' := 22) d16_21 rfl
  have G7 := G6.ldJ (i := k) (v := (.long y)) (pc' := 23) V_ha hk hv d16_22
  exact G7.retJ d16_23 rfl ⟨rfl, K0⟩
theorem own_z (x : Int64) : (x + (0 : Int32).toInt64) = x := by
  have e : (0 : Int32).toInt64 = 0 := rfl
  rw [e]; exact Int64.add_zero x
theorem own_lt23 (z : Int32) (h : z < (2 : Int32)) : z < (3 : Int32) := Int32.lt_trans h (by decide)
theorem own_c8 (x : Int32) : (x &&& (7 : Int32)) = 0 ∨ (x &&& (7 : Int32)) = 1 ∨ (x &&& (7 : Int32)) = 2 ∨ (x &&& (7 : Int32)) = 3 ∨ (x &&& (7 : Int32)) = 4 ∨ (x &&& (7 : Int32)) = 5 ∨ (x &&& (7 : Int32)) = 6 ∨ (x &&& (7 : Int32)) = 7 := by
  have n := c_and x 7 (by decide)
  have k7 : (7 : Int32).toInt = 7 := rfl
  simp only [k7] at n
  have h : (x &&& (7 : Int32)).toInt = 0 ∨ (x &&& (7 : Int32)).toInt = 1 ∨ (x &&& (7 : Int32)).toInt = 2 ∨ (x &&& (7 : Int32)).toInt = 3 ∨ (x &&& (7 : Int32)).toInt = 4 ∨ (x &&& (7 : Int32)).toInt = 5 ∨ (x &&& (7 : Int32)).toInt = 6 ∨ (x &&& (7 : Int32)).toInt = 7 := by omega
  rcases h with h | h | h | h | h | h | h | h
  · exact Or.inl (Int32.toInt_inj.mp h)
  · exact Or.inr (Or.inl (Int32.toInt_inj.mp h))
  · exact Or.inr (Or.inr (Or.inl (Int32.toInt_inj.mp h)))
  · exact Or.inr (Or.inr (Or.inr (Or.inl (Int32.toInt_inj.mp h))))
  · exact Or.inr (Or.inr (Or.inr (Or.inr (Or.inl (Int32.toInt_inj.mp h)))))
  · exact Or.inr (Or.inr (Or.inr (Or.inr (Or.inr (Or.inl (Int32.toInt_inj.mp h))))))
  · exact Or.inr (Or.inr (Or.inr (Or.inr (Or.inr (Or.inr (Or.inl (Int32.toInt_inj.mp h)))))))
  · exact Or.inr (Or.inr (Or.inr (Or.inr (Or.inr (Or.inr (Or.inr (Int32.toInt_inj.mp h)))))))
theorem own_dig (x w : Int32) (h : w = nar .byte ((48 : Int32) + (x &&& (7 : Int32))).toInt8.toInt32) : ¬ w = (45 : Int32) ∧ ¬ (w - (48 : Int32)) < (0 : Int32) ∧ ¬ (9 : Int32) < (w - (48 : Int32)) := by
  rcases own_c8 x with e | e | e | e | e | e | e | e <;> rw [h, e] <;> decide
theorem pn4 : plainName "com/example/stackwise/stackwise/calendar/BuilderHourPinLaw" = true := by first | (simp [plainName, overriddenIn]; done) | decide +kernel
theorem ef0 (m : MethodId) (x0 : Int64) (x1 : Int64) (x2 : Int64) (x3 : Int32) : entryFrame m #[(.long x0), (.long x1), (.long x2), (.int x3)] maxLocals = mkF m 0 #[.val (.long x0), .second, .val (.long x1), .second, .val (.long x2), .second, .val (.int x3), .unset, .unset, .unset, .unset, .unset, .unset, .unset, .unset, .unset, .unset] [] := by first | (simp [entryFrame, mkF, argsToLocals, Value.category, maxLocals]; done) | rfl
theorem pd9 : parseMethodDescriptor "(J[BII)I" = some ⟨[.long, (.array .byte), .int, .int], some .int⟩ := by decide +kernel
theorem pd10 : parseMethodDescriptor "(I)J" = some ⟨[.int], some .long⟩ := by decide +kernel
set_option maxRecDepth 65536 in
set_option maxHeartbeats 40000000 in
theorem lawc (l : Launch) (Z : State) (a0 : Array Value) (hw : ∀ d ∈ tables_1, d.before a0 Z = true) (x0 : Int64) (x1 : Int64) (x2 : Int64) (x3 : Int32) (h0 : Heap) (n0 : Nat) (hn : n0 ≤ h0.size) :
    Con l x code maxLocals ret tables_1 room_1 24 35264 Z #[(.long x0), (.long x1), (.long x2), (.int x3)] h0 n0 (fun v _ => v = some (.int 1)) := by
  refine Con.of (plainFor_of_name pn4) hn (fun m => ef0 m x0 x1 x2 x3) ?_
  intro p e s m below meth c s₀ hnm G0
  have G1 := G0.iload (v := x3) (pc' := 2) at_0 rfl
  have G2 := G1.iconst (v := (1 : Int32)) (pc' := 3) at_2
  have G3 := G2.iand (pc' := 4) at_3
  obtain ⟨za, e_za, G9⟩ : ∃ za : Int32, za = (if (x3 &&& (1 : Int32)) = (0 : Int32) then (0 : Int32) else (1 : Int32)) ∧ Go p l e room_1 s m #[(.long x0), (.long x1), (.long x2), (.int x3)] below meth c Z x.cls code maxLocals ret n0 s₀ h0 0 0 12 #[.val (.long x0), .second, .val (.long x1), .second, .val (.long x2), .second, .val (.int x3), .unset, .unset, .unset, .unset, .unset, .unset, .unset, .unset, .unset, .unset] [(.int za)] := by
    by_cases c4_3 : (x3 &&& (1 : Int32)) = (0 : Int32)
    · have G4 := G3.ifY at_4 11 (Jvm.Free.XT.i0_eq_t c4_3)
      have G5 := G4.iconst (v := (0 : Int32)) (pc' := 12) at_11
      exact ⟨(0 : Int32), by rw [if_pos c4_3], G5⟩
    · have G6 := G3.ifN at_4 7 (Jvm.Free.XT.i0_eq_f c4_3)
      have G7 := G6.iconst (v := (1 : Int32)) (pc' := 8) at_7
      have G8 := G7.goto at_8 12
      exact ⟨(1 : Int32), by rw [if_neg c4_3], G8⟩
  have G10 := G9.istore (L' := #[.val (.long x0), .second, .val (.long x1), .second, .val (.long x2), .second, .val (.int x3), .val (.int za), .unset, .unset, .unset, .unset, .unset, .unset, .unset, .unset, .unset]) (pc' := 14) at_12 rfl
  have G11 := G10.iload (v := x3) (pc' := 16) at_14 rfl
  have G12 := G11.iconst (v := (2 : Int32)) (pc' := 17) at_16
  have G13 := G12.iand (pc' := 18) at_17
  obtain ⟨zb, e_zb, G19⟩ : ∃ zb : Int32, zb = (if (x3 &&& (2 : Int32)) = (0 : Int32) then (0 : Int32) else (1 : Int32)) ∧ Go p l e room_1 s m #[(.long x0), (.long x1), (.long x2), (.int x3)] below meth c Z x.cls code maxLocals ret n0 s₀ h0 0 0 26 #[.val (.long x0), .second, .val (.long x1), .second, .val (.long x2), .second, .val (.int x3), .val (.int za), .unset, .unset, .unset, .unset, .unset, .unset, .unset, .unset, .unset] [(.int zb)] := by
    by_cases c18_13 : (x3 &&& (2 : Int32)) = (0 : Int32)
    · have G14 := G13.ifY at_18 25 (Jvm.Free.XT.i0_eq_t c18_13)
      have G15 := G14.iconst (v := (0 : Int32)) (pc' := 26) at_25
      exact ⟨(0 : Int32), by rw [if_pos c18_13], G15⟩
    · have G16 := G13.ifN at_18 21 (Jvm.Free.XT.i0_eq_f c18_13)
      have G17 := G16.iconst (v := (1 : Int32)) (pc' := 22) at_21
      have G18 := G17.goto at_22 26
      exact ⟨(1 : Int32), by rw [if_neg c18_13], G18⟩
  have G20 := G19.istore (L' := #[.val (.long x0), .second, .val (.long x1), .second, .val (.long x2), .second, .val (.int x3), .val (.int za), .val (.int zb), .unset, .unset, .unset, .unset, .unset, .unset, .unset, .unset]) (pc' := 28) at_26 rfl
  have G21 := G20.iload (v := za) (pc' := 30) at_28 rfl
  obtain ⟨zh1, e_zh1, G29⟩ : ∃ zh1 : Int64, zh1 = (if za = (0 : Int32) then x1 else (x0 + (1 : Int64))) ∧ Go p l e room_1 s m #[(.long x0), (.long x1), (.long x2), (.int x3)] below meth c Z x.cls code maxLocals ret n0 s₀ h0 0 0 40 #[.val (.long x0), .second, .val (.long x1), .second, .val (.long x2), .second, .val (.int x3), .val (.int za), .val (.int zb), .unset, .unset, .unset, .unset, .unset, .unset, .unset, .unset] [(.long zh1)] := by
    by_cases c30_21 : za = (0 : Int32)
    · have G22 := G21.ifY at_30 39 (Jvm.Free.XT.i0_eq_t c30_21)
      have G23 := G22.lloadN (v := x1) (pc' := 40) at_39 rfl
      exact ⟨x1, by rw [if_pos c30_21], G23⟩
    · have G24 := G21.ifN at_30 33 (Jvm.Free.XT.i0_eq_f c30_21)
      have G25 := G24.lloadN (v := x0) (pc' := 34) at_33 rfl
      have G26 := G25.lconst (v := (1 : Int64)) (pc' := 35) at_34
      have G27 := G26.ladd (pc' := 36) at_35
      have G28 := G27.goto at_36 40
      exact ⟨(x0 + (1 : Int64)), by rw [if_neg c30_21], G28⟩
  have G30 := G29.lstore (L' := #[.val (.long x0), .second, .val (.long x1), .second, .val (.long x2), .second, .val (.int x3), .val (.int za), .val (.int zb), .val (.long zh1), .second, .unset, .unset, .unset, .unset, .unset, .unset]) (pc' := 42) at_40 rfl
  have G31 := G30.iload (v := zb) (pc' := 44) at_42 rfl
  obtain ⟨zh2, e_zh2, G39⟩ : ∃ zh2 : Int64, zh2 = (if zb = (0 : Int32) then x2 else (zh1 + (1 : Int64))) ∧ Go p l e room_1 s m #[(.long x0), (.long x1), (.long x2), (.int x3)] below meth c Z x.cls code maxLocals ret n0 s₀ h0 0 0 56 #[.val (.long x0), .second, .val (.long x1), .second, .val (.long x2), .second, .val (.int x3), .val (.int za), .val (.int zb), .val (.long zh1), .second, .unset, .unset, .unset, .unset, .unset, .unset] [(.long zh2)] := by
    by_cases c44_31 : zb = (0 : Int32)
    · have G32 := G31.ifY at_44 54 (Jvm.Free.XT.i0_eq_t c44_31)
      have G33 := G32.lload (v := x2) (pc' := 56) at_54 rfl
      exact ⟨x2, by rw [if_pos c44_31], G33⟩
    · have G34 := G31.ifN at_44 47 (Jvm.Free.XT.i0_eq_f c44_31)
      have G35 := G34.lload (v := zh1) (pc' := 49) at_47 rfl
      have G36 := G35.lconst (v := (1 : Int64)) (pc' := 50) at_49
      have G37 := G36.ladd (pc' := 51) at_50
      have G38 := G37.goto at_51 56
      exact ⟨(zh1 + (1 : Int64)), by rw [if_neg c44_31], G38⟩
  have G40 := G39.lstore (L' := #[.val (.long x0), .second, .val (.long x1), .second, .val (.long x2), .second, .val (.int x3), .val (.int za), .val (.int zb), .val (.long zh1), .second, .val (.long zh2), .second, .unset, .unset, .unset, .unset]) (pc' := 58) at_56 rfl
  have G41 := G40.iconst (v := (1 : Int32)) (pc' := 59) at_58
  have G42 := G41.iload (v := x3) (pc' := 61) at_59 rfl
  have G43 := G42.iconst (v := (2 : Int32)) (pc' := 62) at_61
  have G44 := G43.iushr (pc' := 63) at_62
  have G45 := G44.iconst (v := (3 : Int32)) (pc' := 64) at_63
  have G46 := G45.iand (pc' := 65) at_64
  have G47 := G46.iconst (v := (3 : Int32)) (pc' := 66) at_65
  have G48 := G47.irem (pc' := 67) at_66 (by decide)
  have G49 := G48.iadd (pc' := 68) at_67
  have G50 := G49.istore (L' := #[.val (.long x0), .second, .val (.long x1), .second, .val (.long x2), .second, .val (.int x3), .val (.int za), .val (.int zb), .val (.long zh1), .second, .val (.long zh2), .second, .val (.int ((1 : Int32) + ((((x3.toUInt32 >>> ((2 : Int32) &&& 31).toUInt32).toInt32) &&& (3 : Int32)) % (3 : Int32)))), .unset, .unset, .unset]) (pc' := 70) at_68 rfl
  have G51 := G50.iconst (v := (1 : Int32)) (pc' := 71) at_70
  obtain ⟨a52, h52, ea52, g_a52, X52, V52, G52⟩ := G51.newA (ty := .byte) (dv := (.int (0 : Int32))) (N := 1) (cap := 1) (pc' := 73) (k' := 1) (j' := 1) (hw _ (List.mem_of_getElem? (i := 0) rfl)) at_71 rfl rfl (by decide) (by decide) (by decide) rfl rfl rfl (by decide) (by decide)
  have V53 : Av Z h52 a52 .byte [(.int (0 : Int32))] := V52
  have G54 := G52.astore (L' := #[.val (.long x0), .second, .val (.long x1), .second, .val (.long x2), .second, .val (.int x3), .val (.int za), .val (.int zb), .val (.long zh1), .second, .val (.long zh2), .second, .val (.int ((1 : Int32) + ((((x3.toUInt32 >>> ((2 : Int32) &&& 31).toUInt32).toInt32) &&& (3 : Int32)) % (3 : Int32)))), .val (.ref a52), .unset, .unset]) (pc' := 75) at_73 rfl
  have G55 := G54.aload (v := (.ref a52)) (pc' := 77) at_75 rfl
  have G56 := G55.iconst (v := (0 : Int32)) (pc' := 78) at_77
  have G57 := G56.bipush (v := (48 : Int32)) (pc' := 80) at_78
  have G58 := G57.iload (v := x3) (pc' := 82) at_80 rfl
  have G59 := G58.iconst (v := (4 : Int32)) (pc' := 83) at_82
  have G60 := G59.iushr (pc' := 84) at_83
  have G61 := G60.bipush (v := (7 : Int32)) (pc' := 86) at_84
  have G62 := G61.iand (pc' := 87) at_86
  have G63 := G62.iadd (pc' := 88) at_87
  have G64 := G63.i2b (pc' := 89) at_88
  obtain ⟨h65, W65, V65, G65⟩ := G64.stB (i := 0) (pc' := 90) V53 g_a52 (by decide) (by show 0 < 1; decide) at_89
  have V66 : Av Z h65 a52 .byte [(.int (nar .byte ((48 : Int32) + (((x3.toUInt32 >>> ((4 : Int32) &&& 31).toUInt32).toInt32) &&& (7 : Int32))).toInt8.toInt32))] := V65
  obtain ⟨a67, h67, ea67, g_a67, X67, E67, D67, G67⟩ := G65.newO (pc' := 93) (k' := 2) (j' := 4) (hw _ (List.mem_of_getElem? (i := 1) rfl)) (hw _ (List.mem_of_getElem? (i := 2) rfl)) (hw _ (List.mem_of_getElem? (i := 3) rfl)) at_90 rfl rfl rfl (by decide) (by decide)
  have ne68 : a52 ≠ a67 := by rw [ea67]; exact Nat.ne_of_lt V66.lt
  have V69 : Av Z h67 a52 .byte [(.int (nar .byte ((48 : Int32) + (((x3.toUInt32 >>> ((4 : Int32) &&& 31).toUInt32).toInt32) &&& (7 : Int32))).toInt8.toInt32))] := V66.ext X67
  have F70 : Fld Z h67 a67 "com/example/stackwise/stackwise/calendar/HourlyValues$Builder" "values" "Lcom/example/stackwise/stackwise/input/DecimalColumn$Builder;" .null := D67 (Or.inr (hw _ (List.mem_of_getElem? (i := 34) rfl))) (ty := (.object "com/example/stackwise/stackwise/input/DecimalColumn$Builder")) (by decide)
  have F71 : Fld Z h67 a67 "com/example/stackwise/stackwise/calendar/HourlyValues$Builder" "first" "J" (.long (0 : Int64)) := D67 (Or.inl (hw _ (List.mem_of_getElem? (i := 96) rfl))) (ty := .long) (by decide)
  have F72 : Fld Z h67 a67 "com/example/stackwise/stackwise/calendar/HourlyValues$Builder" "hours" "[J" .null := D67 (Or.inl (hw _ (List.mem_of_getElem? (i := 98) rfl))) (ty := (.array .long)) (by decide)
  have G73 := G67.dup (pc' := 94) at_93
  obtain ⟨v74, h74, ⟨a75, a76, a77, ev74, K74, sz74_0, sz74_1, sz74_2, ne74_0, ne74_1, ne74_2, F74_0, F74_1, F74_2, F74_3, F74_4, F74_5, F74_6, F74_7, F74_8, F74_9, F74_10, F74_11, F74_12, F74_13, F74_14⟩, g74⟩ := G73.callI (argsL := []) (rest := [(.ref a67)]) (pc' := 97) (k' := 5) (j' := 8796) (cn1 l Z a0 hw a67 h67 n0 G73.size E67 F70 F71 F72 g_a67) rfl rfl (hw _ (List.mem_of_getElem? (i := 4) rfl)) (hw _ (List.mem_of_getElem? (i := 5) rfl)) (hw _ (List.mem_of_getElem? (i := 3) rfl)) (hw _ (List.mem_of_getElem? (i := 6) rfl)) (by decide) at_94 pd0 rfl (W := 1) rfl rfl (by decide) (by decide) (by decide) (by decide) rfl rfl rfl
  subst ev74
  have G74 := g74 [(.ref a67)] rfl
  have g_a75 : n0 ≤ a75 := Nat.le_trans G73.size sz74_0
  have ne78 : a52 ≠ a75 := Nat.ne_of_lt (Nat.lt_of_lt_of_le V69.lt sz74_0)
  have ne79 : a67 ≠ a75 := Nat.ne_of_lt (Nat.lt_of_lt_of_le E67.lt sz74_0)
  have g_a76 : n0 ≤ a76 := Nat.le_trans G73.size sz74_1
  have ne80 : a52 ≠ a76 := Nat.ne_of_lt (Nat.lt_of_lt_of_le V69.lt sz74_1)
  have ne81 : a67 ≠ a76 := Nat.ne_of_lt (Nat.lt_of_lt_of_le E67.lt sz74_1)
  have g_a77 : n0 ≤ a77 := Nat.le_trans G73.size sz74_2
  have ne82 : a52 ≠ a77 := Nat.ne_of_lt (Nat.lt_of_lt_of_le V69.lt sz74_2)
  have ne83 : a67 ≠ a77 := Nat.ne_of_lt (Nat.lt_of_lt_of_le E67.lt sz74_2)
  have V84 : Av Z h74 a52 .byte [(.int (nar .byte ((48 : Int32) + (((x3.toUInt32 >>> ((4 : Int32) &&& 31).toUInt32).toInt32) &&& (7 : Int32))).toInt8.toInt32))] := V69.keep K74 (ninS ne68 nin0)
  have E85 : Exa Z h74 a67 "com/example/stackwise/stackwise/calendar/HourlyValues$Builder" := E67.keep K74
  have G86 := G74.astore (L' := #[.val (.long x0), .second, .val (.long x1), .second, .val (.long x2), .second, .val (.int x3), .val (.int za), .val (.int zb), .val (.long zh1), .second, .val (.long zh2), .second, .val (.int ((1 : Int32) + ((((x3.toUInt32 >>> ((2 : Int32) &&& 31).toUInt32).toInt32) &&& (3 : Int32)) % (3 : Int32)))), .val (.ref a52), .val (.ref a67), .unset]) (pc' := 99) at_97 rfl
  have G87 := G86.aload (v := (.ref a67)) (pc' := 101) at_99 rfl
  have G88 := G87.lloadN (v := x0) (pc' := 102) at_101 rfl
  have G89 := G88.aload (v := (.ref a52)) (pc' := 104) at_102 rfl
  have G90 := G89.iconst (v := (0 : Int32)) (pc' := 105) at_104
  have G91 := G90.iconst (v := (1 : Int32)) (pc' := 106) at_105
  obtain ⟨wd, ewd⟩ : ∃ wd : Int32, wd = (nar .byte ((48 : Int32) + (((x3.toUInt32 >>> ((4 : Int32) &&& 31).toUInt32).toInt32) &&& (7 : Int32))).toInt8.toInt32) := ⟨_, rfl⟩
  obtain ⟨q0, q1, q2⟩ := own_dig _ _ ewd
  rw [← ewd] at V84
  obtain ⟨v92, h92, ⟨y93, ev92, K92, F92_0, F92_1, F92_2, F92_3, F92_4, F92_5, F92_6, F92_7, F92_8, F92_9, F92_10, F92_11, F92_12, F92_13, F92_14, hx_y93⟩, g92⟩ := G91.callV (argsL := [(.long x0), (.ref a52), (.int (0 : Int32)), (.int (1 : Int32))]) (rest := []) (pc' := 109) (k' := 5) (j' := 8796) (cn_a0 l Z a0 hw a67 x0 a52 a75 a76 a77 wd (0 : Int32) (0 : Int64) (List.replicate 8784 (.long (0 : Int64))) (0 : Int64) h74 n0 G91.size F74_0 F74_1 F74_2 F74_3 F74_4 F74_5 F74_6 F74_7 F74_8 F74_9 F74_10 F74_13 F74_11 F74_12 F74_14 V84 g_a67 g_a75 g_a76 g_a77 ne68 (Ne.symm ne79) (Ne.symm ne81) (Ne.symm ne83) ne78 (Ne.symm ne74_0) (Ne.symm ne74_1) ne80 (Ne.symm ne74_2) ne82 q0 q1 q2 List.length_replicate) rfl F74_0 (hw _ (List.mem_of_getElem? (i := 35) rfl)) (hw _ (List.mem_of_getElem? (i := 36) rfl)) (hw _ (List.mem_of_getElem? (i := 38) rfl)) (hw _ (List.mem_of_getElem? (i := 37) rfl)) (hw _ (List.mem_of_getElem? (i := 3) rfl)) (hw _ (List.mem_of_getElem? (i := 39) rfl)) (by decide) at_106 pd9 rfl (W := 0) rfl rfl (by decide) (by decide) (by decide) (by decide) rfl rfl rfl
  subst ev92
  have G92 := g92 [(.int (fSg (((0 : Int64) * (10 : Int64)) + (wd - (48 : Int32)).toInt64)))] rfl
  have V94 : Av Z h92 a52 .byte [(.int wd)] := V84.keep K92 (ninS ne68 (ninS ne78 (ninS ne80 (ninS ne82 nin0))))
  have E95 : Exa Z h92 a67 "com/example/stackwise/stackwise/calendar/HourlyValues$Builder" := F74_0.keep K92
  have E96 : Exa Z h92 a75 "com/example/stackwise/stackwise/input/DecimalColumn$Builder" := F74_4.keep K92
  have E97 : Exa Z h92 a76 "com/example/stackwise/stackwise/input/Decimals$Reading" := F74_10.keep K92
  have G98 := G92.pop (pc' := 110) at_109
  have G99 := G98.iload (v := ((1 : Int32) + ((((x3.toUInt32 >>> ((2 : Int32) &&& 31).toUInt32).toInt32) &&& (3 : Int32)) % (3 : Int32)))) (pc' := 112) at_110 rfl
  have G100 := G99.iconst (v := (2 : Int32)) (pc' := 113) at_112
  by_cases c113_100 : ((1 : Int32) + ((((x3.toUInt32 >>> ((2 : Int32) &&& 31).toUInt32).toInt32) &&& (3 : Int32)) % (3 : Int32))) < (2 : Int32)
  · have G101 := G100.icmpY at_113 128 (Jvm.Free.XT.ii_lt_t c113_100)
    have G102 := G101.iload (v := ((1 : Int32) + ((((x3.toUInt32 >>> ((2 : Int32) &&& 31).toUInt32).toInt32) &&& (3 : Int32)) % (3 : Int32)))) (pc' := 130) at_128 rfl
    have G103 := G102.iconst (v := (3 : Int32)) (pc' := 131) at_130
    have G104 := G103.icmpY at_131 146 (Jvm.Free.XT.ii_lt_t (own_lt23 _ c113_100))
    have G105 := G104.aload (v := (.ref a67)) (pc' := 148) at_146 rfl
    have G106 := G105.iconst (v := (0 : Int32)) (pc' := 149) at_148
    obtain ⟨v107, h107, ⟨ev107, K107⟩, g107⟩ := G106.callV (argsL := [(.int (0 : Int32))]) (rest := []) (pc' := 152) (k' := 5) (j' := 8796) (cn_hN l Z a0 hw a67 (0 : Int32) x0 h92 n0 G106.size F92_2 F92_3) rfl F92_0 (hw _ (List.mem_of_getElem? (i := 99) rfl)) (hw _ (List.mem_of_getElem? (i := 100) rfl)) (hw _ (List.mem_of_getElem? (i := 102) rfl)) (hw _ (List.mem_of_getElem? (i := 101) rfl)) (hw _ (List.mem_of_getElem? (i := 3) rfl)) (hw _ (List.mem_of_getElem? (i := 103) rfl)) (by decide) at_149 pd10 rfl (W := 0) rfl rfl (by decide) (by decide) (by decide) (by decide) rfl rfl rfl
    subst ev107
    have G107 := g107 [(.long (x0 + (0 : Int32).toInt64))] rfl
    have V108 : Av Z h107 a52 .byte [(.int wd)] := V94.keep K107 nin0
    have E109 : Exa Z h107 a67 "com/example/stackwise/stackwise/calendar/HourlyValues$Builder" := F92_0.keep K107
    have E110 : Exa Z h107 a75 "com/example/stackwise/stackwise/input/DecimalColumn$Builder" := F92_4.keep K107
    have E111 : Exa Z h107 a76 "com/example/stackwise/stackwise/input/Decimals$Reading" := F92_5.keep K107
    have F112 : Fld Z h107 a67 "com/example/stackwise/stackwise/calendar/HourlyValues$Builder" "values" "Lcom/example/stackwise/stackwise/input/DecimalColumn$Builder;" (.ref a75) := F92_1.keep K107 nin0
    have F113 : Fld Z h107 a67 "com/example/stackwise/stackwise/calendar/HourlyValues$Builder" "first" "J" (.long x0) := F92_2.keep K107 nin0
    have F114 : Fld Z h107 a67 "com/example/stackwise/stackwise/calendar/HourlyValues$Builder" "hours" "[J" .null := F92_3.keep K107 nin0
    have F115 : Fld Z h107 a75 "com/example/stackwise/stackwise/input/DecimalColumn$Builder" "reading" "Lcom/example/stackwise/stackwise/input/Decimals$Reading;" (.ref a76) := F92_6.keep K107 nin0
    have F116 : Fld Z h107 a75 "com/example/stackwise/stackwise/input/DecimalColumn$Builder" "unscaled" "[J" (.ref a77) := F92_7.keep K107 nin0
    have F117 : Fld Z h107 a75 "com/example/stackwise/stackwise/input/DecimalColumn$Builder" "scale" "I" (.int (0 : Int32)) := F92_8.keep K107 nin0
    have F118 : Fld Z h107 a75 "com/example/stackwise/stackwise/input/DecimalColumn$Builder" "size" "I" (.int ((0 : Int32) + (1 : Int32))) := F92_9.keep K107 nin0
    have F119 : Fld Z h107 a75 "com/example/stackwise/stackwise/input/DecimalColumn$Builder" "values" "[Ljava/math/BigDecimal;" .null := F92_10.keep K107 nin0
    have V120 : Av Z h107 a77 .long y93 := F92_11.keep K107 nin0
    have F121 : Fld Z h107 a76 "com/example/stackwise/stackwise/input/Decimals$Reading" "wide" "Ljava/math/BigDecimal;" .null := F92_12.keep K107 nin0
    have F122 : Fld Z h107 a76 "com/example/stackwise/stackwise/input/Decimals$Reading" "scale" "I" (.int (0 : Int32)) := F92_13.keep K107 nin0
    have F123 : Fld Z h107 a76 "com/example/stackwise/stackwise/input/Decimals$Reading" "unscaled" "J" (.long (((0 : Int64) * (10 : Int64)) + (wd - (48 : Int32)).toInt64)) := F92_14.keep K107 nin0
    have G124 := G107.lloadN (v := x0) (pc' := 153) at_152 rfl
    have G125 := G124.lcmp (pc' := 154) at_153
    have G126 := G125.ifN at_154 157 (Jvm.Free.XT.ll_ne_f (own_z _))
    have G127 := G126.iconst (v := (1 : Int32)) (pc' := 158) at_157
    have G128 := G127.goto at_158 162
    have G129 := G128.istore (L' := #[.val (.long x0), .second, .val (.long x1), .second, .val (.long x2), .second, .val (.int x3), .val (.int za), .val (.int zb), .val (.long zh1), .second, .val (.long zh2), .second, .val (.int ((1 : Int32) + ((((x3.toUInt32 >>> ((2 : Int32) &&& 31).toUInt32).toInt32) &&& (3 : Int32)) % (3 : Int32)))), .val (.ref a52), .val (.ref a67), .val (.int (1 : Int32))]) (pc' := 164) at_162 rfl
    have G130 := G129.iload (v := ((1 : Int32) + ((((x3.toUInt32 >>> ((2 : Int32) &&& 31).toUInt32).toInt32) &&& (3 : Int32)) % (3 : Int32)))) (pc' := 166) at_164 rfl
    have G131 := G130.iconst (v := (2 : Int32)) (pc' := 167) at_166
    have G132 := G131.icmpY at_167 194 (Jvm.Free.XT.ii_lt_t c113_100)
    have G133 := G132.iload (v := ((1 : Int32) + ((((x3.toUInt32 >>> ((2 : Int32) &&& 31).toUInt32).toInt32) &&& (3 : Int32)) % (3 : Int32)))) (pc' := 196) at_194 rfl
    have G134 := G133.iconst (v := (3 : Int32)) (pc' := 197) at_196
    have G135 := G134.icmpY at_197 224 (Jvm.Free.XT.ii_lt_t (own_lt23 _ c113_100))
    have G136 := G135.iload (v := (1 : Int32)) (pc' := 226) at_224 rfl
    exact G136.retZ at_226 rfl (Or.inr rfl) rfl
  · have G137 := G100.icmpN at_113 116 (Jvm.Free.XT.ii_lt_f c113_100)
    have G138 := G137.aload (v := (.ref a67)) (pc' := 118) at_116 rfl
    have G139 := G138.lload (v := zh1) (pc' := 120) at_118 rfl
    have G140 := G139.aload (v := (.ref a52)) (pc' := 122) at_120 rfl
    have G141 := G140.iconst (v := (0 : Int32)) (pc' := 123) at_122
    have G142 := G141.iconst (v := (1 : Int32)) (pc' := 124) at_123
    by_cases c124_142 : zh1 = (x0 + ((0 : Int32) + (1 : Int32)).toInt64)
    · obtain ⟨v143, h143, ⟨y144, ev143, K143, F143_0, F143_1, F143_2, F143_3, F143_4, F143_5, F143_6, F143_7, F143_8, F143_9, F143_10, F143_11, F143_12, F143_13, F143_14, hx_y144⟩, g143⟩ := G142.callV (argsL := [(.long zh1), (.ref a52), (.int (0 : Int32)), (.int (1 : Int32))]) (rest := []) (pc' := 127) (k' := 5) (j' := 8796) (cn_e1 l Z a0 hw a67 zh1 a52 a75 a76 a77 wd (0 : Int32) (((0 : Int64) * (10 : Int64)) + (wd - (48 : Int32)).toInt64) y93 x0 h92 n0 G142.size F92_0 F92_1 F92_2 F92_3 F92_4 F92_6 F92_7 F92_8 F92_9 F92_10 F92_5 F92_12 F92_13 F92_14 F92_11 V94 g_a67 g_a75 g_a76 g_a77 ne68 (Ne.symm ne79) (Ne.symm ne81) (Ne.symm ne83) ne78 (Ne.symm ne74_0) (Ne.symm ne74_1) ne80 (Ne.symm ne74_2) ne82 q0 q1 q2 hx_y93 c124_142) rfl F92_0 (hw _ (List.mem_of_getElem? (i := 35) rfl)) (hw _ (List.mem_of_getElem? (i := 36) rfl)) (hw _ (List.mem_of_getElem? (i := 38) rfl)) (hw _ (List.mem_of_getElem? (i := 37) rfl)) (hw _ (List.mem_of_getElem? (i := 3) rfl)) (hw _ (List.mem_of_getElem? (i := 39) rfl)) (by decide) at_124 pd9 rfl (W := 0) rfl rfl (by decide) (by decide) (by decide) (by decide) rfl rfl rfl
      subst ev143
      have G143 := g143 [(.int (fSg (((0 : Int64) * (10 : Int64)) + (wd - (48 : Int32)).toInt64)))] rfl
      have V145 : Av Z h143 a52 .byte [(.int wd)] := V94.keep K143 (ninS ne68 (ninS ne78 (ninS ne80 (ninS ne82 nin0))))
      have E146 : Exa Z h143 a67 "com/example/stackwise/stackwise/calendar/HourlyValues$Builder" := F92_0.keep K143
      have E147 : Exa Z h143 a75 "com/example/stackwise/stackwise/input/DecimalColumn$Builder" := F92_4.keep K143
      have E148 : Exa Z h143 a76 "com/example/stackwise/stackwise/input/Decimals$Reading" := F92_5.keep K143
      have G149 := G143.pop (pc' := 128) at_127
      have G150 := G149.iload (v := ((1 : Int32) + ((((x3.toUInt32 >>> ((2 : Int32) &&& 31).toUInt32).toInt32) &&& (3 : Int32)) % (3 : Int32)))) (pc' := 130) at_128 rfl
      have G151 := G150.iconst (v := (3 : Int32)) (pc' := 131) at_130
      by_cases c131_151 : ((1 : Int32) + ((((x3.toUInt32 >>> ((2 : Int32) &&& 31).toUInt32).toInt32) &&& (3 : Int32)) % (3 : Int32))) < (3 : Int32)
      · have G152 := G151.icmpY at_131 146 (Jvm.Free.XT.ii_lt_t c131_151)
        have G153 := G152.aload (v := (.ref a67)) (pc' := 148) at_146 rfl
        have G154 := G153.iconst (v := (0 : Int32)) (pc' := 149) at_148
        obtain ⟨v155, h155, ⟨ev155, K155⟩, g155⟩ := G154.callV (argsL := [(.int (0 : Int32))]) (rest := []) (pc' := 152) (k' := 5) (j' := 8796) (cn_hN l Z a0 hw a67 (0 : Int32) x0 h143 n0 G154.size F143_2 F143_3) rfl F143_0 (hw _ (List.mem_of_getElem? (i := 99) rfl)) (hw _ (List.mem_of_getElem? (i := 100) rfl)) (hw _ (List.mem_of_getElem? (i := 102) rfl)) (hw _ (List.mem_of_getElem? (i := 101) rfl)) (hw _ (List.mem_of_getElem? (i := 3) rfl)) (hw _ (List.mem_of_getElem? (i := 103) rfl)) (by decide) at_149 pd10 rfl (W := 0) rfl rfl (by decide) (by decide) (by decide) (by decide) rfl rfl rfl
        subst ev155
        have G155 := g155 [(.long (x0 + (0 : Int32).toInt64))] rfl
        have V156 : Av Z h155 a52 .byte [(.int wd)] := V145.keep K155 nin0
        have E157 : Exa Z h155 a67 "com/example/stackwise/stackwise/calendar/HourlyValues$Builder" := F143_0.keep K155
        have E158 : Exa Z h155 a75 "com/example/stackwise/stackwise/input/DecimalColumn$Builder" := F143_4.keep K155
        have E159 : Exa Z h155 a76 "com/example/stackwise/stackwise/input/Decimals$Reading" := F143_5.keep K155
        have F160 : Fld Z h155 a67 "com/example/stackwise/stackwise/calendar/HourlyValues$Builder" "values" "Lcom/example/stackwise/stackwise/input/DecimalColumn$Builder;" (.ref a75) := F143_1.keep K155 nin0
        have F161 : Fld Z h155 a67 "com/example/stackwise/stackwise/calendar/HourlyValues$Builder" "first" "J" (.long x0) := F143_2.keep K155 nin0
        have F162 : Fld Z h155 a67 "com/example/stackwise/stackwise/calendar/HourlyValues$Builder" "hours" "[J" .null := F143_3.keep K155 nin0
        have F163 : Fld Z h155 a75 "com/example/stackwise/stackwise/input/DecimalColumn$Builder" "reading" "Lcom/example/stackwise/stackwise/input/Decimals$Reading;" (.ref a76) := F143_6.keep K155 nin0
        have F164 : Fld Z h155 a75 "com/example/stackwise/stackwise/input/DecimalColumn$Builder" "unscaled" "[J" (.ref a77) := F143_7.keep K155 nin0
        have F165 : Fld Z h155 a75 "com/example/stackwise/stackwise/input/DecimalColumn$Builder" "scale" "I" (.int (0 : Int32)) := F143_8.keep K155 nin0
        have F166 : Fld Z h155 a75 "com/example/stackwise/stackwise/input/DecimalColumn$Builder" "size" "I" (.int (((0 : Int32) + (1 : Int32)) + (1 : Int32))) := F143_9.keep K155 nin0
        have F167 : Fld Z h155 a75 "com/example/stackwise/stackwise/input/DecimalColumn$Builder" "values" "[Ljava/math/BigDecimal;" .null := F143_10.keep K155 nin0
        have V168 : Av Z h155 a77 .long y144 := F143_11.keep K155 nin0
        have F169 : Fld Z h155 a76 "com/example/stackwise/stackwise/input/Decimals$Reading" "wide" "Ljava/math/BigDecimal;" .null := F143_12.keep K155 nin0
        have F170 : Fld Z h155 a76 "com/example/stackwise/stackwise/input/Decimals$Reading" "scale" "I" (.int (0 : Int32)) := F143_13.keep K155 nin0
        have F171 : Fld Z h155 a76 "com/example/stackwise/stackwise/input/Decimals$Reading" "unscaled" "J" (.long (((0 : Int64) * (10 : Int64)) + (wd - (48 : Int32)).toInt64)) := F143_14.keep K155 nin0
        have G172 := G155.lloadN (v := x0) (pc' := 153) at_152 rfl
        have G173 := G172.lcmp (pc' := 154) at_153
        have G174 := G173.ifN at_154 157 (Jvm.Free.XT.ll_ne_f (own_z _))
        have G175 := G174.iconst (v := (1 : Int32)) (pc' := 158) at_157
        have G176 := G175.goto at_158 162
        have G177 := G176.istore (L' := #[.val (.long x0), .second, .val (.long x1), .second, .val (.long x2), .second, .val (.int x3), .val (.int za), .val (.int zb), .val (.long zh1), .second, .val (.long zh2), .second, .val (.int ((1 : Int32) + ((((x3.toUInt32 >>> ((2 : Int32) &&& 31).toUInt32).toInt32) &&& (3 : Int32)) % (3 : Int32)))), .val (.ref a52), .val (.ref a67), .val (.int (1 : Int32))]) (pc' := 164) at_162 rfl
        have G178 := G177.iload (v := ((1 : Int32) + ((((x3.toUInt32 >>> ((2 : Int32) &&& 31).toUInt32).toInt32) &&& (3 : Int32)) % (3 : Int32)))) (pc' := 166) at_164 rfl
        have G179 := G178.iconst (v := (2 : Int32)) (pc' := 167) at_166
        have G180 := G179.icmpN at_167 170 (Jvm.Free.XT.ii_lt_f c113_100)
        have G181 := G180.iload (v := (1 : Int32)) (pc' := 172) at_170 rfl
        have G182 := G181.ifN at_172 175 (Jvm.Free.XT.i0_eq_f (by decide))
        have G183 := G182.aload (v := (.ref a67)) (pc' := 177) at_175 rfl
        have G184 := G183.iconst (v := (1 : Int32)) (pc' := 178) at_177
        obtain ⟨v185, h185, ⟨ev185, K185⟩, g185⟩ := G184.callV (argsL := [(.int (1 : Int32))]) (rest := []) (pc' := 181) (k' := 5) (j' := 8796) (cn_hN l Z a0 hw a67 (1 : Int32) x0 h155 n0 G184.size F161 F162) rfl E157 (hw _ (List.mem_of_getElem? (i := 99) rfl)) (hw _ (List.mem_of_getElem? (i := 100) rfl)) (hw _ (List.mem_of_getElem? (i := 102) rfl)) (hw _ (List.mem_of_getElem? (i := 101) rfl)) (hw _ (List.mem_of_getElem? (i := 3) rfl)) (hw _ (List.mem_of_getElem? (i := 103) rfl)) (by decide) at_178 pd10 rfl (W := 0) rfl rfl (by decide) (by decide) (by decide) (by decide) rfl rfl rfl
        subst ev185
        have G185 := g185 [(.long (x0 + (1 : Int32).toInt64))] rfl
        have V186 : Av Z h185 a52 .byte [(.int wd)] := V156.keep K185 nin0
        have E187 : Exa Z h185 a67 "com/example/stackwise/stackwise/calendar/HourlyValues$Builder" := E157.keep K185
        have E188 : Exa Z h185 a75 "com/example/stackwise/stackwise/input/DecimalColumn$Builder" := E158.keep K185
        have E189 : Exa Z h185 a76 "com/example/stackwise/stackwise/input/Decimals$Reading" := E159.keep K185
        have F190 : Fld Z h185 a67 "com/example/stackwise/stackwise/calendar/HourlyValues$Builder" "values" "Lcom/example/stackwise/stackwise/input/DecimalColumn$Builder;" (.ref a75) := F160.keep K185 nin0
        have F191 : Fld Z h185 a67 "com/example/stackwise/stackwise/calendar/HourlyValues$Builder" "first" "J" (.long x0) := F161.keep K185 nin0
        have F192 : Fld Z h185 a67 "com/example/stackwise/stackwise/calendar/HourlyValues$Builder" "hours" "[J" .null := F162.keep K185 nin0
        have F193 : Fld Z h185 a75 "com/example/stackwise/stackwise/input/DecimalColumn$Builder" "reading" "Lcom/example/stackwise/stackwise/input/Decimals$Reading;" (.ref a76) := F163.keep K185 nin0
        have F194 : Fld Z h185 a75 "com/example/stackwise/stackwise/input/DecimalColumn$Builder" "unscaled" "[J" (.ref a77) := F164.keep K185 nin0
        have F195 : Fld Z h185 a75 "com/example/stackwise/stackwise/input/DecimalColumn$Builder" "scale" "I" (.int (0 : Int32)) := F165.keep K185 nin0
        have F196 : Fld Z h185 a75 "com/example/stackwise/stackwise/input/DecimalColumn$Builder" "size" "I" (.int (((0 : Int32) + (1 : Int32)) + (1 : Int32))) := F166.keep K185 nin0
        have F197 : Fld Z h185 a75 "com/example/stackwise/stackwise/input/DecimalColumn$Builder" "values" "[Ljava/math/BigDecimal;" .null := F167.keep K185 nin0
        have V198 : Av Z h185 a77 .long y144 := V168.keep K185 nin0
        have F199 : Fld Z h185 a76 "com/example/stackwise/stackwise/input/Decimals$Reading" "wide" "Ljava/math/BigDecimal;" .null := F169.keep K185 nin0
        have F200 : Fld Z h185 a76 "com/example/stackwise/stackwise/input/Decimals$Reading" "scale" "I" (.int (0 : Int32)) := F170.keep K185 nin0
        have F201 : Fld Z h185 a76 "com/example/stackwise/stackwise/input/Decimals$Reading" "unscaled" "J" (.long (((0 : Int64) * (10 : Int64)) + (wd - (48 : Int32)).toInt64)) := F171.keep K185 nin0
        have G202 := G185.lload (v := zh1) (pc' := 183) at_181 rfl
        have G203 := G202.lcmp (pc' := 184) at_183
        have G204 := G203.ifN at_184 187 (Jvm.Free.XT.ll_ne_f (c124_142.trans (congrArg (fun z => x0 + z) (by decide))).symm)
        have G205 := G204.iconst (v := (1 : Int32)) (pc' := 188) at_187
        have G206 := G205.goto at_188 192
        have G207 := G206.istore (L' := #[.val (.long x0), .second, .val (.long x1), .second, .val (.long x2), .second, .val (.int x3), .val (.int za), .val (.int zb), .val (.long zh1), .second, .val (.long zh2), .second, .val (.int ((1 : Int32) + ((((x3.toUInt32 >>> ((2 : Int32) &&& 31).toUInt32).toInt32) &&& (3 : Int32)) % (3 : Int32)))), .val (.ref a52), .val (.ref a67), .val (.int (1 : Int32))]) (pc' := 194) at_192 rfl
        have G208 := G207.iload (v := ((1 : Int32) + ((((x3.toUInt32 >>> ((2 : Int32) &&& 31).toUInt32).toInt32) &&& (3 : Int32)) % (3 : Int32)))) (pc' := 196) at_194 rfl
        have G209 := G208.iconst (v := (3 : Int32)) (pc' := 197) at_196
        have G210 := G209.icmpY at_197 224 (Jvm.Free.XT.ii_lt_t c131_151)
        have G211 := G210.iload (v := (1 : Int32)) (pc' := 226) at_224 rfl
        exact G211.retZ at_226 rfl (Or.inr rfl) rfl
      · have G212 := G151.icmpN at_131 134 (Jvm.Free.XT.ii_lt_f c131_151)
        have G213 := G212.aload (v := (.ref a67)) (pc' := 136) at_134 rfl
        have G214 := G213.lload (v := zh2) (pc' := 138) at_136 rfl
        have G215 := G214.aload (v := (.ref a52)) (pc' := 140) at_138 rfl
        have G216 := G215.iconst (v := (0 : Int32)) (pc' := 141) at_140
        have G217 := G216.iconst (v := (1 : Int32)) (pc' := 142) at_141
        by_cases c142_217 : zh2 = (x0 + (((0 : Int32) + (1 : Int32)) + (1 : Int32)).toInt64)
        · obtain ⟨v218, h218, ⟨y219, ev218, K218, F218_0, F218_1, F218_2, F218_3, F218_4, F218_5, F218_6, F218_7, F218_8, F218_9, F218_10, F218_11, F218_12, F218_13, F218_14, hx_y219⟩, g218⟩ := G217.callV (argsL := [(.long zh2), (.ref a52), (.int (0 : Int32)), (.int (1 : Int32))]) (rest := []) (pc' := 145) (k' := 5) (j' := 8796) (cn_e2 l Z a0 hw a67 zh2 a52 a75 a76 a77 wd (0 : Int32) (((0 : Int64) * (10 : Int64)) + (wd - (48 : Int32)).toInt64) y144 x0 h143 n0 G217.size F143_0 F143_1 F143_2 F143_3 F143_4 F143_6 F143_7 F143_8 F143_9 F143_10 F143_5 F143_12 F143_13 F143_14 F143_11 V145 g_a67 g_a75 g_a76 g_a77 ne68 (Ne.symm ne79) (Ne.symm ne81) (Ne.symm ne83) ne78 (Ne.symm ne74_0) (Ne.symm ne74_1) ne80 (Ne.symm ne74_2) ne82 q0 q1 q2 hx_y144 c142_217) rfl F143_0 (hw _ (List.mem_of_getElem? (i := 35) rfl)) (hw _ (List.mem_of_getElem? (i := 36) rfl)) (hw _ (List.mem_of_getElem? (i := 38) rfl)) (hw _ (List.mem_of_getElem? (i := 37) rfl)) (hw _ (List.mem_of_getElem? (i := 3) rfl)) (hw _ (List.mem_of_getElem? (i := 39) rfl)) (by decide) at_142 pd9 rfl (W := 0) rfl rfl (by decide) (by decide) (by decide) (by decide) rfl rfl rfl
          subst ev218
          have G218 := g218 [(.int (fSg (((0 : Int64) * (10 : Int64)) + (wd - (48 : Int32)).toInt64)))] rfl
          have V220 : Av Z h218 a52 .byte [(.int wd)] := V145.keep K218 (ninS ne68 (ninS ne78 (ninS ne80 (ninS ne82 nin0))))
          have E221 : Exa Z h218 a67 "com/example/stackwise/stackwise/calendar/HourlyValues$Builder" := F143_0.keep K218
          have E222 : Exa Z h218 a75 "com/example/stackwise/stackwise/input/DecimalColumn$Builder" := F143_4.keep K218
          have E223 : Exa Z h218 a76 "com/example/stackwise/stackwise/input/Decimals$Reading" := F143_5.keep K218
          have G224 := G218.pop (pc' := 146) at_145
          have G225 := G224.aload (v := (.ref a67)) (pc' := 148) at_146 rfl
          have G226 := G225.iconst (v := (0 : Int32)) (pc' := 149) at_148
          obtain ⟨v227, h227, ⟨ev227, K227⟩, g227⟩ := G226.callV (argsL := [(.int (0 : Int32))]) (rest := []) (pc' := 152) (k' := 5) (j' := 8796) (cn_hN l Z a0 hw a67 (0 : Int32) x0 h218 n0 G226.size F218_2 F218_3) rfl F218_0 (hw _ (List.mem_of_getElem? (i := 99) rfl)) (hw _ (List.mem_of_getElem? (i := 100) rfl)) (hw _ (List.mem_of_getElem? (i := 102) rfl)) (hw _ (List.mem_of_getElem? (i := 101) rfl)) (hw _ (List.mem_of_getElem? (i := 3) rfl)) (hw _ (List.mem_of_getElem? (i := 103) rfl)) (by decide) at_149 pd10 rfl (W := 0) rfl rfl (by decide) (by decide) (by decide) (by decide) rfl rfl rfl
          subst ev227
          have G227 := g227 [(.long (x0 + (0 : Int32).toInt64))] rfl
          have V228 : Av Z h227 a52 .byte [(.int wd)] := V220.keep K227 nin0
          have E229 : Exa Z h227 a67 "com/example/stackwise/stackwise/calendar/HourlyValues$Builder" := F218_0.keep K227
          have E230 : Exa Z h227 a75 "com/example/stackwise/stackwise/input/DecimalColumn$Builder" := F218_4.keep K227
          have E231 : Exa Z h227 a76 "com/example/stackwise/stackwise/input/Decimals$Reading" := F218_5.keep K227
          have F232 : Fld Z h227 a67 "com/example/stackwise/stackwise/calendar/HourlyValues$Builder" "values" "Lcom/example/stackwise/stackwise/input/DecimalColumn$Builder;" (.ref a75) := F218_1.keep K227 nin0
          have F233 : Fld Z h227 a67 "com/example/stackwise/stackwise/calendar/HourlyValues$Builder" "first" "J" (.long x0) := F218_2.keep K227 nin0
          have F234 : Fld Z h227 a67 "com/example/stackwise/stackwise/calendar/HourlyValues$Builder" "hours" "[J" .null := F218_3.keep K227 nin0
          have F235 : Fld Z h227 a75 "com/example/stackwise/stackwise/input/DecimalColumn$Builder" "reading" "Lcom/example/stackwise/stackwise/input/Decimals$Reading;" (.ref a76) := F218_6.keep K227 nin0
          have F236 : Fld Z h227 a75 "com/example/stackwise/stackwise/input/DecimalColumn$Builder" "unscaled" "[J" (.ref a77) := F218_7.keep K227 nin0
          have F237 : Fld Z h227 a75 "com/example/stackwise/stackwise/input/DecimalColumn$Builder" "scale" "I" (.int (0 : Int32)) := F218_8.keep K227 nin0
          have F238 : Fld Z h227 a75 "com/example/stackwise/stackwise/input/DecimalColumn$Builder" "size" "I" (.int ((((0 : Int32) + (1 : Int32)) + (1 : Int32)) + (1 : Int32))) := F218_9.keep K227 nin0
          have F239 : Fld Z h227 a75 "com/example/stackwise/stackwise/input/DecimalColumn$Builder" "values" "[Ljava/math/BigDecimal;" .null := F218_10.keep K227 nin0
          have V240 : Av Z h227 a77 .long y219 := F218_11.keep K227 nin0
          have F241 : Fld Z h227 a76 "com/example/stackwise/stackwise/input/Decimals$Reading" "wide" "Ljava/math/BigDecimal;" .null := F218_12.keep K227 nin0
          have F242 : Fld Z h227 a76 "com/example/stackwise/stackwise/input/Decimals$Reading" "scale" "I" (.int (0 : Int32)) := F218_13.keep K227 nin0
          have F243 : Fld Z h227 a76 "com/example/stackwise/stackwise/input/Decimals$Reading" "unscaled" "J" (.long (((0 : Int64) * (10 : Int64)) + (wd - (48 : Int32)).toInt64)) := F218_14.keep K227 nin0
          have G244 := G227.lloadN (v := x0) (pc' := 153) at_152 rfl
          have G245 := G244.lcmp (pc' := 154) at_153
          have G246 := G245.ifN at_154 157 (Jvm.Free.XT.ll_ne_f (own_z _))
          have G247 := G246.iconst (v := (1 : Int32)) (pc' := 158) at_157
          have G248 := G247.goto at_158 162
          have G249 := G248.istore (L' := #[.val (.long x0), .second, .val (.long x1), .second, .val (.long x2), .second, .val (.int x3), .val (.int za), .val (.int zb), .val (.long zh1), .second, .val (.long zh2), .second, .val (.int ((1 : Int32) + ((((x3.toUInt32 >>> ((2 : Int32) &&& 31).toUInt32).toInt32) &&& (3 : Int32)) % (3 : Int32)))), .val (.ref a52), .val (.ref a67), .val (.int (1 : Int32))]) (pc' := 164) at_162 rfl
          have G250 := G249.iload (v := ((1 : Int32) + ((((x3.toUInt32 >>> ((2 : Int32) &&& 31).toUInt32).toInt32) &&& (3 : Int32)) % (3 : Int32)))) (pc' := 166) at_164 rfl
          have G251 := G250.iconst (v := (2 : Int32)) (pc' := 167) at_166
          have G252 := G251.icmpN at_167 170 (Jvm.Free.XT.ii_lt_f c113_100)
          have G253 := G252.iload (v := (1 : Int32)) (pc' := 172) at_170 rfl
          have G254 := G253.ifN at_172 175 (Jvm.Free.XT.i0_eq_f (by decide))
          have G255 := G254.aload (v := (.ref a67)) (pc' := 177) at_175 rfl
          have G256 := G255.iconst (v := (1 : Int32)) (pc' := 178) at_177
          obtain ⟨v257, h257, ⟨ev257, K257⟩, g257⟩ := G256.callV (argsL := [(.int (1 : Int32))]) (rest := []) (pc' := 181) (k' := 5) (j' := 8796) (cn_hN l Z a0 hw a67 (1 : Int32) x0 h227 n0 G256.size F233 F234) rfl E229 (hw _ (List.mem_of_getElem? (i := 99) rfl)) (hw _ (List.mem_of_getElem? (i := 100) rfl)) (hw _ (List.mem_of_getElem? (i := 102) rfl)) (hw _ (List.mem_of_getElem? (i := 101) rfl)) (hw _ (List.mem_of_getElem? (i := 3) rfl)) (hw _ (List.mem_of_getElem? (i := 103) rfl)) (by decide) at_178 pd10 rfl (W := 0) rfl rfl (by decide) (by decide) (by decide) (by decide) rfl rfl rfl
          subst ev257
          have G257 := g257 [(.long (x0 + (1 : Int32).toInt64))] rfl
          have V258 : Av Z h257 a52 .byte [(.int wd)] := V228.keep K257 nin0
          have E259 : Exa Z h257 a67 "com/example/stackwise/stackwise/calendar/HourlyValues$Builder" := E229.keep K257
          have E260 : Exa Z h257 a75 "com/example/stackwise/stackwise/input/DecimalColumn$Builder" := E230.keep K257
          have E261 : Exa Z h257 a76 "com/example/stackwise/stackwise/input/Decimals$Reading" := E231.keep K257
          have F262 : Fld Z h257 a67 "com/example/stackwise/stackwise/calendar/HourlyValues$Builder" "values" "Lcom/example/stackwise/stackwise/input/DecimalColumn$Builder;" (.ref a75) := F232.keep K257 nin0
          have F263 : Fld Z h257 a67 "com/example/stackwise/stackwise/calendar/HourlyValues$Builder" "first" "J" (.long x0) := F233.keep K257 nin0
          have F264 : Fld Z h257 a67 "com/example/stackwise/stackwise/calendar/HourlyValues$Builder" "hours" "[J" .null := F234.keep K257 nin0
          have F265 : Fld Z h257 a75 "com/example/stackwise/stackwise/input/DecimalColumn$Builder" "reading" "Lcom/example/stackwise/stackwise/input/Decimals$Reading;" (.ref a76) := F235.keep K257 nin0
          have F266 : Fld Z h257 a75 "com/example/stackwise/stackwise/input/DecimalColumn$Builder" "unscaled" "[J" (.ref a77) := F236.keep K257 nin0
          have F267 : Fld Z h257 a75 "com/example/stackwise/stackwise/input/DecimalColumn$Builder" "scale" "I" (.int (0 : Int32)) := F237.keep K257 nin0
          have F268 : Fld Z h257 a75 "com/example/stackwise/stackwise/input/DecimalColumn$Builder" "size" "I" (.int ((((0 : Int32) + (1 : Int32)) + (1 : Int32)) + (1 : Int32))) := F238.keep K257 nin0
          have F269 : Fld Z h257 a75 "com/example/stackwise/stackwise/input/DecimalColumn$Builder" "values" "[Ljava/math/BigDecimal;" .null := F239.keep K257 nin0
          have V270 : Av Z h257 a77 .long y219 := V240.keep K257 nin0
          have F271 : Fld Z h257 a76 "com/example/stackwise/stackwise/input/Decimals$Reading" "wide" "Ljava/math/BigDecimal;" .null := F241.keep K257 nin0
          have F272 : Fld Z h257 a76 "com/example/stackwise/stackwise/input/Decimals$Reading" "scale" "I" (.int (0 : Int32)) := F242.keep K257 nin0
          have F273 : Fld Z h257 a76 "com/example/stackwise/stackwise/input/Decimals$Reading" "unscaled" "J" (.long (((0 : Int64) * (10 : Int64)) + (wd - (48 : Int32)).toInt64)) := F243.keep K257 nin0
          have G274 := G257.lload (v := zh1) (pc' := 183) at_181 rfl
          have G275 := G274.lcmp (pc' := 184) at_183
          have G276 := G275.ifN at_184 187 (Jvm.Free.XT.ll_ne_f (c124_142.trans (congrArg (fun z => x0 + z) (by decide))).symm)
          have G277 := G276.iconst (v := (1 : Int32)) (pc' := 188) at_187
          have G278 := G277.goto at_188 192
          have G279 := G278.istore (L' := #[.val (.long x0), .second, .val (.long x1), .second, .val (.long x2), .second, .val (.int x3), .val (.int za), .val (.int zb), .val (.long zh1), .second, .val (.long zh2), .second, .val (.int ((1 : Int32) + ((((x3.toUInt32 >>> ((2 : Int32) &&& 31).toUInt32).toInt32) &&& (3 : Int32)) % (3 : Int32)))), .val (.ref a52), .val (.ref a67), .val (.int (1 : Int32))]) (pc' := 194) at_192 rfl
          have G280 := G279.iload (v := ((1 : Int32) + ((((x3.toUInt32 >>> ((2 : Int32) &&& 31).toUInt32).toInt32) &&& (3 : Int32)) % (3 : Int32)))) (pc' := 196) at_194 rfl
          have G281 := G280.iconst (v := (3 : Int32)) (pc' := 197) at_196
          have G282 := G281.icmpN at_197 200 (Jvm.Free.XT.ii_lt_f c131_151)
          have G283 := G282.iload (v := (1 : Int32)) (pc' := 202) at_200 rfl
          have G284 := G283.ifN at_202 205 (Jvm.Free.XT.i0_eq_f (by decide))
          have G285 := G284.aload (v := (.ref a67)) (pc' := 207) at_205 rfl
          have G286 := G285.iconst (v := (2 : Int32)) (pc' := 208) at_207
          obtain ⟨v287, h287, ⟨ev287, K287⟩, g287⟩ := G286.callV (argsL := [(.int (2 : Int32))]) (rest := []) (pc' := 211) (k' := 5) (j' := 8796) (cn_hN l Z a0 hw a67 (2 : Int32) x0 h257 n0 G286.size F263 F264) rfl E259 (hw _ (List.mem_of_getElem? (i := 99) rfl)) (hw _ (List.mem_of_getElem? (i := 100) rfl)) (hw _ (List.mem_of_getElem? (i := 102) rfl)) (hw _ (List.mem_of_getElem? (i := 101) rfl)) (hw _ (List.mem_of_getElem? (i := 3) rfl)) (hw _ (List.mem_of_getElem? (i := 103) rfl)) (by decide) at_208 pd10 rfl (W := 0) rfl rfl (by decide) (by decide) (by decide) (by decide) rfl rfl rfl
          subst ev287
          have G287 := g287 [(.long (x0 + (2 : Int32).toInt64))] rfl
          have V288 : Av Z h287 a52 .byte [(.int wd)] := V258.keep K287 nin0
          have E289 : Exa Z h287 a67 "com/example/stackwise/stackwise/calendar/HourlyValues$Builder" := E259.keep K287
          have E290 : Exa Z h287 a75 "com/example/stackwise/stackwise/input/DecimalColumn$Builder" := E260.keep K287
          have E291 : Exa Z h287 a76 "com/example/stackwise/stackwise/input/Decimals$Reading" := E261.keep K287
          have F292 : Fld Z h287 a67 "com/example/stackwise/stackwise/calendar/HourlyValues$Builder" "values" "Lcom/example/stackwise/stackwise/input/DecimalColumn$Builder;" (.ref a75) := F262.keep K287 nin0
          have F293 : Fld Z h287 a67 "com/example/stackwise/stackwise/calendar/HourlyValues$Builder" "first" "J" (.long x0) := F263.keep K287 nin0
          have F294 : Fld Z h287 a67 "com/example/stackwise/stackwise/calendar/HourlyValues$Builder" "hours" "[J" .null := F264.keep K287 nin0
          have F295 : Fld Z h287 a75 "com/example/stackwise/stackwise/input/DecimalColumn$Builder" "reading" "Lcom/example/stackwise/stackwise/input/Decimals$Reading;" (.ref a76) := F265.keep K287 nin0
          have F296 : Fld Z h287 a75 "com/example/stackwise/stackwise/input/DecimalColumn$Builder" "unscaled" "[J" (.ref a77) := F266.keep K287 nin0
          have F297 : Fld Z h287 a75 "com/example/stackwise/stackwise/input/DecimalColumn$Builder" "scale" "I" (.int (0 : Int32)) := F267.keep K287 nin0
          have F298 : Fld Z h287 a75 "com/example/stackwise/stackwise/input/DecimalColumn$Builder" "size" "I" (.int ((((0 : Int32) + (1 : Int32)) + (1 : Int32)) + (1 : Int32))) := F268.keep K287 nin0
          have F299 : Fld Z h287 a75 "com/example/stackwise/stackwise/input/DecimalColumn$Builder" "values" "[Ljava/math/BigDecimal;" .null := F269.keep K287 nin0
          have V300 : Av Z h287 a77 .long y219 := V270.keep K287 nin0
          have F301 : Fld Z h287 a76 "com/example/stackwise/stackwise/input/Decimals$Reading" "wide" "Ljava/math/BigDecimal;" .null := F271.keep K287 nin0
          have F302 : Fld Z h287 a76 "com/example/stackwise/stackwise/input/Decimals$Reading" "scale" "I" (.int (0 : Int32)) := F272.keep K287 nin0
          have F303 : Fld Z h287 a76 "com/example/stackwise/stackwise/input/Decimals$Reading" "unscaled" "J" (.long (((0 : Int64) * (10 : Int64)) + (wd - (48 : Int32)).toInt64)) := F273.keep K287 nin0
          have G304 := G287.lload (v := zh2) (pc' := 213) at_211 rfl
          have G305 := G304.lcmp (pc' := 214) at_213
          have G306 := G305.ifN at_214 217 (Jvm.Free.XT.ll_ne_f (c142_217.trans (congrArg (fun z => x0 + z) (by decide))).symm)
          have G307 := G306.iconst (v := (1 : Int32)) (pc' := 218) at_217
          have G308 := G307.goto at_218 222
          have G309 := G308.istore (L' := #[.val (.long x0), .second, .val (.long x1), .second, .val (.long x2), .second, .val (.int x3), .val (.int za), .val (.int zb), .val (.long zh1), .second, .val (.long zh2), .second, .val (.int ((1 : Int32) + ((((x3.toUInt32 >>> ((2 : Int32) &&& 31).toUInt32).toInt32) &&& (3 : Int32)) % (3 : Int32)))), .val (.ref a52), .val (.ref a67), .val (.int (1 : Int32))]) (pc' := 224) at_222 rfl
          have G310 := G309.iload (v := (1 : Int32)) (pc' := 226) at_224 rfl
          exact G310.retZ at_226 rfl (Or.inr rfl) rfl
        · obtain ⟨v311, h311, ⟨a312, y313, ev311, K311, sz311_0, F311_0, F311_1, F311_2, F311_3, F311_4, F311_5, F311_6, F311_7, F311_8, F311_9, F311_10, F311_11, F311_12, F311_13, F311_14, F311_15, hx_y313⟩, g311⟩ := G217.callV (argsL := [(.long zh2), (.ref a52), (.int (0 : Int32)), (.int (1 : Int32))]) (rest := []) (pc' := 145) (k' := 6) (j' := 17580) (cn_n2 l Z a0 hw a67 zh2 a52 a75 a76 a77 wd (0 : Int32) (((0 : Int64) * (10 : Int64)) + (wd - (48 : Int32)).toInt64) y144 x0 h143 n0 G217.size F143_0 F143_1 F143_2 F143_3 F143_4 F143_6 F143_7 F143_8 F143_9 F143_10 F143_5 F143_12 F143_13 F143_14 F143_11 V145 g_a67 g_a75 g_a76 g_a77 ne68 (Ne.symm ne79) (Ne.symm ne81) (Ne.symm ne83) ne78 (Ne.symm ne74_0) (Ne.symm ne74_1) ne80 (Ne.symm ne74_2) ne82 q0 q1 q2 hx_y144 c142_217) rfl F143_0 (hw _ (List.mem_of_getElem? (i := 35) rfl)) (hw _ (List.mem_of_getElem? (i := 36) rfl)) (hw _ (List.mem_of_getElem? (i := 38) rfl)) (hw _ (List.mem_of_getElem? (i := 37) rfl)) (hw _ (List.mem_of_getElem? (i := 3) rfl)) (hw _ (List.mem_of_getElem? (i := 39) rfl)) (by decide) at_142 pd9 rfl (W := 0) rfl rfl (by decide) (by decide) (by decide) (by decide) rfl rfl rfl
          subst ev311
          have G311 := g311 [(.int (fSg (((0 : Int64) * (10 : Int64)) + (wd - (48 : Int32)).toInt64)))] rfl
          have g_a312 : n0 ≤ a312 := Nat.le_trans G217.size sz311_0
          have ne314 : a52 ≠ a312 := Nat.ne_of_lt (Nat.lt_of_lt_of_le V145.lt sz311_0)
          have ne315 : a67 ≠ a312 := Nat.ne_of_lt (Nat.lt_of_lt_of_le F143_0.lt sz311_0)
          have ne316 : a75 ≠ a312 := Nat.ne_of_lt (Nat.lt_of_lt_of_le F143_4.lt sz311_0)
          have ne317 : a76 ≠ a312 := Nat.ne_of_lt (Nat.lt_of_lt_of_le F143_5.lt sz311_0)
          have ne318 : a77 ≠ a312 := Nat.ne_of_lt (Nat.lt_of_lt_of_le F143_11.lt sz311_0)
          have V319 : Av Z h311 a52 .byte [(.int wd)] := V145.keep K311 (ninS ne68 (ninS ne78 (ninS ne80 (ninS ne82 nin0))))
          have E320 : Exa Z h311 a67 "com/example/stackwise/stackwise/calendar/HourlyValues$Builder" := F143_0.keep K311
          have E321 : Exa Z h311 a75 "com/example/stackwise/stackwise/input/DecimalColumn$Builder" := F143_4.keep K311
          have E322 : Exa Z h311 a76 "com/example/stackwise/stackwise/input/Decimals$Reading" := F143_5.keep K311
          have G323 := G311.pop (pc' := 146) at_145
          have G324 := G323.aload (v := (.ref a67)) (pc' := 148) at_146 rfl
          have G325 := G324.iconst (v := (0 : Int32)) (pc' := 149) at_148
          obtain ⟨v326, h326, ⟨ev326, K326⟩, g326⟩ := G325.callV (argsL := [(.int (0 : Int32))]) (rest := []) (pc' := 152) (k' := 6) (j' := 17580) (cn_hA l Z a0 hw a67 (0 : Int32) a312 (List.set (List.set (List.set (List.replicate 8784 (.long (0 : Int64))) 0 (.long (x0 + (0 : Int32).toInt64))) 1 (.long (x0 + ((0 : Int32) + (1 : Int32)).toInt64))) 2 (.long zh2)) 0 (x0 + (0 : Int32).toInt64) h311 n0 G325.size F311_3 F311_15 (by decide) rfl) rfl F311_0 (hw _ (List.mem_of_getElem? (i := 99) rfl)) (hw _ (List.mem_of_getElem? (i := 100) rfl)) (hw _ (List.mem_of_getElem? (i := 102) rfl)) (hw _ (List.mem_of_getElem? (i := 101) rfl)) (hw _ (List.mem_of_getElem? (i := 3) rfl)) (hw _ (List.mem_of_getElem? (i := 103) rfl)) (by decide) at_149 pd10 rfl (W := 0) rfl rfl (by decide) (by decide) (by decide) (by decide) rfl rfl rfl
          subst ev326
          have G326 := g326 [(.long (x0 + (0 : Int32).toInt64))] rfl
          have V327 : Av Z h326 a52 .byte [(.int wd)] := V319.keep K326 nin0
          have E328 : Exa Z h326 a67 "com/example/stackwise/stackwise/calendar/HourlyValues$Builder" := F311_0.keep K326
          have E329 : Exa Z h326 a75 "com/example/stackwise/stackwise/input/DecimalColumn$Builder" := F311_4.keep K326
          have E330 : Exa Z h326 a76 "com/example/stackwise/stackwise/input/Decimals$Reading" := F311_5.keep K326
          have F331 : Fld Z h326 a67 "com/example/stackwise/stackwise/calendar/HourlyValues$Builder" "values" "Lcom/example/stackwise/stackwise/input/DecimalColumn$Builder;" (.ref a75) := F311_1.keep K326 nin0
          have F332 : Fld Z h326 a67 "com/example/stackwise/stackwise/calendar/HourlyValues$Builder" "first" "J" (.long x0) := F311_2.keep K326 nin0
          have F333 : Fld Z h326 a67 "com/example/stackwise/stackwise/calendar/HourlyValues$Builder" "hours" "[J" (.ref a312) := F311_3.keep K326 nin0
          have F334 : Fld Z h326 a75 "com/example/stackwise/stackwise/input/DecimalColumn$Builder" "reading" "Lcom/example/stackwise/stackwise/input/Decimals$Reading;" (.ref a76) := F311_6.keep K326 nin0
          have F335 : Fld Z h326 a75 "com/example/stackwise/stackwise/input/DecimalColumn$Builder" "unscaled" "[J" (.ref a77) := F311_7.keep K326 nin0
          have F336 : Fld Z h326 a75 "com/example/stackwise/stackwise/input/DecimalColumn$Builder" "scale" "I" (.int (0 : Int32)) := F311_8.keep K326 nin0
          have F337 : Fld Z h326 a75 "com/example/stackwise/stackwise/input/DecimalColumn$Builder" "size" "I" (.int ((((0 : Int32) + (1 : Int32)) + (1 : Int32)) + (1 : Int32))) := F311_9.keep K326 nin0
          have F338 : Fld Z h326 a75 "com/example/stackwise/stackwise/input/DecimalColumn$Builder" "values" "[Ljava/math/BigDecimal;" .null := F311_10.keep K326 nin0
          have V339 : Av Z h326 a77 .long y313 := F311_11.keep K326 nin0
          have F340 : Fld Z h326 a76 "com/example/stackwise/stackwise/input/Decimals$Reading" "wide" "Ljava/math/BigDecimal;" .null := F311_12.keep K326 nin0
          have F341 : Fld Z h326 a76 "com/example/stackwise/stackwise/input/Decimals$Reading" "scale" "I" (.int (0 : Int32)) := F311_13.keep K326 nin0
          have F342 : Fld Z h326 a76 "com/example/stackwise/stackwise/input/Decimals$Reading" "unscaled" "J" (.long (((0 : Int64) * (10 : Int64)) + (wd - (48 : Int32)).toInt64)) := F311_14.keep K326 nin0
          have V343 : Av Z h326 a312 .long (List.set (List.set (List.set (List.replicate 8784 (.long (0 : Int64))) 0 (.long (x0 + (0 : Int32).toInt64))) 1 (.long (x0 + ((0 : Int32) + (1 : Int32)).toInt64))) 2 (.long zh2)) := F311_15.keep K326 nin0
          have G344 := G326.lloadN (v := x0) (pc' := 153) at_152 rfl
          have G345 := G344.lcmp (pc' := 154) at_153
          have G346 := G345.ifN at_154 157 (Jvm.Free.XT.ll_ne_f (own_z _))
          have G347 := G346.iconst (v := (1 : Int32)) (pc' := 158) at_157
          have G348 := G347.goto at_158 162
          have G349 := G348.istore (L' := #[.val (.long x0), .second, .val (.long x1), .second, .val (.long x2), .second, .val (.int x3), .val (.int za), .val (.int zb), .val (.long zh1), .second, .val (.long zh2), .second, .val (.int ((1 : Int32) + ((((x3.toUInt32 >>> ((2 : Int32) &&& 31).toUInt32).toInt32) &&& (3 : Int32)) % (3 : Int32)))), .val (.ref a52), .val (.ref a67), .val (.int (1 : Int32))]) (pc' := 164) at_162 rfl
          have G350 := G349.iload (v := ((1 : Int32) + ((((x3.toUInt32 >>> ((2 : Int32) &&& 31).toUInt32).toInt32) &&& (3 : Int32)) % (3 : Int32)))) (pc' := 166) at_164 rfl
          have G351 := G350.iconst (v := (2 : Int32)) (pc' := 167) at_166
          have G352 := G351.icmpN at_167 170 (Jvm.Free.XT.ii_lt_f c113_100)
          have G353 := G352.iload (v := (1 : Int32)) (pc' := 172) at_170 rfl
          have G354 := G353.ifN at_172 175 (Jvm.Free.XT.i0_eq_f (by decide))
          have G355 := G354.aload (v := (.ref a67)) (pc' := 177) at_175 rfl
          have G356 := G355.iconst (v := (1 : Int32)) (pc' := 178) at_177
          obtain ⟨v357, h357, ⟨ev357, K357⟩, g357⟩ := G356.callV (argsL := [(.int (1 : Int32))]) (rest := []) (pc' := 181) (k' := 6) (j' := 17580) (cn_hA l Z a0 hw a67 (1 : Int32) a312 (List.set (List.set (List.set (List.replicate 8784 (.long (0 : Int64))) 0 (.long (x0 + (0 : Int32).toInt64))) 1 (.long (x0 + ((0 : Int32) + (1 : Int32)).toInt64))) 2 (.long zh2)) 1 (x0 + ((0 : Int32) + (1 : Int32)).toInt64) h326 n0 G356.size F333 V343 (by decide) rfl) rfl E328 (hw _ (List.mem_of_getElem? (i := 99) rfl)) (hw _ (List.mem_of_getElem? (i := 100) rfl)) (hw _ (List.mem_of_getElem? (i := 102) rfl)) (hw _ (List.mem_of_getElem? (i := 101) rfl)) (hw _ (List.mem_of_getElem? (i := 3) rfl)) (hw _ (List.mem_of_getElem? (i := 103) rfl)) (by decide) at_178 pd10 rfl (W := 0) rfl rfl (by decide) (by decide) (by decide) (by decide) rfl rfl rfl
          subst ev357
          have G357 := g357 [(.long (x0 + ((0 : Int32) + (1 : Int32)).toInt64))] rfl
          have V358 : Av Z h357 a52 .byte [(.int wd)] := V327.keep K357 nin0
          have E359 : Exa Z h357 a67 "com/example/stackwise/stackwise/calendar/HourlyValues$Builder" := E328.keep K357
          have E360 : Exa Z h357 a75 "com/example/stackwise/stackwise/input/DecimalColumn$Builder" := E329.keep K357
          have E361 : Exa Z h357 a76 "com/example/stackwise/stackwise/input/Decimals$Reading" := E330.keep K357
          have F362 : Fld Z h357 a67 "com/example/stackwise/stackwise/calendar/HourlyValues$Builder" "values" "Lcom/example/stackwise/stackwise/input/DecimalColumn$Builder;" (.ref a75) := F331.keep K357 nin0
          have F363 : Fld Z h357 a67 "com/example/stackwise/stackwise/calendar/HourlyValues$Builder" "first" "J" (.long x0) := F332.keep K357 nin0
          have F364 : Fld Z h357 a67 "com/example/stackwise/stackwise/calendar/HourlyValues$Builder" "hours" "[J" (.ref a312) := F333.keep K357 nin0
          have F365 : Fld Z h357 a75 "com/example/stackwise/stackwise/input/DecimalColumn$Builder" "reading" "Lcom/example/stackwise/stackwise/input/Decimals$Reading;" (.ref a76) := F334.keep K357 nin0
          have F366 : Fld Z h357 a75 "com/example/stackwise/stackwise/input/DecimalColumn$Builder" "unscaled" "[J" (.ref a77) := F335.keep K357 nin0
          have F367 : Fld Z h357 a75 "com/example/stackwise/stackwise/input/DecimalColumn$Builder" "scale" "I" (.int (0 : Int32)) := F336.keep K357 nin0
          have F368 : Fld Z h357 a75 "com/example/stackwise/stackwise/input/DecimalColumn$Builder" "size" "I" (.int ((((0 : Int32) + (1 : Int32)) + (1 : Int32)) + (1 : Int32))) := F337.keep K357 nin0
          have F369 : Fld Z h357 a75 "com/example/stackwise/stackwise/input/DecimalColumn$Builder" "values" "[Ljava/math/BigDecimal;" .null := F338.keep K357 nin0
          have V370 : Av Z h357 a77 .long y313 := V339.keep K357 nin0
          have F371 : Fld Z h357 a76 "com/example/stackwise/stackwise/input/Decimals$Reading" "wide" "Ljava/math/BigDecimal;" .null := F340.keep K357 nin0
          have F372 : Fld Z h357 a76 "com/example/stackwise/stackwise/input/Decimals$Reading" "scale" "I" (.int (0 : Int32)) := F341.keep K357 nin0
          have F373 : Fld Z h357 a76 "com/example/stackwise/stackwise/input/Decimals$Reading" "unscaled" "J" (.long (((0 : Int64) * (10 : Int64)) + (wd - (48 : Int32)).toInt64)) := F342.keep K357 nin0
          have V374 : Av Z h357 a312 .long (List.set (List.set (List.set (List.replicate 8784 (.long (0 : Int64))) 0 (.long (x0 + (0 : Int32).toInt64))) 1 (.long (x0 + ((0 : Int32) + (1 : Int32)).toInt64))) 2 (.long zh2)) := V343.keep K357 nin0
          have G375 := G357.lload (v := zh1) (pc' := 183) at_181 rfl
          have G376 := G375.lcmp (pc' := 184) at_183
          have G377 := G376.ifN at_184 187 (Jvm.Free.XT.ll_ne_f (c124_142.trans (congrArg (fun z => x0 + z) (by decide))).symm)
          have G378 := G377.iconst (v := (1 : Int32)) (pc' := 188) at_187
          have G379 := G378.goto at_188 192
          have G380 := G379.istore (L' := #[.val (.long x0), .second, .val (.long x1), .second, .val (.long x2), .second, .val (.int x3), .val (.int za), .val (.int zb), .val (.long zh1), .second, .val (.long zh2), .second, .val (.int ((1 : Int32) + ((((x3.toUInt32 >>> ((2 : Int32) &&& 31).toUInt32).toInt32) &&& (3 : Int32)) % (3 : Int32)))), .val (.ref a52), .val (.ref a67), .val (.int (1 : Int32))]) (pc' := 194) at_192 rfl
          have G381 := G380.iload (v := ((1 : Int32) + ((((x3.toUInt32 >>> ((2 : Int32) &&& 31).toUInt32).toInt32) &&& (3 : Int32)) % (3 : Int32)))) (pc' := 196) at_194 rfl
          have G382 := G381.iconst (v := (3 : Int32)) (pc' := 197) at_196
          have G383 := G382.icmpN at_197 200 (Jvm.Free.XT.ii_lt_f c131_151)
          have G384 := G383.iload (v := (1 : Int32)) (pc' := 202) at_200 rfl
          have G385 := G384.ifN at_202 205 (Jvm.Free.XT.i0_eq_f (by decide))
          have G386 := G385.aload (v := (.ref a67)) (pc' := 207) at_205 rfl
          have G387 := G386.iconst (v := (2 : Int32)) (pc' := 208) at_207
          obtain ⟨v388, h388, ⟨ev388, K388⟩, g388⟩ := G387.callV (argsL := [(.int (2 : Int32))]) (rest := []) (pc' := 211) (k' := 6) (j' := 17580) (cn_hA l Z a0 hw a67 (2 : Int32) a312 (List.set (List.set (List.set (List.replicate 8784 (.long (0 : Int64))) 0 (.long (x0 + (0 : Int32).toInt64))) 1 (.long (x0 + ((0 : Int32) + (1 : Int32)).toInt64))) 2 (.long zh2)) 2 zh2 h357 n0 G387.size F364 V374 (by decide) rfl) rfl E359 (hw _ (List.mem_of_getElem? (i := 99) rfl)) (hw _ (List.mem_of_getElem? (i := 100) rfl)) (hw _ (List.mem_of_getElem? (i := 102) rfl)) (hw _ (List.mem_of_getElem? (i := 101) rfl)) (hw _ (List.mem_of_getElem? (i := 3) rfl)) (hw _ (List.mem_of_getElem? (i := 103) rfl)) (by decide) at_208 pd10 rfl (W := 0) rfl rfl (by decide) (by decide) (by decide) (by decide) rfl rfl rfl
          subst ev388
          have G388 := g388 [(.long zh2)] rfl
          have V389 : Av Z h388 a52 .byte [(.int wd)] := V358.keep K388 nin0
          have E390 : Exa Z h388 a67 "com/example/stackwise/stackwise/calendar/HourlyValues$Builder" := E359.keep K388
          have E391 : Exa Z h388 a75 "com/example/stackwise/stackwise/input/DecimalColumn$Builder" := E360.keep K388
          have E392 : Exa Z h388 a76 "com/example/stackwise/stackwise/input/Decimals$Reading" := E361.keep K388
          have F393 : Fld Z h388 a67 "com/example/stackwise/stackwise/calendar/HourlyValues$Builder" "values" "Lcom/example/stackwise/stackwise/input/DecimalColumn$Builder;" (.ref a75) := F362.keep K388 nin0
          have F394 : Fld Z h388 a67 "com/example/stackwise/stackwise/calendar/HourlyValues$Builder" "first" "J" (.long x0) := F363.keep K388 nin0
          have F395 : Fld Z h388 a67 "com/example/stackwise/stackwise/calendar/HourlyValues$Builder" "hours" "[J" (.ref a312) := F364.keep K388 nin0
          have F396 : Fld Z h388 a75 "com/example/stackwise/stackwise/input/DecimalColumn$Builder" "reading" "Lcom/example/stackwise/stackwise/input/Decimals$Reading;" (.ref a76) := F365.keep K388 nin0
          have F397 : Fld Z h388 a75 "com/example/stackwise/stackwise/input/DecimalColumn$Builder" "unscaled" "[J" (.ref a77) := F366.keep K388 nin0
          have F398 : Fld Z h388 a75 "com/example/stackwise/stackwise/input/DecimalColumn$Builder" "scale" "I" (.int (0 : Int32)) := F367.keep K388 nin0
          have F399 : Fld Z h388 a75 "com/example/stackwise/stackwise/input/DecimalColumn$Builder" "size" "I" (.int ((((0 : Int32) + (1 : Int32)) + (1 : Int32)) + (1 : Int32))) := F368.keep K388 nin0
          have F400 : Fld Z h388 a75 "com/example/stackwise/stackwise/input/DecimalColumn$Builder" "values" "[Ljava/math/BigDecimal;" .null := F369.keep K388 nin0
          have V401 : Av Z h388 a77 .long y313 := V370.keep K388 nin0
          have F402 : Fld Z h388 a76 "com/example/stackwise/stackwise/input/Decimals$Reading" "wide" "Ljava/math/BigDecimal;" .null := F371.keep K388 nin0
          have F403 : Fld Z h388 a76 "com/example/stackwise/stackwise/input/Decimals$Reading" "scale" "I" (.int (0 : Int32)) := F372.keep K388 nin0
          have F404 : Fld Z h388 a76 "com/example/stackwise/stackwise/input/Decimals$Reading" "unscaled" "J" (.long (((0 : Int64) * (10 : Int64)) + (wd - (48 : Int32)).toInt64)) := F373.keep K388 nin0
          have V405 : Av Z h388 a312 .long (List.set (List.set (List.set (List.replicate 8784 (.long (0 : Int64))) 0 (.long (x0 + (0 : Int32).toInt64))) 1 (.long (x0 + ((0 : Int32) + (1 : Int32)).toInt64))) 2 (.long zh2)) := V374.keep K388 nin0
          have G406 := G388.lload (v := zh2) (pc' := 213) at_211 rfl
          have G407 := G406.lcmp (pc' := 214) at_213
          have G408 := G407.ifN at_214 217 (Jvm.Free.XT.ll_ne_f rfl)
          have G409 := G408.iconst (v := (1 : Int32)) (pc' := 218) at_217
          have G410 := G409.goto at_218 222
          have G411 := G410.istore (L' := #[.val (.long x0), .second, .val (.long x1), .second, .val (.long x2), .second, .val (.int x3), .val (.int za), .val (.int zb), .val (.long zh1), .second, .val (.long zh2), .second, .val (.int ((1 : Int32) + ((((x3.toUInt32 >>> ((2 : Int32) &&& 31).toUInt32).toInt32) &&& (3 : Int32)) % (3 : Int32)))), .val (.ref a52), .val (.ref a67), .val (.int (1 : Int32))]) (pc' := 224) at_222 rfl
          have G412 := G411.iload (v := (1 : Int32)) (pc' := 226) at_224 rfl
          exact G412.retZ at_226 rfl (Or.inr rfl) rfl
    · obtain ⟨v413, h413, ⟨a414, y415, ev413, K413, sz413_0, F413_0, F413_1, F413_2, F413_3, F413_4, F413_5, F413_6, F413_7, F413_8, F413_9, F413_10, F413_11, F413_12, F413_13, F413_14, F413_15, hx_y415⟩, g413⟩ := G142.callV (argsL := [(.long zh1), (.ref a52), (.int (0 : Int32)), (.int (1 : Int32))]) (rest := []) (pc' := 127) (k' := 6) (j' := 17580) (cn_n1 l Z a0 hw a67 zh1 a52 a75 a76 a77 wd (0 : Int32) (((0 : Int64) * (10 : Int64)) + (wd - (48 : Int32)).toInt64) y93 x0 h92 n0 G142.size F92_0 F92_1 F92_2 F92_3 F92_4 F92_6 F92_7 F92_8 F92_9 F92_10 F92_5 F92_12 F92_13 F92_14 F92_11 V94 g_a67 g_a75 g_a76 g_a77 ne68 (Ne.symm ne79) (Ne.symm ne81) (Ne.symm ne83) ne78 (Ne.symm ne74_0) (Ne.symm ne74_1) ne80 (Ne.symm ne74_2) ne82 q0 q1 q2 hx_y93 c124_142) rfl F92_0 (hw _ (List.mem_of_getElem? (i := 35) rfl)) (hw _ (List.mem_of_getElem? (i := 36) rfl)) (hw _ (List.mem_of_getElem? (i := 38) rfl)) (hw _ (List.mem_of_getElem? (i := 37) rfl)) (hw _ (List.mem_of_getElem? (i := 3) rfl)) (hw _ (List.mem_of_getElem? (i := 39) rfl)) (by decide) at_124 pd9 rfl (W := 0) rfl rfl (by decide) (by decide) (by decide) (by decide) rfl rfl rfl
      subst ev413
      have G413 := g413 [(.int (fSg (((0 : Int64) * (10 : Int64)) + (wd - (48 : Int32)).toInt64)))] rfl
      have g_a414 : n0 ≤ a414 := Nat.le_trans G142.size sz413_0
      have ne416 : a52 ≠ a414 := Nat.ne_of_lt (Nat.lt_of_lt_of_le V94.lt sz413_0)
      have ne417 : a67 ≠ a414 := Nat.ne_of_lt (Nat.lt_of_lt_of_le F92_0.lt sz413_0)
      have ne418 : a75 ≠ a414 := Nat.ne_of_lt (Nat.lt_of_lt_of_le F92_4.lt sz413_0)
      have ne419 : a76 ≠ a414 := Nat.ne_of_lt (Nat.lt_of_lt_of_le F92_5.lt sz413_0)
      have ne420 : a77 ≠ a414 := Nat.ne_of_lt (Nat.lt_of_lt_of_le F92_11.lt sz413_0)
      have V421 : Av Z h413 a52 .byte [(.int wd)] := V94.keep K413 (ninS ne68 (ninS ne78 (ninS ne80 (ninS ne82 nin0))))
      have E422 : Exa Z h413 a67 "com/example/stackwise/stackwise/calendar/HourlyValues$Builder" := F92_0.keep K413
      have E423 : Exa Z h413 a75 "com/example/stackwise/stackwise/input/DecimalColumn$Builder" := F92_4.keep K413
      have E424 : Exa Z h413 a76 "com/example/stackwise/stackwise/input/Decimals$Reading" := F92_5.keep K413
      have G425 := G413.pop (pc' := 128) at_127
      have G426 := G425.iload (v := ((1 : Int32) + ((((x3.toUInt32 >>> ((2 : Int32) &&& 31).toUInt32).toInt32) &&& (3 : Int32)) % (3 : Int32)))) (pc' := 130) at_128 rfl
      have G427 := G426.iconst (v := (3 : Int32)) (pc' := 131) at_130
      by_cases c131_427 : ((1 : Int32) + ((((x3.toUInt32 >>> ((2 : Int32) &&& 31).toUInt32).toInt32) &&& (3 : Int32)) % (3 : Int32))) < (3 : Int32)
      · have G428 := G427.icmpY at_131 146 (Jvm.Free.XT.ii_lt_t c131_427)
        have G429 := G428.aload (v := (.ref a67)) (pc' := 148) at_146 rfl
        have G430 := G429.iconst (v := (0 : Int32)) (pc' := 149) at_148
        obtain ⟨v431, h431, ⟨ev431, K431⟩, g431⟩ := G430.callV (argsL := [(.int (0 : Int32))]) (rest := []) (pc' := 152) (k' := 6) (j' := 17580) (cn_hA l Z a0 hw a67 (0 : Int32) a414 (List.set (List.set (List.replicate 8784 (.long (0 : Int64))) 0 (.long (x0 + (0 : Int32).toInt64))) 1 (.long zh1)) 0 (x0 + (0 : Int32).toInt64) h413 n0 G430.size F413_3 F413_15 (by decide) rfl) rfl F413_0 (hw _ (List.mem_of_getElem? (i := 99) rfl)) (hw _ (List.mem_of_getElem? (i := 100) rfl)) (hw _ (List.mem_of_getElem? (i := 102) rfl)) (hw _ (List.mem_of_getElem? (i := 101) rfl)) (hw _ (List.mem_of_getElem? (i := 3) rfl)) (hw _ (List.mem_of_getElem? (i := 103) rfl)) (by decide) at_149 pd10 rfl (W := 0) rfl rfl (by decide) (by decide) (by decide) (by decide) rfl rfl rfl
        subst ev431
        have G431 := g431 [(.long (x0 + (0 : Int32).toInt64))] rfl
        have V432 : Av Z h431 a52 .byte [(.int wd)] := V421.keep K431 nin0
        have E433 : Exa Z h431 a67 "com/example/stackwise/stackwise/calendar/HourlyValues$Builder" := F413_0.keep K431
        have E434 : Exa Z h431 a75 "com/example/stackwise/stackwise/input/DecimalColumn$Builder" := F413_4.keep K431
        have E435 : Exa Z h431 a76 "com/example/stackwise/stackwise/input/Decimals$Reading" := F413_5.keep K431
        have F436 : Fld Z h431 a67 "com/example/stackwise/stackwise/calendar/HourlyValues$Builder" "values" "Lcom/example/stackwise/stackwise/input/DecimalColumn$Builder;" (.ref a75) := F413_1.keep K431 nin0
        have F437 : Fld Z h431 a67 "com/example/stackwise/stackwise/calendar/HourlyValues$Builder" "first" "J" (.long x0) := F413_2.keep K431 nin0
        have F438 : Fld Z h431 a67 "com/example/stackwise/stackwise/calendar/HourlyValues$Builder" "hours" "[J" (.ref a414) := F413_3.keep K431 nin0
        have F439 : Fld Z h431 a75 "com/example/stackwise/stackwise/input/DecimalColumn$Builder" "reading" "Lcom/example/stackwise/stackwise/input/Decimals$Reading;" (.ref a76) := F413_6.keep K431 nin0
        have F440 : Fld Z h431 a75 "com/example/stackwise/stackwise/input/DecimalColumn$Builder" "unscaled" "[J" (.ref a77) := F413_7.keep K431 nin0
        have F441 : Fld Z h431 a75 "com/example/stackwise/stackwise/input/DecimalColumn$Builder" "scale" "I" (.int (0 : Int32)) := F413_8.keep K431 nin0
        have F442 : Fld Z h431 a75 "com/example/stackwise/stackwise/input/DecimalColumn$Builder" "size" "I" (.int (((0 : Int32) + (1 : Int32)) + (1 : Int32))) := F413_9.keep K431 nin0
        have F443 : Fld Z h431 a75 "com/example/stackwise/stackwise/input/DecimalColumn$Builder" "values" "[Ljava/math/BigDecimal;" .null := F413_10.keep K431 nin0
        have V444 : Av Z h431 a77 .long y415 := F413_11.keep K431 nin0
        have F445 : Fld Z h431 a76 "com/example/stackwise/stackwise/input/Decimals$Reading" "wide" "Ljava/math/BigDecimal;" .null := F413_12.keep K431 nin0
        have F446 : Fld Z h431 a76 "com/example/stackwise/stackwise/input/Decimals$Reading" "scale" "I" (.int (0 : Int32)) := F413_13.keep K431 nin0
        have F447 : Fld Z h431 a76 "com/example/stackwise/stackwise/input/Decimals$Reading" "unscaled" "J" (.long (((0 : Int64) * (10 : Int64)) + (wd - (48 : Int32)).toInt64)) := F413_14.keep K431 nin0
        have V448 : Av Z h431 a414 .long (List.set (List.set (List.replicate 8784 (.long (0 : Int64))) 0 (.long (x0 + (0 : Int32).toInt64))) 1 (.long zh1)) := F413_15.keep K431 nin0
        have G449 := G431.lloadN (v := x0) (pc' := 153) at_152 rfl
        have G450 := G449.lcmp (pc' := 154) at_153
        have G451 := G450.ifN at_154 157 (Jvm.Free.XT.ll_ne_f (own_z _))
        have G452 := G451.iconst (v := (1 : Int32)) (pc' := 158) at_157
        have G453 := G452.goto at_158 162
        have G454 := G453.istore (L' := #[.val (.long x0), .second, .val (.long x1), .second, .val (.long x2), .second, .val (.int x3), .val (.int za), .val (.int zb), .val (.long zh1), .second, .val (.long zh2), .second, .val (.int ((1 : Int32) + ((((x3.toUInt32 >>> ((2 : Int32) &&& 31).toUInt32).toInt32) &&& (3 : Int32)) % (3 : Int32)))), .val (.ref a52), .val (.ref a67), .val (.int (1 : Int32))]) (pc' := 164) at_162 rfl
        have G455 := G454.iload (v := ((1 : Int32) + ((((x3.toUInt32 >>> ((2 : Int32) &&& 31).toUInt32).toInt32) &&& (3 : Int32)) % (3 : Int32)))) (pc' := 166) at_164 rfl
        have G456 := G455.iconst (v := (2 : Int32)) (pc' := 167) at_166
        have G457 := G456.icmpN at_167 170 (Jvm.Free.XT.ii_lt_f c113_100)
        have G458 := G457.iload (v := (1 : Int32)) (pc' := 172) at_170 rfl
        have G459 := G458.ifN at_172 175 (Jvm.Free.XT.i0_eq_f (by decide))
        have G460 := G459.aload (v := (.ref a67)) (pc' := 177) at_175 rfl
        have G461 := G460.iconst (v := (1 : Int32)) (pc' := 178) at_177
        obtain ⟨v462, h462, ⟨ev462, K462⟩, g462⟩ := G461.callV (argsL := [(.int (1 : Int32))]) (rest := []) (pc' := 181) (k' := 6) (j' := 17580) (cn_hA l Z a0 hw a67 (1 : Int32) a414 (List.set (List.set (List.replicate 8784 (.long (0 : Int64))) 0 (.long (x0 + (0 : Int32).toInt64))) 1 (.long zh1)) 1 zh1 h431 n0 G461.size F438 V448 (by decide) rfl) rfl E433 (hw _ (List.mem_of_getElem? (i := 99) rfl)) (hw _ (List.mem_of_getElem? (i := 100) rfl)) (hw _ (List.mem_of_getElem? (i := 102) rfl)) (hw _ (List.mem_of_getElem? (i := 101) rfl)) (hw _ (List.mem_of_getElem? (i := 3) rfl)) (hw _ (List.mem_of_getElem? (i := 103) rfl)) (by decide) at_178 pd10 rfl (W := 0) rfl rfl (by decide) (by decide) (by decide) (by decide) rfl rfl rfl
        subst ev462
        have G462 := g462 [(.long zh1)] rfl
        have V463 : Av Z h462 a52 .byte [(.int wd)] := V432.keep K462 nin0
        have E464 : Exa Z h462 a67 "com/example/stackwise/stackwise/calendar/HourlyValues$Builder" := E433.keep K462
        have E465 : Exa Z h462 a75 "com/example/stackwise/stackwise/input/DecimalColumn$Builder" := E434.keep K462
        have E466 : Exa Z h462 a76 "com/example/stackwise/stackwise/input/Decimals$Reading" := E435.keep K462
        have F467 : Fld Z h462 a67 "com/example/stackwise/stackwise/calendar/HourlyValues$Builder" "values" "Lcom/example/stackwise/stackwise/input/DecimalColumn$Builder;" (.ref a75) := F436.keep K462 nin0
        have F468 : Fld Z h462 a67 "com/example/stackwise/stackwise/calendar/HourlyValues$Builder" "first" "J" (.long x0) := F437.keep K462 nin0
        have F469 : Fld Z h462 a67 "com/example/stackwise/stackwise/calendar/HourlyValues$Builder" "hours" "[J" (.ref a414) := F438.keep K462 nin0
        have F470 : Fld Z h462 a75 "com/example/stackwise/stackwise/input/DecimalColumn$Builder" "reading" "Lcom/example/stackwise/stackwise/input/Decimals$Reading;" (.ref a76) := F439.keep K462 nin0
        have F471 : Fld Z h462 a75 "com/example/stackwise/stackwise/input/DecimalColumn$Builder" "unscaled" "[J" (.ref a77) := F440.keep K462 nin0
        have F472 : Fld Z h462 a75 "com/example/stackwise/stackwise/input/DecimalColumn$Builder" "scale" "I" (.int (0 : Int32)) := F441.keep K462 nin0
        have F473 : Fld Z h462 a75 "com/example/stackwise/stackwise/input/DecimalColumn$Builder" "size" "I" (.int (((0 : Int32) + (1 : Int32)) + (1 : Int32))) := F442.keep K462 nin0
        have F474 : Fld Z h462 a75 "com/example/stackwise/stackwise/input/DecimalColumn$Builder" "values" "[Ljava/math/BigDecimal;" .null := F443.keep K462 nin0
        have V475 : Av Z h462 a77 .long y415 := V444.keep K462 nin0
        have F476 : Fld Z h462 a76 "com/example/stackwise/stackwise/input/Decimals$Reading" "wide" "Ljava/math/BigDecimal;" .null := F445.keep K462 nin0
        have F477 : Fld Z h462 a76 "com/example/stackwise/stackwise/input/Decimals$Reading" "scale" "I" (.int (0 : Int32)) := F446.keep K462 nin0
        have F478 : Fld Z h462 a76 "com/example/stackwise/stackwise/input/Decimals$Reading" "unscaled" "J" (.long (((0 : Int64) * (10 : Int64)) + (wd - (48 : Int32)).toInt64)) := F447.keep K462 nin0
        have V479 : Av Z h462 a414 .long (List.set (List.set (List.replicate 8784 (.long (0 : Int64))) 0 (.long (x0 + (0 : Int32).toInt64))) 1 (.long zh1)) := V448.keep K462 nin0
        have G480 := G462.lload (v := zh1) (pc' := 183) at_181 rfl
        have G481 := G480.lcmp (pc' := 184) at_183
        have G482 := G481.ifN at_184 187 (Jvm.Free.XT.ll_ne_f rfl)
        have G483 := G482.iconst (v := (1 : Int32)) (pc' := 188) at_187
        have G484 := G483.goto at_188 192
        have G485 := G484.istore (L' := #[.val (.long x0), .second, .val (.long x1), .second, .val (.long x2), .second, .val (.int x3), .val (.int za), .val (.int zb), .val (.long zh1), .second, .val (.long zh2), .second, .val (.int ((1 : Int32) + ((((x3.toUInt32 >>> ((2 : Int32) &&& 31).toUInt32).toInt32) &&& (3 : Int32)) % (3 : Int32)))), .val (.ref a52), .val (.ref a67), .val (.int (1 : Int32))]) (pc' := 194) at_192 rfl
        have G486 := G485.iload (v := ((1 : Int32) + ((((x3.toUInt32 >>> ((2 : Int32) &&& 31).toUInt32).toInt32) &&& (3 : Int32)) % (3 : Int32)))) (pc' := 196) at_194 rfl
        have G487 := G486.iconst (v := (3 : Int32)) (pc' := 197) at_196
        have G488 := G487.icmpY at_197 224 (Jvm.Free.XT.ii_lt_t c131_427)
        have G489 := G488.iload (v := (1 : Int32)) (pc' := 226) at_224 rfl
        exact G489.retZ at_226 rfl (Or.inr rfl) rfl
      · have G490 := G427.icmpN at_131 134 (Jvm.Free.XT.ii_lt_f c131_427)
        have G491 := G490.aload (v := (.ref a67)) (pc' := 136) at_134 rfl
        have G492 := G491.lload (v := zh2) (pc' := 138) at_136 rfl
        have G493 := G492.aload (v := (.ref a52)) (pc' := 140) at_138 rfl
        have G494 := G493.iconst (v := (0 : Int32)) (pc' := 141) at_140
        have G495 := G494.iconst (v := (1 : Int32)) (pc' := 142) at_141
        obtain ⟨v496, h496, ⟨y497, ev496, K496, F496_0, F496_1, F496_2, F496_3, F496_4, F496_5, F496_6, F496_7, F496_8, F496_9, F496_10, F496_11, F496_12, F496_13, F496_14, F496_15, hx_y497⟩, g496⟩ := G495.callV (argsL := [(.long zh2), (.ref a52), (.int (0 : Int32)), (.int (1 : Int32))]) (rest := []) (pc' := 145) (k' := 6) (j' := 17580) (cn_r2 l Z a0 hw a67 zh2 a52 a75 a76 a77 wd (0 : Int32) (((0 : Int64) * (10 : Int64)) + (wd - (48 : Int32)).toInt64) y415 x0 a414 (List.set (List.set (List.replicate 8784 (.long (0 : Int64))) 0 (.long (x0 + (0 : Int32).toInt64))) 1 (.long zh1)) h413 n0 G495.size F413_0 F413_1 F413_2 F413_3 F413_4 F413_6 F413_7 F413_8 F413_9 F413_10 F413_5 F413_12 F413_13 F413_14 F413_11 V421 F413_15 g_a67 g_a75 g_a76 g_a77 g_a414 ne68 (Ne.symm ne79) (Ne.symm ne81) (Ne.symm ne83) (Ne.symm ne417) ne78 (Ne.symm ne74_0) (Ne.symm ne74_1) (Ne.symm ne418) ne80 (Ne.symm ne74_2) (Ne.symm ne419) ne82 (Ne.symm ne420) ne416 q0 q1 q2 hx_y415 (by simp only [List.length_set, List.length_replicate])) rfl F413_0 (hw _ (List.mem_of_getElem? (i := 35) rfl)) (hw _ (List.mem_of_getElem? (i := 36) rfl)) (hw _ (List.mem_of_getElem? (i := 38) rfl)) (hw _ (List.mem_of_getElem? (i := 37) rfl)) (hw _ (List.mem_of_getElem? (i := 3) rfl)) (hw _ (List.mem_of_getElem? (i := 39) rfl)) (by decide) at_142 pd9 rfl (W := 0) rfl rfl (by decide) (by decide) (by decide) (by decide) rfl rfl rfl
        subst ev496
        have G496 := g496 [(.int (fSg (((0 : Int64) * (10 : Int64)) + (wd - (48 : Int32)).toInt64)))] rfl
        have V498 : Av Z h496 a52 .byte [(.int wd)] := V421.keep K496 (ninS ne68 (ninS ne78 (ninS ne80 (ninS ne82 (ninS ne416 nin0)))))
        have E499 : Exa Z h496 a67 "com/example/stackwise/stackwise/calendar/HourlyValues$Builder" := F413_0.keep K496
        have E500 : Exa Z h496 a75 "com/example/stackwise/stackwise/input/DecimalColumn$Builder" := F413_4.keep K496
        have E501 : Exa Z h496 a76 "com/example/stackwise/stackwise/input/Decimals$Reading" := F413_5.keep K496
        have G502 := G496.pop (pc' := 146) at_145
        have G503 := G502.aload (v := (.ref a67)) (pc' := 148) at_146 rfl
        have G504 := G503.iconst (v := (0 : Int32)) (pc' := 149) at_148
        obtain ⟨v505, h505, ⟨ev505, K505⟩, g505⟩ := G504.callV (argsL := [(.int (0 : Int32))]) (rest := []) (pc' := 152) (k' := 6) (j' := 17580) (cn_hA l Z a0 hw a67 (0 : Int32) a414 (List.set (List.set (List.set (List.replicate 8784 (.long (0 : Int64))) 0 (.long (x0 + (0 : Int32).toInt64))) 1 (.long zh1)) 2 (.long zh2)) 0 (x0 + (0 : Int32).toInt64) h496 n0 G504.size F496_3 F496_6 (by decide) rfl) rfl F496_0 (hw _ (List.mem_of_getElem? (i := 99) rfl)) (hw _ (List.mem_of_getElem? (i := 100) rfl)) (hw _ (List.mem_of_getElem? (i := 102) rfl)) (hw _ (List.mem_of_getElem? (i := 101) rfl)) (hw _ (List.mem_of_getElem? (i := 3) rfl)) (hw _ (List.mem_of_getElem? (i := 103) rfl)) (by decide) at_149 pd10 rfl (W := 0) rfl rfl (by decide) (by decide) (by decide) (by decide) rfl rfl rfl
        subst ev505
        have G505 := g505 [(.long (x0 + (0 : Int32).toInt64))] rfl
        have V506 : Av Z h505 a52 .byte [(.int wd)] := V498.keep K505 nin0
        have E507 : Exa Z h505 a67 "com/example/stackwise/stackwise/calendar/HourlyValues$Builder" := F496_0.keep K505
        have E508 : Exa Z h505 a75 "com/example/stackwise/stackwise/input/DecimalColumn$Builder" := F496_4.keep K505
        have E509 : Exa Z h505 a76 "com/example/stackwise/stackwise/input/Decimals$Reading" := F496_5.keep K505
        have F510 : Fld Z h505 a67 "com/example/stackwise/stackwise/calendar/HourlyValues$Builder" "values" "Lcom/example/stackwise/stackwise/input/DecimalColumn$Builder;" (.ref a75) := F496_1.keep K505 nin0
        have F511 : Fld Z h505 a67 "com/example/stackwise/stackwise/calendar/HourlyValues$Builder" "first" "J" (.long x0) := F496_2.keep K505 nin0
        have F512 : Fld Z h505 a67 "com/example/stackwise/stackwise/calendar/HourlyValues$Builder" "hours" "[J" (.ref a414) := F496_3.keep K505 nin0
        have V513 : Av Z h505 a414 .long (List.set (List.set (List.set (List.replicate 8784 (.long (0 : Int64))) 0 (.long (x0 + (0 : Int32).toInt64))) 1 (.long zh1)) 2 (.long zh2)) := F496_6.keep K505 nin0
        have F514 : Fld Z h505 a75 "com/example/stackwise/stackwise/input/DecimalColumn$Builder" "reading" "Lcom/example/stackwise/stackwise/input/Decimals$Reading;" (.ref a76) := F496_7.keep K505 nin0
        have F515 : Fld Z h505 a75 "com/example/stackwise/stackwise/input/DecimalColumn$Builder" "unscaled" "[J" (.ref a77) := F496_8.keep K505 nin0
        have F516 : Fld Z h505 a75 "com/example/stackwise/stackwise/input/DecimalColumn$Builder" "scale" "I" (.int (0 : Int32)) := F496_9.keep K505 nin0
        have F517 : Fld Z h505 a75 "com/example/stackwise/stackwise/input/DecimalColumn$Builder" "size" "I" (.int ((((0 : Int32) + (1 : Int32)) + (1 : Int32)) + (1 : Int32))) := F496_10.keep K505 nin0
        have F518 : Fld Z h505 a75 "com/example/stackwise/stackwise/input/DecimalColumn$Builder" "values" "[Ljava/math/BigDecimal;" .null := F496_11.keep K505 nin0
        have V519 : Av Z h505 a77 .long y497 := F496_12.keep K505 nin0
        have F520 : Fld Z h505 a76 "com/example/stackwise/stackwise/input/Decimals$Reading" "wide" "Ljava/math/BigDecimal;" .null := F496_13.keep K505 nin0
        have F521 : Fld Z h505 a76 "com/example/stackwise/stackwise/input/Decimals$Reading" "scale" "I" (.int (0 : Int32)) := F496_14.keep K505 nin0
        have F522 : Fld Z h505 a76 "com/example/stackwise/stackwise/input/Decimals$Reading" "unscaled" "J" (.long (((0 : Int64) * (10 : Int64)) + (wd - (48 : Int32)).toInt64)) := F496_15.keep K505 nin0
        have G523 := G505.lloadN (v := x0) (pc' := 153) at_152 rfl
        have G524 := G523.lcmp (pc' := 154) at_153
        have G525 := G524.ifN at_154 157 (Jvm.Free.XT.ll_ne_f (own_z _))
        have G526 := G525.iconst (v := (1 : Int32)) (pc' := 158) at_157
        have G527 := G526.goto at_158 162
        have G528 := G527.istore (L' := #[.val (.long x0), .second, .val (.long x1), .second, .val (.long x2), .second, .val (.int x3), .val (.int za), .val (.int zb), .val (.long zh1), .second, .val (.long zh2), .second, .val (.int ((1 : Int32) + ((((x3.toUInt32 >>> ((2 : Int32) &&& 31).toUInt32).toInt32) &&& (3 : Int32)) % (3 : Int32)))), .val (.ref a52), .val (.ref a67), .val (.int (1 : Int32))]) (pc' := 164) at_162 rfl
        have G529 := G528.iload (v := ((1 : Int32) + ((((x3.toUInt32 >>> ((2 : Int32) &&& 31).toUInt32).toInt32) &&& (3 : Int32)) % (3 : Int32)))) (pc' := 166) at_164 rfl
        have G530 := G529.iconst (v := (2 : Int32)) (pc' := 167) at_166
        have G531 := G530.icmpN at_167 170 (Jvm.Free.XT.ii_lt_f c113_100)
        have G532 := G531.iload (v := (1 : Int32)) (pc' := 172) at_170 rfl
        have G533 := G532.ifN at_172 175 (Jvm.Free.XT.i0_eq_f (by decide))
        have G534 := G533.aload (v := (.ref a67)) (pc' := 177) at_175 rfl
        have G535 := G534.iconst (v := (1 : Int32)) (pc' := 178) at_177
        obtain ⟨v536, h536, ⟨ev536, K536⟩, g536⟩ := G535.callV (argsL := [(.int (1 : Int32))]) (rest := []) (pc' := 181) (k' := 6) (j' := 17580) (cn_hA l Z a0 hw a67 (1 : Int32) a414 (List.set (List.set (List.set (List.replicate 8784 (.long (0 : Int64))) 0 (.long (x0 + (0 : Int32).toInt64))) 1 (.long zh1)) 2 (.long zh2)) 1 zh1 h505 n0 G535.size F512 V513 (by decide) rfl) rfl E507 (hw _ (List.mem_of_getElem? (i := 99) rfl)) (hw _ (List.mem_of_getElem? (i := 100) rfl)) (hw _ (List.mem_of_getElem? (i := 102) rfl)) (hw _ (List.mem_of_getElem? (i := 101) rfl)) (hw _ (List.mem_of_getElem? (i := 3) rfl)) (hw _ (List.mem_of_getElem? (i := 103) rfl)) (by decide) at_178 pd10 rfl (W := 0) rfl rfl (by decide) (by decide) (by decide) (by decide) rfl rfl rfl
        subst ev536
        have G536 := g536 [(.long zh1)] rfl
        have V537 : Av Z h536 a52 .byte [(.int wd)] := V506.keep K536 nin0
        have E538 : Exa Z h536 a67 "com/example/stackwise/stackwise/calendar/HourlyValues$Builder" := E507.keep K536
        have E539 : Exa Z h536 a75 "com/example/stackwise/stackwise/input/DecimalColumn$Builder" := E508.keep K536
        have E540 : Exa Z h536 a76 "com/example/stackwise/stackwise/input/Decimals$Reading" := E509.keep K536
        have F541 : Fld Z h536 a67 "com/example/stackwise/stackwise/calendar/HourlyValues$Builder" "values" "Lcom/example/stackwise/stackwise/input/DecimalColumn$Builder;" (.ref a75) := F510.keep K536 nin0
        have F542 : Fld Z h536 a67 "com/example/stackwise/stackwise/calendar/HourlyValues$Builder" "first" "J" (.long x0) := F511.keep K536 nin0
        have F543 : Fld Z h536 a67 "com/example/stackwise/stackwise/calendar/HourlyValues$Builder" "hours" "[J" (.ref a414) := F512.keep K536 nin0
        have V544 : Av Z h536 a414 .long (List.set (List.set (List.set (List.replicate 8784 (.long (0 : Int64))) 0 (.long (x0 + (0 : Int32).toInt64))) 1 (.long zh1)) 2 (.long zh2)) := V513.keep K536 nin0
        have F545 : Fld Z h536 a75 "com/example/stackwise/stackwise/input/DecimalColumn$Builder" "reading" "Lcom/example/stackwise/stackwise/input/Decimals$Reading;" (.ref a76) := F514.keep K536 nin0
        have F546 : Fld Z h536 a75 "com/example/stackwise/stackwise/input/DecimalColumn$Builder" "unscaled" "[J" (.ref a77) := F515.keep K536 nin0
        have F547 : Fld Z h536 a75 "com/example/stackwise/stackwise/input/DecimalColumn$Builder" "scale" "I" (.int (0 : Int32)) := F516.keep K536 nin0
        have F548 : Fld Z h536 a75 "com/example/stackwise/stackwise/input/DecimalColumn$Builder" "size" "I" (.int ((((0 : Int32) + (1 : Int32)) + (1 : Int32)) + (1 : Int32))) := F517.keep K536 nin0
        have F549 : Fld Z h536 a75 "com/example/stackwise/stackwise/input/DecimalColumn$Builder" "values" "[Ljava/math/BigDecimal;" .null := F518.keep K536 nin0
        have V550 : Av Z h536 a77 .long y497 := V519.keep K536 nin0
        have F551 : Fld Z h536 a76 "com/example/stackwise/stackwise/input/Decimals$Reading" "wide" "Ljava/math/BigDecimal;" .null := F520.keep K536 nin0
        have F552 : Fld Z h536 a76 "com/example/stackwise/stackwise/input/Decimals$Reading" "scale" "I" (.int (0 : Int32)) := F521.keep K536 nin0
        have F553 : Fld Z h536 a76 "com/example/stackwise/stackwise/input/Decimals$Reading" "unscaled" "J" (.long (((0 : Int64) * (10 : Int64)) + (wd - (48 : Int32)).toInt64)) := F522.keep K536 nin0
        have G554 := G536.lload (v := zh1) (pc' := 183) at_181 rfl
        have G555 := G554.lcmp (pc' := 184) at_183
        have G556 := G555.ifN at_184 187 (Jvm.Free.XT.ll_ne_f rfl)
        have G557 := G556.iconst (v := (1 : Int32)) (pc' := 188) at_187
        have G558 := G557.goto at_188 192
        have G559 := G558.istore (L' := #[.val (.long x0), .second, .val (.long x1), .second, .val (.long x2), .second, .val (.int x3), .val (.int za), .val (.int zb), .val (.long zh1), .second, .val (.long zh2), .second, .val (.int ((1 : Int32) + ((((x3.toUInt32 >>> ((2 : Int32) &&& 31).toUInt32).toInt32) &&& (3 : Int32)) % (3 : Int32)))), .val (.ref a52), .val (.ref a67), .val (.int (1 : Int32))]) (pc' := 194) at_192 rfl
        have G560 := G559.iload (v := ((1 : Int32) + ((((x3.toUInt32 >>> ((2 : Int32) &&& 31).toUInt32).toInt32) &&& (3 : Int32)) % (3 : Int32)))) (pc' := 196) at_194 rfl
        have G561 := G560.iconst (v := (3 : Int32)) (pc' := 197) at_196
        have G562 := G561.icmpN at_197 200 (Jvm.Free.XT.ii_lt_f c131_427)
        have G563 := G562.iload (v := (1 : Int32)) (pc' := 202) at_200 rfl
        have G564 := G563.ifN at_202 205 (Jvm.Free.XT.i0_eq_f (by decide))
        have G565 := G564.aload (v := (.ref a67)) (pc' := 207) at_205 rfl
        have G566 := G565.iconst (v := (2 : Int32)) (pc' := 208) at_207
        obtain ⟨v567, h567, ⟨ev567, K567⟩, g567⟩ := G566.callV (argsL := [(.int (2 : Int32))]) (rest := []) (pc' := 211) (k' := 6) (j' := 17580) (cn_hA l Z a0 hw a67 (2 : Int32) a414 (List.set (List.set (List.set (List.replicate 8784 (.long (0 : Int64))) 0 (.long (x0 + (0 : Int32).toInt64))) 1 (.long zh1)) 2 (.long zh2)) 2 zh2 h536 n0 G566.size F543 V544 (by decide) rfl) rfl E538 (hw _ (List.mem_of_getElem? (i := 99) rfl)) (hw _ (List.mem_of_getElem? (i := 100) rfl)) (hw _ (List.mem_of_getElem? (i := 102) rfl)) (hw _ (List.mem_of_getElem? (i := 101) rfl)) (hw _ (List.mem_of_getElem? (i := 3) rfl)) (hw _ (List.mem_of_getElem? (i := 103) rfl)) (by decide) at_208 pd10 rfl (W := 0) rfl rfl (by decide) (by decide) (by decide) (by decide) rfl rfl rfl
        subst ev567
        have G567 := g567 [(.long zh2)] rfl
        have V568 : Av Z h567 a52 .byte [(.int wd)] := V537.keep K567 nin0
        have E569 : Exa Z h567 a67 "com/example/stackwise/stackwise/calendar/HourlyValues$Builder" := E538.keep K567
        have E570 : Exa Z h567 a75 "com/example/stackwise/stackwise/input/DecimalColumn$Builder" := E539.keep K567
        have E571 : Exa Z h567 a76 "com/example/stackwise/stackwise/input/Decimals$Reading" := E540.keep K567
        have F572 : Fld Z h567 a67 "com/example/stackwise/stackwise/calendar/HourlyValues$Builder" "values" "Lcom/example/stackwise/stackwise/input/DecimalColumn$Builder;" (.ref a75) := F541.keep K567 nin0
        have F573 : Fld Z h567 a67 "com/example/stackwise/stackwise/calendar/HourlyValues$Builder" "first" "J" (.long x0) := F542.keep K567 nin0
        have F574 : Fld Z h567 a67 "com/example/stackwise/stackwise/calendar/HourlyValues$Builder" "hours" "[J" (.ref a414) := F543.keep K567 nin0
        have V575 : Av Z h567 a414 .long (List.set (List.set (List.set (List.replicate 8784 (.long (0 : Int64))) 0 (.long (x0 + (0 : Int32).toInt64))) 1 (.long zh1)) 2 (.long zh2)) := V544.keep K567 nin0
        have F576 : Fld Z h567 a75 "com/example/stackwise/stackwise/input/DecimalColumn$Builder" "reading" "Lcom/example/stackwise/stackwise/input/Decimals$Reading;" (.ref a76) := F545.keep K567 nin0
        have F577 : Fld Z h567 a75 "com/example/stackwise/stackwise/input/DecimalColumn$Builder" "unscaled" "[J" (.ref a77) := F546.keep K567 nin0
        have F578 : Fld Z h567 a75 "com/example/stackwise/stackwise/input/DecimalColumn$Builder" "scale" "I" (.int (0 : Int32)) := F547.keep K567 nin0
        have F579 : Fld Z h567 a75 "com/example/stackwise/stackwise/input/DecimalColumn$Builder" "size" "I" (.int ((((0 : Int32) + (1 : Int32)) + (1 : Int32)) + (1 : Int32))) := F548.keep K567 nin0
        have F580 : Fld Z h567 a75 "com/example/stackwise/stackwise/input/DecimalColumn$Builder" "values" "[Ljava/math/BigDecimal;" .null := F549.keep K567 nin0
        have V581 : Av Z h567 a77 .long y497 := V550.keep K567 nin0
        have F582 : Fld Z h567 a76 "com/example/stackwise/stackwise/input/Decimals$Reading" "wide" "Ljava/math/BigDecimal;" .null := F551.keep K567 nin0
        have F583 : Fld Z h567 a76 "com/example/stackwise/stackwise/input/Decimals$Reading" "scale" "I" (.int (0 : Int32)) := F552.keep K567 nin0
        have F584 : Fld Z h567 a76 "com/example/stackwise/stackwise/input/Decimals$Reading" "unscaled" "J" (.long (((0 : Int64) * (10 : Int64)) + (wd - (48 : Int32)).toInt64)) := F553.keep K567 nin0
        have G585 := G567.lload (v := zh2) (pc' := 213) at_211 rfl
        have G586 := G585.lcmp (pc' := 214) at_213
        have G587 := G586.ifN at_214 217 (Jvm.Free.XT.ll_ne_f rfl)
        have G588 := G587.iconst (v := (1 : Int32)) (pc' := 218) at_217
        have G589 := G588.goto at_218 222
        have G590 := G589.istore (L' := #[.val (.long x0), .second, .val (.long x1), .second, .val (.long x2), .second, .val (.int x3), .val (.int za), .val (.int zb), .val (.long zh1), .second, .val (.long zh2), .second, .val (.int ((1 : Int32) + ((((x3.toUInt32 >>> ((2 : Int32) &&& 31).toUInt32).toInt32) &&& (3 : Int32)) % (3 : Int32)))), .val (.ref a52), .val (.ref a67), .val (.int (1 : Int32))]) (pc' := 224) at_222 rfl
        have G591 := G590.iload (v := (1 : Int32)) (pc' := 226) at_224 rfl
        exact G591.retZ at_226 rfl (Or.inr rfl) rfl
set_option maxRecDepth 65536 in
set_option maxHeartbeats 40000000 in
theorem comes_1 {Post : Tables → Env → Array Value → State → Outcome → State → Prop} (hpost : ∀ tb e args s v u, (limb_1_1.after args s (.returned v) u = true ∧ limb_1_2.after args s (.returned v) u = true) → FrameEnd s (.returned v) u (Jvm.fieldLocs frame_1_writes args s ++ Jvm.arrayLocs frame_1_arrays args s ++ Jvm.staticLocs frame_1_statics s) 24 35264 → Post tb e args s (.returned v) u) :
    ArmFor flags0 classFile x code maxLocals ret World_1 tables_1 room_1 Calls_1 rest_1 Pre_1 Post := by
  intro l hfl _ _ p e ha hc hk s m args below hf hA hF happ hP
  obtain ⟨hcalls, hrest, hpre⟩ := hP
  obtain ⟨-, -, -, hnamed, -, -, -, hat⟩ := (Spec.applies_iff hf).mp happ
  obtain ⟨hg, hn⟩ := and_e (Cond.before_iff.mp (show (Jvm.Cond.and given_1 narrow_1).before args s = true from hpre))
  obtain ⟨hcount, hg0⟩ := and_e hg
  obtain ⟨ga0, hg1⟩ := and_e hg0
  obtain ⟨ga1, hg2⟩ := and_e hg1
  obtain ⟨ga2, hg3⟩ := and_e hg2
  have ga3 := hg3
  obtain ⟨w0, w1, w2, w3, rfl⟩ : ∃ w0 w1 w2 w3 : Value, args = #[w0, w1, w2, w3] := by
    have hs : args.size = 4 := by simpa [Cond.value, given_1] using hcount
    obtain ⟨L⟩ := args
    match L, hs with
    | [w0, w1, w2, w3], _ => exact ⟨w0, w1, w2, w3, rfl⟩
  have hw := fun d (hd : d ∈ tables_1) => atoms_spec (ws := Jvm.Cond.code x code maxLocals ret :: tables_1) hat d (List.mem_cons_of_mem _ hd)
  obtain ⟨i0, ei0⟩ := isL_v ga0
  obtain rfl : w0 = (.long i0) := Option.some.inj ei0
  obtain ⟨i1, ei1⟩ := isL_v ga1
  obtain rfl : w1 = (.long i1) := Option.some.inj ei1
  obtain ⟨i2, ei2⟩ := isL_v ga2
  obtain rfl : w2 = (.long i2) := Option.some.inj ei2
  obtain ⟨i3, ei3⟩ := is_v ga3
  obtain rfl : w3 = (.int i3) := Option.some.inj ei3
  obtain ⟨n, o, h1, h2, h3, _, L, rfl, ⟨rfl, N⟩, hq⟩ := lawc l s _ hw i0 i1 i2 i3 s.heap s.heap.size (Nat.le_refl _) p e ha hc hk s m _ below hf ((Spec.applies_iff_loose hf).mp happ).1 ⟨rfl, State.Warmed39.refl s, rfl⟩ trivial
  refine ⟨n, _, h1, h2, h3, hpost _ _ _ _ _ _ ⟨Cond.after_iff.mpr rfl, Cond.after_iff.mpr (eq_i res_at (Term.int_eval (1)) rfl)⟩ ⟨hq.1, hq.2.1, (hq.2.2.sift fun y hy => Or.inr (N y hy)).mono (by decide) (by decide)⟩⟩
theorem main_1_1 : Claimed_1_1 := comes_1 fun _ _ _ _ _ _ h hF => ⟨h.1, hF⟩
theorem main_1_2 : Claimed_1_2 := comes_1 fun _ _ _ _ _ _ h hF => ⟨h.2, hF⟩
end Jvm.Pilot.@@N@@
namespace Jvm.Pilot.@@N@@
open Jvm Jvm.ClassFile Sem Op Lib Jvm.Free Jvm.Stand Jvm.Pilot.@@N@@.Jvm.D
/-! MADE BY PROGRAM (witnessworld.py) out of the Statement's table words and the real class files: 19 classes; the members and pool entries that the words name. The judged class is class 1, her method 1. -/
namespace start1
open Jvm.ClassFile
def u (s : String) : CpInfo := .utf8 (stringToUtf16 s)
/-- a pool by its gaps: so many unusable entries, then the entry; so many at the end -/
def gap : Nat → List CpInfo → List CpInfo
  | 0, r => r
  | n + 1, r => .unusable :: gap n r
def poolList (es : List (Nat × CpInfo)) (last : Nat) : List CpInfo := es.foldr (fun e r => gap e.1 (e.2 :: r)) (gap last [])
def pool (es : List (Nat × CpInfo)) (last : Nat) : Array CpInfo := ⟨poolList es last⟩
def fileOf (pool : Array CpInfo) (this : Nat) (attrs : Array Attribute := #[]) (ms : Array MethodInfo := #[]) (fl : Nat := 33) (sup : Nat := 0) (ifs : Array Nat := #[]) (fds : Array FieldInfo := #[]) : ClassFile where
  minorVersion := 0
  majorVersion := 65
  constantPool := pool
  accessFlags := fl
  thisClass := this
  superClass := sup
  interfaces := ifs
  fields := fds
  methods := ms
  attributes := attrs
def plain (name : String) (sup : Option ClassId) : Class where
  name := name
  kind := .ordinary
  loader := none
  accessFlags := 33
  super := sup
  interfaces := #[]
  cf := none
  fields := #[]
  methods := #[]
  instanceTypes := #[]
  staticTypes := #[]
  resolved := #[]
  callSites := []
  init := .initialized
  statics := none
  mirror := none

def pool0 : Array CpInfo := pool [(5, u "<init>"), (0, u "()V"), (1, .class_ 10), (1, u "java/lang/Object")] 113

def k0c0 : Code := { maxStack := 0, maxLocals := 1, code := object_method_1_code, exceptionTable := #[], attributes := #[] }
def k0m0 : Method := { name := "<init>", desc := "()V", sig := { parameters := [], returnType := none }, accessFlags := 1, code := some k0c0 }
/-- java/lang/Object -/
def k0 : Class := { plain "java/lang/Object" none with
  accessFlags := 33
  interfaces := #[]
  cf := some (fileOf pool0 8 #[] #[{ accessFlags := 1, nameIndex := 5, descriptorIndex := 6, attributes := #[] }] 33 0 #[] #[])
  fields := #[]
  methods := #[k0m0]
  instanceTypes := #[]
  staticTypes := #[]
  resolved := Array.replicate 124 none
  statics := none }

def pool1 : Array CpInfo := pool [(2, .class_ 4), (0, .nameAndType 5 6), (0, u "java/lang/Object"), (0, u "<init>"), (0, u "()V"), (0, .class_ 8), (0, u "com/example/stackwise/stackwise/calendar/HourlyValues$Builder"), (0, .methodref 7 3), (0, .methodref 7 11), (0, .nameAndType 12 13), (0, u "add"), (0, u "(J[BII)I"), (0, .methodref 7 15), (0, .nameAndType 16 17), (0, u "hour"), (0, u "(I)J"), (0, .class_ 19), (0, u "com/example/stackwise/stackwise/calendar/BuilderHourPinLaw"), (2, u "law"), (0, u "(JJJI)Z")] 9

def k1m0 : Method := { name := "<init>", desc := "()V", sig := { parameters := [], returnType := none }, accessFlags := 1, code := none }
def k1c1 : Code := { maxStack := 6, maxLocals := 17, code := code, exceptionTable := #[], attributes := #[] }
def k1m1 : Method := { name := "law", desc := "(JJJI)Z", sig := { parameters := [.long, .long, .long, .int], returnType := some .boolean }, accessFlags := 9, code := some k1c1 }
/-- com/example/stackwise/stackwise/calendar/BuilderHourPinLaw -/
def k1 : Class := { plain "com/example/stackwise/stackwise/calendar/BuilderHourPinLaw" (some 0) with
  accessFlags := 49
  interfaces := #[]
  cf := some (fileOf pool1 18 #[] #[{ accessFlags := 1, nameIndex := 5, descriptorIndex := 6, attributes := #[] }, { accessFlags := 9, nameIndex := 22, descriptorIndex := 23, attributes := #[] }] 49 2 #[] #[])
  fields := #[]
  methods := #[k1m0, k1m1]
  instanceTypes := #[]
  staticTypes := #[]
  resolved := Array.replicate 33 none
  statics := none }

def pool2 : Array CpInfo := pool [(1, .class_ 2), (0, u "com/example/stackwise/stackwise/calendar/HourlyValues"), (0, .methodref 4 5), (0, .class_ 6), (0, .nameAndType 7 8), (0, u "java/lang/Object"), (0, u "<init>"), (0, u "()V"), (0, .class_ 10), (0, u "com/example/stackwise/stackwise/input/DecimalColumn$Builder"), (0, .methodref 9 12), (0, .nameAndType 7 13), (0, u "(I)V"), (0, .fieldref 15 16), (0, .class_ 17), (0, .nameAndType 18 19), (0, u "com/example/stackwise/stackwise/calendar/HourlyValues$Builder"), (0, u "values"), (0, u "Lcom/example/stackwise/stackwise/input/DecimalColumn$Builder;"), (0, .methodref 9 21), (0, .nameAndType 22 23), (0, u "size"), (0, u "()I"), (0, .methodref 9 25), (0, .nameAndType 26 27), (0, u "add"), (0, u "([BII)I"), (0, .fieldref 15 29), (0, .nameAndType 30 31), (0, u "first"), (0, u "J"), (0, .fieldref 15 33), (0, .nameAndType 34 35), (0, u "hours"), (0, u "[J"), (0, .methodref 37 38), (0, .class_ 39), (0, .nameAndType 40 41), (0, u "java/lang/Math"), (0, u "max"), (0, u "(II)I"), (54, u "(J[BII)I"), (2, u "hour"), (0, u "(I)J")] 23

def k2c0 : Code := { maxStack := 4, maxLocals := 1, code := prog_7_method_1_code, exceptionTable := #[], attributes := #[] }
def k2m0 : Method := { name := "<init>", desc := "()V", sig := { parameters := [], returnType := none }, accessFlags := 1, code := some k2c0 }
def k2c1 : Code := { maxStack := 6, maxLocals := 9, code := prog_7_method_2_code, exceptionTable := #[], attributes := #[] }
def k2m1 : Method := { name := "add", desc := "(J[BII)I", sig := { parameters := [.long, (.array .byte), .int, .int], returnType := some .int }, accessFlags := 1, code := some k2c1 }
def k2c2 : Code := { maxStack := 4, maxLocals := 2, code := prog_7_method_6_code, exceptionTable := #[], attributes := #[] }
def k2m2 : Method := { name := "hour", desc := "(I)J", sig := { parameters := [.int], returnType := some .long }, accessFlags := 1, code := some k2c2 }
/-- com/example/stackwise/stackwise/calendar/HourlyValues$Builder -/
def k2 : Class := { plain "com/example/stackwise/stackwise/calendar/HourlyValues$Builder" (some 0) with
  accessFlags := 49
  interfaces := #[]
  cf := some (fileOf pool2 15 #[.nestHost 1] #[{ accessFlags := 1, nameIndex := 7, descriptorIndex := 8, attributes := #[] }, { accessFlags := 1, nameIndex := 26, descriptorIndex := 96, attributes := #[] }, { accessFlags := 1, nameIndex := 99, descriptorIndex := 100, attributes := #[] }] 49 4 #[] #[{ accessFlags := 18, nameIndex := 18, descriptorIndex := 19, attributes := #[] }, { accessFlags := 2, nameIndex := 30, descriptorIndex := 31, attributes := #[] }, { accessFlags := 2, nameIndex := 34, descriptorIndex := 35, attributes := #[] }])
  fields := #[{ name := "values", type := (.object "com/example/stackwise/stackwise/input/DecimalColumn$Builder"), accessFlags := 18, slot := 0, constantValue := 0 }, { name := "first", type := .long, accessFlags := 2, slot := 1, constantValue := 0 }, { name := "hours", type := (.array .long), accessFlags := 2, slot := 2, constantValue := 0 }]
  methods := #[k2m0, k2m1, k2m2]
  instanceTypes := #[(.object "com/example/stackwise/stackwise/input/DecimalColumn$Builder"), .long, (.array .long)]
  staticTypes := #[]
  resolved := Array.replicate 124 none
  statics := none }

def pool3 : Array CpInfo := pool [(1, .methodref 2 3), (0, .class_ 4), (0, .nameAndType 5 6), (0, u "java/lang/Object"), (0, u "<init>"), (0, u "()V"), (0, .class_ 8), (0, u "com/example/stackwise/stackwise/input/Decimals$Reading"), (0, .methodref 7 3), (0, .fieldref 11 12), (0, .class_ 13), (0, .nameAndType 14 15), (0, u "com/example/stackwise/stackwise/input/DecimalColumn$Builder"), (0, u "reading"), (0, u "Lcom/example/stackwise/stackwise/input/Decimals$Reading;"), (0, .methodref 17 18), (0, .class_ 19), (0, .nameAndType 20 21), (0, u "java/lang/Math"), (0, u "max"), (0, u "(II)I"), (0, .fieldref 11 23), (0, .nameAndType 24 25), (0, u "unscaled"), (0, u "[J"), (0, .methodref 7 27), (0, .nameAndType 28 29), (0, u "read"), (0, u "([BII)Z"), (20, .methodref 7 51), (0, .nameAndType 52 53), (0, u "fitsLong"), (0, u "()Z"), (0, .methodref 7 55), (0, .nameAndType 56 57), (0, u "scale"), (0, u "()I"), (0, .fieldref 11 59), (0, .nameAndType 56 60), (0, u "I"), (0, .fieldref 11 62), (0, .nameAndType 63 60), (0, u "size"), (0, .methodref 7 65), (0, .nameAndType 24 66), (0, u "()J"), (0, .methodref 7 68), (0, .nameAndType 69 57), (0, u "signum"), (10, .fieldref 11 81), (0, .nameAndType 82 83), (0, u "values"), (0, u "[Ljava/math/BigDecimal;"), (14, u "([BII)I"), (11, .class_ 111), (0, u "com/example/stackwise/stackwise/input/DecimalColumn"), (18, u "(I)V"), (2, u "add")] 27

def k3c0 : Code := { maxStack := 3, maxLocals := 2, code := prog_15_method_1_code, exceptionTable := #[], attributes := #[] }
def k3m0 : Method := { name := "<init>", desc := "(I)V", sig := { parameters := [.int], returnType := none }, accessFlags := 1, code := some k3c0 }
def k3c1 : Code := { maxStack := 8, maxLocals := 4, code := prog_15_method_2_code, exceptionTable := #[], attributes := #[] }
def k3m1 : Method := { name := "add", desc := "([BII)I", sig := { parameters := [(.array .byte), .int, .int], returnType := some .int }, accessFlags := 1, code := some k3c1 }
def k3c2 : Code := { maxStack := 1, maxLocals := 1, code := prog_15_method_5_code, exceptionTable := #[], attributes := #[] }
def k3m2 : Method := { name := "size", desc := "()I", sig := { parameters := [], returnType := some .int }, accessFlags := 1, code := some k3c2 }
/-- com/example/stackwise/stackwise/input/DecimalColumn$Builder -/
def k3 : Class := { plain "com/example/stackwise/stackwise/input/DecimalColumn$Builder" (some 0) with
  accessFlags := 49
  interfaces := #[]
  cf := some (fileOf pool3 11 #[.nestHost 110] #[{ accessFlags := 1, nameIndex := 5, descriptorIndex := 130, attributes := #[] }, { accessFlags := 1, nameIndex := 133, descriptorIndex := 98, attributes := #[] }, { accessFlags := 1, nameIndex := 63, descriptorIndex := 57, attributes := #[] }] 49 2 #[] #[{ accessFlags := 18, nameIndex := 14, descriptorIndex := 15, attributes := #[] }, { accessFlags := 2, nameIndex := 24, descriptorIndex := 25, attributes := #[] }, { accessFlags := 2, nameIndex := 56, descriptorIndex := 60, attributes := #[] }, { accessFlags := 2, nameIndex := 82, descriptorIndex := 83, attributes := #[] }, { accessFlags := 2, nameIndex := 63, descriptorIndex := 60, attributes := #[] }])
  fields := #[{ name := "reading", type := (.object "com/example/stackwise/stackwise/input/Decimals$Reading"), accessFlags := 18, slot := 0, constantValue := 0 }, { name := "unscaled", type := (.array .long), accessFlags := 2, slot := 1, constantValue := 0 }, { name := "scale", type := .int, accessFlags := 2, slot := 2, constantValue := 0 }, { name := "values", type := (.array (.object "java/math/BigDecimal")), accessFlags := 2, slot := 3, constantValue := 0 }, { name := "size", type := .int, accessFlags := 2, slot := 4, constantValue := 0 }]
  methods := #[k3m0, k3m1, k3m2]
  instanceTypes := #[(.object "com/example/stackwise/stackwise/input/Decimals$Reading"), (.array .long), .int, (.array (.object "java/math/BigDecimal")), .int]
  staticTypes := #[]
  resolved := Array.replicate 161 none
  statics := none }

def pool4 : Array CpInfo := pool [(1, .class_ 2), (0, u "com/example/stackwise/stackwise/input/Decimals"), (0, .methodref 4 5), (0, .class_ 6), (0, .nameAndType 7 8), (0, u "java/lang/Object"), (0, u "<init>"), (0, u "()V"), (0, .methodref 10 11), (0, .class_ 12), (0, .nameAndType 13 14), (0, u "com/example/stackwise/stackwise/input/Decimals$Reading"), (0, u "readUpTo"), (0, u "([BII)I"), (0, .long 10), (1, .fieldref 10 18), (0, .nameAndType 19 20), (0, u "scale"), (0, u "I"), (0, .fieldref 10 22), (0, .nameAndType 23 24), (0, u "unscaled"), (0, u "J"), (16, .fieldref 10 42), (0, .nameAndType 43 44), (0, u "wide"), (0, u "Ljava/math/BigDecimal;"), (8, .methodref 54 55), (0, .class_ 56), (0, .nameAndType 57 58), (0, u "java/lang/Long"), (0, u "signum"), (0, u "(J)I"), (2, u "()I"), (2, u "read"), (0, u "([BII)Z"), (3, u "fitsLong"), (0, u "()Z"), (0, u "()J")] 7

def k4c0 : Code := { maxStack := 1, maxLocals := 1, code := prog_17_method_1_code, exceptionTable := #[], attributes := #[] }
def k4m0 : Method := { name := "<init>", desc := "()V", sig := { parameters := [], returnType := none }, accessFlags := 0, code := some k4c0 }
def k4c1 : Code := { maxStack := 4, maxLocals := 4, code := prog_17_method_2_code, exceptionTable := #[], attributes := #[] }
def k4m1 : Method := { name := "read", desc := "([BII)Z", sig := { parameters := [(.array .byte), .int, .int], returnType := some .boolean }, accessFlags := 0, code := some k4c1 }
def k4c2 : Code := { maxStack := 9, maxLocals := 11, code := prog_17_method_3_code, exceptionTable := #[], attributes := #[] }
def k4m2 : Method := { name := "readUpTo", desc := "([BII)I", sig := { parameters := [(.array .byte), .int, .int], returnType := some .int }, accessFlags := 0, code := some k4c2 }
def k4c3 : Code := { maxStack := 1, maxLocals := 1, code := prog_17_method_4_code, exceptionTable := #[], attributes := #[] }
def k4m3 : Method := { name := "fitsLong", desc := "()Z", sig := { parameters := [], returnType := some .boolean }, accessFlags := 0, code := some k4c3 }
def k4c4 : Code := { maxStack := 2, maxLocals := 1, code := prog_17_method_5_code, exceptionTable := #[], attributes := #[] }
def k4m4 : Method := { name := "unscaled", desc := "()J", sig := { parameters := [], returnType := some .long }, accessFlags := 0, code := some k4c4 }
def k4c5 : Code := { maxStack := 1, maxLocals := 1, code := prog_17_method_6_code, exceptionTable := #[], attributes := #[] }
def k4m5 : Method := { name := "scale", desc := "()I", sig := { parameters := [], returnType := some .int }, accessFlags := 0, code := some k4c5 }
def k4c6 : Code := { maxStack := 2, maxLocals := 1, code := prog_17_method_8_code, exceptionTable := #[], attributes := #[] }
def k4m6 : Method := { name := "signum", desc := "()I", sig := { parameters := [], returnType := some .int }, accessFlags := 0, code := some k4c6 }
/-- com/example/stackwise/stackwise/input/Decimals$Reading -/
def k4 : Class := { plain "com/example/stackwise/stackwise/input/Decimals$Reading" (some 0) with
  accessFlags := 48
  interfaces := #[]
  cf := some (fileOf pool4 10 #[.nestHost 1] #[{ accessFlags := 0, nameIndex := 7, descriptorIndex := 8, attributes := #[] }, { accessFlags := 0, nameIndex := 64, descriptorIndex := 65, attributes := #[] }, { accessFlags := 0, nameIndex := 13, descriptorIndex := 14, attributes := #[] }, { accessFlags := 0, nameIndex := 69, descriptorIndex := 70, attributes := #[] }, { accessFlags := 0, nameIndex := 23, descriptorIndex := 71, attributes := #[] }, { accessFlags := 0, nameIndex := 19, descriptorIndex := 61, attributes := #[] }, { accessFlags := 0, nameIndex := 57, descriptorIndex := 61, attributes := #[] }] 48 4 #[] #[{ accessFlags := 2, nameIndex := 23, descriptorIndex := 24, attributes := #[] }, { accessFlags := 2, nameIndex := 19, descriptorIndex := 20, attributes := #[] }, { accessFlags := 2, nameIndex := 43, descriptorIndex := 44, attributes := #[] }])
  fields := #[{ name := "unscaled", type := .long, accessFlags := 2, slot := 0, constantValue := 0 }, { name := "scale", type := .int, accessFlags := 2, slot := 1, constantValue := 0 }, { name := "wide", type := (.object "java/math/BigDecimal"), accessFlags := 2, slot := 2, constantValue := 0 }]
  methods := #[k4m0, k4m1, k4m2, k4m3, k4m4, k4m5, k4m6]
  instanceTypes := #[.long, .int, (.object "java/math/BigDecimal")]
  staticTypes := #[]
  resolved := Array.replicate 79 none
  statics := none }

def pool5 : Array CpInfo := pool [(1, .class_ 2), (0, u "java/lang/Math"), (1, .class_ 6), (1, u "java/lang/Object"), (0, u "<init>"), (0, u "()V"), (89, .class_ 100), (1, u "java/lang/Math$RandomNumberGeneratorHolder"), (71, u "negativeZeroFloatBits"), (0, u "J"), (2, u "negativeZeroDoubleBits"), (21, u "max"), (46, u "$assertionsDisabled"), (0, u "Z"), (88, u "(II)I"), (2, u "twoToTheDoubleScaleDown"), (0, u "D"), (4, u "twoToTheDoubleScaleUp"), (9, u "E"), (3, u "PI"), (2, u "TAU"), (2, u "DEGREES_TO_RADIANS"), (0, u "RADIANS_TO_DEGREES")] 94

def k5m0 : Method := { name := "<init>", desc := "()V", sig := { parameters := [], returnType := none }, accessFlags := 2, code := none }
def k5c1 : Code := { maxStack := 2, maxLocals := 2, code := jdk_29_method_65_code, exceptionTable := #[], attributes := #[] }
def k5m1 : Method := { name := "max", desc := "(II)I", sig := { parameters := [.int, .int], returnType := some .int }, accessFlags := 9, code := some k5c1 }
/-- java/lang/Math -/
def k5 : Class := { plain "java/lang/Math" (some 0) with
  accessFlags := 49
  interfaces := #[]
  cf := some (fileOf pool5 1 #[.nestMembers #[98]] #[{ accessFlags := 2, nameIndex := 7, descriptorIndex := 8, attributes := #[] }, { accessFlags := 9, nameIndex := 198, descriptorIndex := 335, attributes := #[] }] 49 4 #[] #[{ accessFlags := 25, nameIndex := 354, descriptorIndex := 339, attributes := #[] }, { accessFlags := 25, nameIndex := 358, descriptorIndex := 339, attributes := #[] }, { accessFlags := 25, nameIndex := 361, descriptorIndex := 339, attributes := #[] }, { accessFlags := 26, nameIndex := 364, descriptorIndex := 339, attributes := #[] }, { accessFlags := 26, nameIndex := 365, descriptorIndex := 339, attributes := #[] }, { accessFlags := 26, nameIndex := 172, descriptorIndex := 173, attributes := #[] }, { accessFlags := 26, nameIndex := 176, descriptorIndex := 173, attributes := #[] }, { accessFlags := 8, nameIndex := 344, descriptorIndex := 339, attributes := #[] }, { accessFlags := 8, nameIndex := 338, descriptorIndex := 339, attributes := #[] }, { accessFlags := 4120, nameIndex := 245, descriptorIndex := 246, attributes := #[] }])
  fields := #[{ name := "E", type := .double, accessFlags := 25, slot := 0, constantValue := 0 }, { name := "PI", type := .double, accessFlags := 25, slot := 1, constantValue := 0 }, { name := "TAU", type := .double, accessFlags := 25, slot := 2, constantValue := 0 }, { name := "DEGREES_TO_RADIANS", type := .double, accessFlags := 26, slot := 3, constantValue := 0 }, { name := "RADIANS_TO_DEGREES", type := .double, accessFlags := 26, slot := 4, constantValue := 0 }, { name := "negativeZeroFloatBits", type := .long, accessFlags := 26, slot := 5, constantValue := 0 }, { name := "negativeZeroDoubleBits", type := .long, accessFlags := 26, slot := 6, constantValue := 0 }, { name := "twoToTheDoubleScaleUp", type := .double, accessFlags := 8, slot := 7, constantValue := 0 }, { name := "twoToTheDoubleScaleDown", type := .double, accessFlags := 8, slot := 8, constantValue := 0 }, { name := "$assertionsDisabled", type := .boolean, accessFlags := 4120, slot := 9, constantValue := 0 }]
  methods := #[k5m0, k5m1]
  instanceTypes := #[]
  staticTypes := #[.double, .double, .double, .double, .double, .long, .long, .double, .double, .boolean]
  resolved := Array.replicate 460 none
  statics := none }

def pool6 : Array CpInfo := pool [(1, .class_ 2), (0, u "java/io/Serializable"), (0, .class_ 4), (0, u "java/lang/Object")] 2

/-- java/io/Serializable -/
def k6 : Class := { plain "java/io/Serializable" (some 0) with
  accessFlags := 1537
  interfaces := #[]
  cf := some (fileOf pool6 1 #[] #[] 1537 3 #[] #[])
  fields := #[]
  methods := #[]
  instanceTypes := #[]
  staticTypes := #[]
  resolved := Array.replicate 7 none
  statics := none }

def pool7 : Array CpInfo := pool [(2, .class_ 4), (1, u "java/lang/Object"), (0, u "<init>"), (0, u "()V"), (1, .class_ 10), (1, u "java/lang/Number"), (2, .class_ 14), (0, u "java/io/Serializable"), (0, u "serialVersionUID"), (0, u "J")] 20

def k7m0 : Method := { name := "<init>", desc := "()V", sig := { parameters := [], returnType := none }, accessFlags := 1, code := none }
/-- java/lang/Number -/
def k7 : Class := { plain "java/lang/Number" (some 0) with
  accessFlags := 1057
  interfaces := #[6]
  cf := some (fileOf pool7 8 #[] #[{ accessFlags := 1, nameIndex := 5, descriptorIndex := 6, attributes := #[] }] 1057 2 #[13] #[{ accessFlags := 26, nameIndex := 15, descriptorIndex := 16, attributes := #[] }])
  fields := #[{ name := "serialVersionUID", type := .long, accessFlags := 26, slot := 0, constantValue := 0 }]
  methods := #[k7m0]
  instanceTypes := #[]
  staticTypes := #[.long]
  resolved := Array.replicate 37 none
  statics := none }

def pool8 : Array CpInfo := pool [(1, .class_ 2), (0, u "java/lang/Comparable"), (0, .class_ 4), (0, u "java/lang/Object")] 7

/-- java/lang/Comparable -/
def k8 : Class := { plain "java/lang/Comparable" (some 0) with
  accessFlags := 1537
  interfaces := #[]
  cf := some (fileOf pool8 1 #[] #[] 1537 3 #[] #[])
  fields := #[]
  methods := #[]
  instanceTypes := #[]
  staticTypes := #[]
  resolved := Array.replicate 12 none
  statics := none }

def pool9 : Array CpInfo := pool [(1, .class_ 2), (0, u "java/lang/constant/Constable"), (0, .class_ 4), (0, u "java/lang/Object")] 6

/-- java/lang/constant/Constable -/
def k9 : Class := { plain "java/lang/constant/Constable" (some 0) with
  accessFlags := 1537
  interfaces := #[]
  cf := some (fileOf pool9 1 #[] #[] 1537 3 #[] #[])
  fields := #[]
  methods := #[]
  instanceTypes := #[]
  staticTypes := #[]
  resolved := Array.replicate 11 none
  statics := none }

def pool10 : Array CpInfo := pool [(1, .class_ 2), (0, u "java/lang/constant/ConstantDesc"), (0, .class_ 4), (0, u "java/lang/Object")] 32

/-- java/lang/constant/ConstantDesc -/
def k10 : Class := { plain "java/lang/constant/ConstantDesc" (some 0) with
  accessFlags := 1537
  interfaces := #[]
  cf := some (fileOf pool10 1 #[] #[] 1537 3 #[] #[])
  fields := #[]
  methods := #[]
  instanceTypes := #[]
  staticTypes := #[]
  resolved := Array.replicate 37 none
  statics := none }

def pool11 : Array CpInfo := pool [(1, .class_ 2), (0, u "java/lang/Long"), (98, u "(J)I"), (133, .class_ 237), (1, u "java/lang/Long$LongCache"), (33, .class_ 272), (0, u "java/lang/Number"), (2, u "value"), (0, u "J"), (84, u "TYPE"), (0, u "Ljava/lang/Class;"), (0, .class_ 364), (0, u "java/lang/Comparable"), (0, .class_ 366), (0, u "java/lang/constant/Constable"), (0, .class_ 368), (0, u "java/lang/constant/ConstantDesc"), (0, u "MIN_VALUE"), (1, u "MAX_VALUE"), (4, u "SIZE"), (0, u "I"), (1, u "BYTES"), (1, u "serialVersionUID"), (115, u "signum")] 26

def k11c0 : Code := { maxStack := 5, maxLocals := 2, code := jdk_35_method_57_code, exceptionTable := #[], attributes := #[] }
def k11m0 : Method := { name := "signum", desc := "(J)I", sig := { parameters := [.long], returnType := some .int }, accessFlags := 9, code := some k11c0 }
/-- java/lang/Long -/
def k11 : Class := { plain "java/lang/Long" (some 7) with
  accessFlags := 49
  interfaces := #[8, 9, 10]
  cf := some (fileOf pool11 1 #[.nestMembers #[235]] #[{ accessFlags := 9, nameIndex := 497, descriptorIndex := 101, attributes := #[] }] 49 271 #[363, 365, 367] #[{ accessFlags := 25, nameIndex := 369, descriptorIndex := 276, attributes := #[] }, { accessFlags := 25, nameIndex := 371, descriptorIndex := 276, attributes := #[] }, { accessFlags := 25, nameIndex := 361, descriptorIndex := 362, attributes := #[] }, { accessFlags := 18, nameIndex := 275, descriptorIndex := 276, attributes := #[] }, { accessFlags := 25, nameIndex := 376, descriptorIndex := 377, attributes := #[] }, { accessFlags := 25, nameIndex := 379, descriptorIndex := 377, attributes := #[] }, { accessFlags := 26, nameIndex := 381, descriptorIndex := 276, attributes := #[] }])
  fields := #[{ name := "MIN_VALUE", type := .long, accessFlags := 25, slot := 0, constantValue := 0 }, { name := "MAX_VALUE", type := .long, accessFlags := 25, slot := 1, constantValue := 0 }, { name := "TYPE", type := (.object "java/lang/Class"), accessFlags := 25, slot := 2, constantValue := 0 }, { name := "value", type := .long, accessFlags := 18, slot := 0, constantValue := 0 }, { name := "SIZE", type := .int, accessFlags := 25, slot := 3, constantValue := 0 }, { name := "BYTES", type := .int, accessFlags := 25, slot := 4, constantValue := 0 }, { name := "serialVersionUID", type := .long, accessFlags := 26, slot := 5, constantValue := 0 }]
  methods := #[k11m0]
  instanceTypes := #[.long]
  staticTypes := #[.long, .long, (.object "java/lang/Class"), .int, .int, .long]
  resolved := Array.replicate 524 none
  statics := none }

def pool12 : Array CpInfo := pool [(1, u "java/lang/Cloneable"), (0, .class_ 1), (0, u "java/lang/Object"), (0, .class_ 3)] 3

/-- java/lang/Cloneable -/
def k12 : Class := { plain "java/lang/Cloneable" (some 0) with
  accessFlags := 1537
  interfaces := #[]
  cf := some (fileOf pool12 2 #[] #[] 1537 4 #[] #[])
  fields := #[]
  methods := #[]
  instanceTypes := #[]
  staticTypes := #[]
  resolved := Array.replicate 8 none
  statics := none }

/-- the primitive byte -/
def k13 : Class := { plain "byte" none with kind := .primitive 'B', accessFlags := 0x411 }
/-- [B -/
def k14 : Class := { plain "[B" (some 0) with kind := .array 13 .byte, interfaces := #[12, 6], accessFlags := 1041 }

/-- the primitive int -/
def k15 : Class := { plain "int" none with kind := .primitive 'I', accessFlags := 0x411 }
/-- [I -/
def k16 : Class := { plain "[I" (some 0) with kind := .array 15 .int, interfaces := #[12, 6], accessFlags := 1041 }

/-- the primitive long -/
def k17 : Class := { plain "long" none with kind := .primitive 'J', accessFlags := 0x411 }
/-- [J -/
def k18 : Class := { plain "[J" (some 0) with kind := .array 17 .long, interfaces := #[12, 6], accessFlags := 1041 }

def heap : Heap := #[]
def classes : Array Class := #[k0, k1, k2, k3, k4, k5, k6, k7, k8, k9, k10, k11, k12, k13, k14, k15, k16, k17, k18]
def interned : List (Array UInt16 × Addr) := []
def slotsUsed : Nat := 0
def theMethod : MethodId := ⟨1, 1⟩
def args0 : Array Value := #[.long 5, .long 6, .long 7, .int 3]
def aboutOver (below : List Frame) : State where
  vm := { classes := classes, interned := interned.toArray }
  heap := heap
  slotsUsed := slotsUsed
  threads := #[{ frames := .invoking theMethod args0 :: below }]
def below0 : List Frame := [.native { method := ⟨0, 0⟩, args := #[] }]
def about1 : State := aboutOver below0
def p0 : Program := .bare "" "" ""
def e0 : Env := launch0.env 0 0 0
theorem w_frames : about1.frames = Frame.invoking theMethod args0 :: below0 := rfl
set_option maxRecDepth 65536 in
theorem w_args : argsFit about1.vm theMethod args0 = true := by decide +kernel
set_option maxRecDepth 65536 in
theorem w_heap : heapFits about1 = true := by decide +kernel
set_option maxRecDepth 65536 in
theorem w_runnable : about1.curStatus? = some .runnable := by decide +kernel
set_option maxRecDepth 65536 in
theorem w_alone : about1.alone = true := by decide +kernel
set_option maxRecDepth 65536 in
theorem w_named : about1.methodNamed? x = some theMethod := by decide +kernel
set_option maxRecDepth 65536 in
theorem w_hears : about1.hears theMethod below0 = true := by decide +kernel
set_option maxRecDepth 65536 in
theorem w_ripe : about1.ripe theMethod args0 below0 = true := by decide +kernel
theorem w_running : about1.status = .running := rfl
set_option maxRecDepth 65536 in
theorem w_room : about1.hasRoom e0.platform room_1 = true :=
  launch0.hasRoom_least _ room_1 (by decide +kernel) (by decide +kernel) (by decide +kernel) (by decide +kernel) (by decide +kernel) (by decide +kernel)
theorem allAtoms_all (ts : List Jvm.Cond) (a : Array Jvm.Value) (st : Jvm.State) : (allAtoms ts).before a st = ts.all (fun c => c.before a st) := by
  induction ts with
  | nil => rfl
  | cons c t ih =>
    show (Jvm.Cond.and c (allAtoms t)).before a st = _
    rw [Jvm.Cond.before_and, ih, List.all_cons]
def words1 : List Jvm.Cond := Jvm.Cond.code x code maxLocals ret :: tables_1
/-- a 'code' word, met by the world's own term for the bytes: nothing is compared byte by byte -/
theorem code_word {y : MethodName} {bytes : ByteArray} {mx : Nat} {rt : Option FieldType} {a : Array Value} {s : State} {m : MethodId} {meth : Method} {c : Code} (h1 : s.methodNamed? y = some m) (h2 : s.vm.method? m = some meth) (h3 : meth.code = some c) (h4 : c.code = bytes)
    (h5 : (c.maxLocals == mx && c.exceptionTable.isEmpty && decide (c.maxStack ≤ mostOperands) && decide (meth.sig.returnType = rt) && !meth.locks && decide (parseMethodDescriptor y.desc = some meth.sig)) = true) : (Jvm.Cond.code y bytes mx rt).before a s = true := by
  simp only [Bool.and_eq_true, beq_iff_eq, Bool.not_eq_true', decide_eq_true_eq] at h5
  obtain ⟨⟨⟨⟨⟨g1, g2⟩, g3⟩, g4⟩, g5⟩, g6⟩ := h5
  simp [Cond.before, Cond.holds, Cond.value, h1, h2, h3, h4, g1, g2, g3, g4, g5, g6]
def isCode : Jvm.Cond → Bool
  | .code _ _ _ _ => true
  | _ => false
theorem all_split {L : List Jvm.Cond} {P : Jvm.Cond → Bool} (h1 : L.all (fun c => isCode c || P c) = true) (h2 : ∀ c ∈ L.filter isCode, P c = true) : L.all P = true := by
  refine List.all_eq_true.mpr fun c hc => ?_
  have h := List.all_eq_true.mp h1 c hc
  rcases Bool.eq_false_or_eq_true (isCode c) with hi | hi
  · exact h2 c (List.mem_filter.mpr ⟨hc, hi⟩)
  · simpa [hi] using h
set_option maxRecDepth 65536 in
theorem w_c0 : (Jvm.Cond.code x code maxLocals ret).before args0 about1 = true := code_word (m := ⟨1, 1⟩) (meth := k1m1) (c := k1c1) (by decide +kernel) rfl rfl rfl (by decide +kernel)
set_option maxRecDepth 65536 in
theorem w_c1 : (Jvm.Cond.code ({ cls := "com/example/stackwise/stackwise/calendar/HourlyValues$Builder", name := "<init>", desc := "()V" } : Jvm.MethodName) prog_7_method_1_code (1 : Nat) (Option.none : Option Jvm.ClassFile.FieldType)).before args0 about1 = true := code_word (m := ⟨2, 0⟩) (meth := k2m0) (c := k2c0) (by decide +kernel) rfl rfl rfl (by decide +kernel)
set_option maxRecDepth 65536 in
theorem w_c2 : (Jvm.Cond.code ({ cls := "java/lang/Object", name := "<init>", desc := "()V" } : Jvm.MethodName) object_method_1_code (1 : Nat) (Option.none : Option Jvm.ClassFile.FieldType)).before args0 about1 = true := code_word (m := ⟨0, 0⟩) (meth := k0m0) (c := k0c0) (by decide +kernel) rfl rfl rfl (by decide +kernel)
set_option maxRecDepth 65536 in
theorem w_c3 : (Jvm.Cond.code ({ cls := "com/example/stackwise/stackwise/input/DecimalColumn$Builder", name := "<init>", desc := "(I)V" } : Jvm.MethodName) prog_15_method_1_code (2 : Nat) (Option.none : Option Jvm.ClassFile.FieldType)).before args0 about1 = true := code_word (m := ⟨3, 0⟩) (meth := k3m0) (c := k3c0) (by decide +kernel) rfl rfl rfl (by decide +kernel)
set_option maxRecDepth 65536 in
theorem w_c4 : (Jvm.Cond.code ({ cls := "com/example/stackwise/stackwise/input/Decimals$Reading", name := "<init>", desc := "()V" } : Jvm.MethodName) prog_17_method_1_code (1 : Nat) (Option.none : Option Jvm.ClassFile.FieldType)).before args0 about1 = true := code_word (m := ⟨4, 0⟩) (meth := k4m0) (c := k4c0) (by decide +kernel) rfl rfl rfl (by decide +kernel)
set_option maxRecDepth 65536 in
theorem w_c5 : (Jvm.Cond.code ({ cls := "java/lang/Math", name := "max", desc := "(II)I" } : Jvm.MethodName) jdk_29_method_65_code (2 : Nat) (Option.some Jvm.ClassFile.FieldType.int)).before args0 about1 = true := code_word (m := ⟨5, 1⟩) (meth := k5m1) (c := k5c1) (by decide +kernel) rfl rfl rfl (by decide +kernel)
set_option maxRecDepth 65536 in
theorem w_c6 : (Jvm.Cond.code ({ cls := "com/example/stackwise/stackwise/calendar/HourlyValues$Builder", name := "add", desc := "(J[BII)I" } : Jvm.MethodName) prog_7_method_2_code (9 : Nat) (Option.some Jvm.ClassFile.FieldType.int)).before args0 about1 = true := code_word (m := ⟨2, 1⟩) (meth := k2m1) (c := k2c1) (by decide +kernel) rfl rfl rfl (by decide +kernel)
set_option maxRecDepth 65536 in
theorem w_c7 : (Jvm.Cond.code ({ cls := "com/example/stackwise/stackwise/input/DecimalColumn$Builder", name := "size", desc := "()I" } : Jvm.MethodName) prog_15_method_5_code (1 : Nat) (Option.some Jvm.ClassFile.FieldType.int)).before args0 about1 = true := code_word (m := ⟨3, 2⟩) (meth := k3m2) (c := k3c2) (by decide +kernel) rfl rfl rfl (by decide +kernel)
set_option maxRecDepth 65536 in
theorem w_c8 : (Jvm.Cond.code ({ cls := "com/example/stackwise/stackwise/input/DecimalColumn$Builder", name := "add", desc := "([BII)I" } : Jvm.MethodName) prog_15_method_2_code (4 : Nat) (Option.some Jvm.ClassFile.FieldType.int)).before args0 about1 = true := code_word (m := ⟨3, 1⟩) (meth := k3m1) (c := k3c1) (by decide +kernel) rfl rfl rfl (by decide +kernel)
set_option maxRecDepth 65536 in
theorem w_c9 : (Jvm.Cond.code ({ cls := "com/example/stackwise/stackwise/input/Decimals$Reading", name := "read", desc := "([BII)Z" } : Jvm.MethodName) prog_17_method_2_code (4 : Nat) (Option.some Jvm.ClassFile.FieldType.boolean)).before args0 about1 = true := code_word (m := ⟨4, 1⟩) (meth := k4m1) (c := k4c1) (by decide +kernel) rfl rfl rfl (by decide +kernel)
set_option maxRecDepth 65536 in
theorem w_c10 : (Jvm.Cond.code ({ cls := "com/example/stackwise/stackwise/input/Decimals$Reading", name := "readUpTo", desc := "([BII)I" } : Jvm.MethodName) prog_17_method_3_code (11 : Nat) (Option.some Jvm.ClassFile.FieldType.int)).before args0 about1 = true := code_word (m := ⟨4, 2⟩) (meth := k4m2) (c := k4c2) (by decide +kernel) rfl rfl rfl (by decide +kernel)
set_option maxRecDepth 65536 in
theorem w_c11 : (Jvm.Cond.code ({ cls := "com/example/stackwise/stackwise/input/Decimals$Reading", name := "fitsLong", desc := "()Z" } : Jvm.MethodName) prog_17_method_4_code (1 : Nat) (Option.some Jvm.ClassFile.FieldType.boolean)).before args0 about1 = true := code_word (m := ⟨4, 3⟩) (meth := k4m3) (c := k4c3) (by decide +kernel) rfl rfl rfl (by decide +kernel)
set_option maxRecDepth 65536 in
theorem w_c12 : (Jvm.Cond.code ({ cls := "com/example/stackwise/stackwise/input/Decimals$Reading", name := "scale", desc := "()I" } : Jvm.MethodName) prog_17_method_6_code (1 : Nat) (Option.some Jvm.ClassFile.FieldType.int)).before args0 about1 = true := code_word (m := ⟨4, 5⟩) (meth := k4m5) (c := k4c5) (by decide +kernel) rfl rfl rfl (by decide +kernel)
set_option maxRecDepth 65536 in
theorem w_c13 : (Jvm.Cond.code ({ cls := "com/example/stackwise/stackwise/input/Decimals$Reading", name := "unscaled", desc := "()J" } : Jvm.MethodName) prog_17_method_5_code (1 : Nat) (Option.some Jvm.ClassFile.FieldType.long)).before args0 about1 = true := code_word (m := ⟨4, 4⟩) (meth := k4m4) (c := k4c4) (by decide +kernel) rfl rfl rfl (by decide +kernel)
set_option maxRecDepth 65536 in
theorem w_c14 : (Jvm.Cond.code ({ cls := "com/example/stackwise/stackwise/input/Decimals$Reading", name := "signum", desc := "()I" } : Jvm.MethodName) prog_17_method_8_code (1 : Nat) (Option.some Jvm.ClassFile.FieldType.int)).before args0 about1 = true := code_word (m := ⟨4, 6⟩) (meth := k4m6) (c := k4c6) (by decide +kernel) rfl rfl rfl (by decide +kernel)
set_option maxRecDepth 65536 in
theorem w_c15 : (Jvm.Cond.code ({ cls := "java/lang/Long", name := "signum", desc := "(J)I" } : Jvm.MethodName) jdk_35_method_57_code (2 : Nat) (Option.some Jvm.ClassFile.FieldType.int)).before args0 about1 = true := code_word (m := ⟨11, 0⟩) (meth := k11m0) (c := k11c0) (by decide +kernel) rfl rfl rfl (by decide +kernel)
set_option maxRecDepth 65536 in
theorem w_c16 : (Jvm.Cond.code ({ cls := "com/example/stackwise/stackwise/calendar/HourlyValues$Builder", name := "hour", desc := "(I)J" } : Jvm.MethodName) prog_7_method_6_code (2 : Nat) (Option.some Jvm.ClassFile.FieldType.long)).before args0 about1 = true := code_word (m := ⟨2, 2⟩) (meth := k2m2) (c := k2c2) (by decide +kernel) rfl rfl rfl (by decide +kernel)
def codes1 : List Jvm.Cond := [Jvm.Cond.code x code maxLocals ret, Jvm.Cond.code ({ cls := "com/example/stackwise/stackwise/calendar/HourlyValues$Builder", name := "<init>", desc := "()V" } : Jvm.MethodName) prog_7_method_1_code (1 : Nat) (Option.none : Option Jvm.ClassFile.FieldType), Jvm.Cond.code ({ cls := "java/lang/Object", name := "<init>", desc := "()V" } : Jvm.MethodName) object_method_1_code (1 : Nat) (Option.none : Option Jvm.ClassFile.FieldType), Jvm.Cond.code ({ cls := "com/example/stackwise/stackwise/input/DecimalColumn$Builder", name := "<init>", desc := "(I)V" } : Jvm.MethodName) prog_15_method_1_code (2 : Nat) (Option.none : Option Jvm.ClassFile.FieldType), Jvm.Cond.code ({ cls := "com/example/stackwise/stackwise/input/Decimals$Reading", name := "<init>", desc := "()V" } : Jvm.MethodName) prog_17_method_1_code (1 : Nat) (Option.none : Option Jvm.ClassFile.FieldType), Jvm.Cond.code ({ cls := "java/lang/Math", name := "max", desc := "(II)I" } : Jvm.MethodName) jdk_29_method_65_code (2 : Nat) (Option.some Jvm.ClassFile.FieldType.int), Jvm.Cond.code ({ cls := "com/example/stackwise/stackwise/calendar/HourlyValues$Builder", name := "add", desc := "(J[BII)I" } : Jvm.MethodName) prog_7_method_2_code (9 : Nat) (Option.some Jvm.ClassFile.FieldType.int), Jvm.Cond.code ({ cls := "com/example/stackwise/stackwise/input/DecimalColumn$Builder", name := "size", desc := "()I" } : Jvm.MethodName) prog_15_method_5_code (1 : Nat) (Option.some Jvm.ClassFile.FieldType.int), Jvm.Cond.code ({ cls := "com/example/stackwise/stackwise/input/DecimalColumn$Builder", name := "add", desc := "([BII)I" } : Jvm.MethodName) prog_15_method_2_code (4 : Nat) (Option.some Jvm.ClassFile.FieldType.int), Jvm.Cond.code ({ cls := "com/example/stackwise/stackwise/input/Decimals$Reading", name := "read", desc := "([BII)Z" } : Jvm.MethodName) prog_17_method_2_code (4 : Nat) (Option.some Jvm.ClassFile.FieldType.boolean), Jvm.Cond.code ({ cls := "com/example/stackwise/stackwise/input/Decimals$Reading", name := "readUpTo", desc := "([BII)I" } : Jvm.MethodName) prog_17_method_3_code (11 : Nat) (Option.some Jvm.ClassFile.FieldType.int), Jvm.Cond.code ({ cls := "com/example/stackwise/stackwise/input/Decimals$Reading", name := "fitsLong", desc := "()Z" } : Jvm.MethodName) prog_17_method_4_code (1 : Nat) (Option.some Jvm.ClassFile.FieldType.boolean), Jvm.Cond.code ({ cls := "com/example/stackwise/stackwise/input/Decimals$Reading", name := "scale", desc := "()I" } : Jvm.MethodName) prog_17_method_6_code (1 : Nat) (Option.some Jvm.ClassFile.FieldType.int), Jvm.Cond.code ({ cls := "com/example/stackwise/stackwise/input/Decimals$Reading", name := "unscaled", desc := "()J" } : Jvm.MethodName) prog_17_method_5_code (1 : Nat) (Option.some Jvm.ClassFile.FieldType.long), Jvm.Cond.code ({ cls := "com/example/stackwise/stackwise/input/Decimals$Reading", name := "signum", desc := "()I" } : Jvm.MethodName) prog_17_method_8_code (1 : Nat) (Option.some Jvm.ClassFile.FieldType.int), Jvm.Cond.code ({ cls := "java/lang/Long", name := "signum", desc := "(J)I" } : Jvm.MethodName) jdk_35_method_57_code (2 : Nat) (Option.some Jvm.ClassFile.FieldType.int), Jvm.Cond.code ({ cls := "com/example/stackwise/stackwise/calendar/HourlyValues$Builder", name := "hour", desc := "(I)J" } : Jvm.MethodName) prog_7_method_6_code (2 : Nat) (Option.some Jvm.ClassFile.FieldType.long)]
set_option maxRecDepth 65536 in
theorem codes_eq : words1.filter isCode = codes1 := rfl
theorem w_codes : ∀ c ∈ words1.filter isCode, c.before args0 about1 = true := by
  rw [codes_eq]
  intro c hc
  simp only [codes1, List.mem_cons, List.not_mem_nil, or_false] at hc
  rcases hc with rfl | rfl | rfl | rfl | rfl | rfl | rfl | rfl | rfl | rfl | rfl | rfl | rfl | rfl | rfl | rfl | rfl
  · exact w_c0
  · exact w_c1
  · exact w_c2
  · exact w_c3
  · exact w_c4
  · exact w_c5
  · exact w_c6
  · exact w_c7
  · exact w_c8
  · exact w_c9
  · exact w_c10
  · exact w_c11
  · exact w_c12
  · exact w_c13
  · exact w_c14
  · exact w_c15
  · exact w_c16
set_option maxRecDepth 65536 in
theorem w_t1 : (words1.take 24).all (fun c => isCode c || c.before args0 about1) = true := by decide +kernel
set_option maxRecDepth 65536 in
theorem w_t2 : ((words1.drop 24).take 24).all (fun c => isCode c || c.before args0 about1) = true := by decide +kernel
set_option maxRecDepth 65536 in
theorem w_t3 : (((words1.drop 24).drop 24).take 24).all (fun c => isCode c || c.before args0 about1) = true := by decide +kernel
set_option maxRecDepth 65536 in
theorem w_t4 : ((((words1.drop 24).drop 24).drop 24).take 24).all (fun c => isCode c || c.before args0 about1) = true := by decide +kernel
set_option maxRecDepth 65536 in
theorem w_t5 : ((((words1.drop 24).drop 24).drop 24).drop 24).all (fun c => isCode c || c.before args0 about1) = true := by decide +kernel
theorem w_tables : (allAtoms (Jvm.Cond.code x code maxLocals ret :: tables_1)).before args0 about1 = true := by
  rw [allAtoms_all]
  show words1.all (fun c => c.before args0 about1) = true
  refine all_split ?_ w_codes
  rw [← List.take_append_drop 24 words1, List.all_append, w_t1, ← List.take_append_drop 24 (words1.drop 24), List.all_append, w_t2, ← List.take_append_drop 24 ((words1.drop 24).drop 24), List.all_append, w_t3, ← List.take_append_drop 24 (((words1.drop 24).drop 24).drop 24), List.all_append, w_t4, w_t5]
  rfl
set_option maxRecDepth 65536 in
theorem w_case : (Jvm.Cond.and given_1 narrow_1).before args0 about1 = true := by decide +kernel
theorem w_applies : (headSpec (Jvm.Cond.code x code maxLocals ret :: tables_1) room_1).applies x e0.platform about1 = true :=
  (Spec.applies_iff w_frames).mpr ⟨w_running, w_runnable, w_alone, w_named, w_hears, w_ripe, w_room, w_tables⟩
theorem atStart : AtStart classFile x code maxLocals ret World_1 tables_1 room_1 Calls_1 rest_1 Pre_1 launch0 p0 e0 about1 theMethod args0 below0 :=
  ⟨lists_1, trivial, launch0.admits_env _ _ _, launch0.least_env, fairChoices_fair.cas, fairChoices_fair.clock, w_frames, w_args, w_heap, w_applies, trivial, trivial, w_case⟩
end start1
theorem witness_1 : WitnessClaimed_1 := ⟨start1.p0, start1.e0, start1.about1, start1.theMethod, start1.args0, start1.below0, start1.atStart⟩
end Jvm.Pilot.@@N@@
