import JvmDerived
import JvmDerived.Pilot.@@N@@Statement
import JvmDerived.Pilot.@@N@@Code
set_option linter.unusedVariables false
set_option linter.unusedSimpArgs false
namespace Jvm.OwnKit
open Sem ClassFile Op Lib Jvm.Stand Jvm.Free Jvm.LawKit Jvm.RoadKit
section OwnKit
set_option maxHeartbeats 4000000
variable {p : Program} {l : Launch} {e : Env} {R : Room} {s : State} {m : MethodId} {args : Array Value} {below : List Frame} {meth : Method} {c : Code} {Z : State} {own : String} {bytes : ByteArray} {maxL : Nat} {ret : Option FieldType} {n0 : Nat} {s₀ : State} {h : Heap} {k j pc : Nat} {L : Array Slot} {S : List Value} {a0 : Array Value}
/-- where a walk stands -/
def Go (p : Program) (l : Launch) (e : Env) (R : Room) (s : State) (m : MethodId) (args : Array Value) (below : List Frame) (meth : Method) (c : Code) (Z : State) (own : String) (bytes : ByteArray) (maxL : Nat) (ret : Option FieldType) (n0 : Nat) (s₀ : State) (h : Heap) (k j pc : Nat) (L : Array Slot) (S : List Value) : Prop :=
  (p.tables.exec = Jvm.exec ∧ c.code = bytes ∧ c.maxLocals = maxL ∧ Z.Warmed39 s.vm ∧ s.vm.findClass own = some m.cls ∧ meth.sig.returnType = ret ∧ meth.locks = false ∧ n0 ≤ s.heap.size) ∧
  ∃ (T : State) (locs : List Loc), Stand p l e R s m args below meth c T locs k j ∧ T.heap = h ∧ Fr n0 locs ∧ ∀ t, Steps p.tables e below (T.setTop (mkF m pc L S)) t → Steps p.tables e below s₀ t
/-- how a walk ends -/
def Fini (p : Program) (e : Env) (below : List Frame) (s s₀ : State) (n0 kc js : Nat) (Q : Option Value → Heap → Prop) : Prop :=
  ∃ s₂ o, Steps p.tables e below s₀ s₂ ∧ s₂.status = .running ∧ Ended s₂ below o ∧ ∃ v L, o = .returned v ∧ (Q v s₂.heap ∧ Fr n0 L) ∧ FrameEnd s o s₂ L kc js
/-- a body's contract at one heap and these arguments -/
def Con (l : Launch) (y : MethodName) (bytes : ByteArray) (maxL : Nat) (ret : Option FieldType) (ws : List Cond) (rm : Room) (kc js : Nat) (Z : State) (as' : Array Value) (h0 : Heap) (n0 : Nat) (Q : Option Value → Heap → Prop) : Prop :=
  MetFree l y (head1 (Cond.code y bytes maxL ret :: ws) rm) (fun a U => a = as' ∧ Z.Warmed39 U.vm ∧ U.heap = h0) (fun _ _ _ _ _ => True) (fun _ U o U' => ∃ v L, o = .returned v ∧ (Q v U'.heap ∧ Fr n0 L) ∧ FrameEnd U o U' L kc js)
theorem Con.of {y : MethodName} {ws : List Cond} {rm : Room} {kc js : Nat} {as' : Array Value} {h0 : Heap} {L0 : Array Slot} {Q : Option Value → Heap → Prop} (hpl : plainFor y = true) (hn : n0 ≤ h0.size) (hef : ∀ m, entryFrame m as' maxL = mkF m 0 L0 [])
    (body : ∀ (p : Program) (e : Env) (s : State) (m : MethodId) (below : List Frame) (meth : Method) (c : Code) (s₀ : State), meth.name = y.name → Go p l e rm s m as' below meth c Z y.cls bytes maxL ret n0 s₀ h0 0 0 0 L0 [] → Fini p e below s s₀ n0 kc js Q) : Con l y bytes maxL ret ws rm kc js Z as' h0 n0 Q := by
  refine MetFree.of_bodySF hpl hisR ?_
  intro p e s m args below meth c s₁ Bd hml0 hP hK
  obtain ⟨rfl, hZ, hh⟩ := hP
  have hx := Bd.exec
  have X0 : Stand p l e rm s m args below meth c s₁ [] 0 0 := Stand.of_body Bd
  exact body p e s m below meth c _ (name_of_methodNamed Bd.named Bd.method).1 ⟨⟨hx, Bd.bytes, hml0, hZ, findClass_of_methodNamed Bd.named, Bd.returns, Bd.notSynchronized, by rw [hh]; exact hn⟩, s₁, [], X0, by rw [← hh, Bd.state]; rfl, Fr.nil n0, fun t k => castTop (hef m) k⟩
/-- the same contract with a weaker word -/
theorem Fini.mono {kc js : Nat} {Q Q' : Option Value → Heap → Prop} (F : Fini p e below s s₀ n0 kc js Q) (hq : ∀ v h, Q v h → Q' v h) : Fini p e below s s₀ n0 kc js Q' := by
  obtain ⟨s₂, o, a1, a2, a3, v, L, a4, ⟨a5, a6⟩, a7⟩ := F
  exact ⟨s₂, o, a1, a2, a3, v, L, a4, ⟨hq _ _ a5, a6⟩, a7⟩
theorem Go.step {pc' : Nat} {L' : Array Slot} {S' : List Value} (G : Go p l e R s m args below meth c Z own bytes maxL ret n0 s₀ h k j pc L S) (f : ∀ T locs, Stand p l e R s m args below meth c T locs k j → T.heap = h → p.tables.exec = Jvm.exec → c.code = bytes → ∀ t, Steps p.tables e below (T.setTop (mkF m pc' L' S')) t → Steps p.tables e below (T.setTop (mkF m pc L S)) t) : Go p l e R s m args below meth c Z own bytes maxL ret n0 s₀ h k j pc' L' S' := by
  obtain ⟨⟨hx, hb, r⟩, T, locs, X, eT, N, st⟩ := G
  exact ⟨⟨hx, hb, r⟩, T, locs, X, eT, N, fun t q => st t (f T locs X eT hx hb t q)⟩
theorem Go.size (G : Go p l e R s m args below meth c Z own bytes maxL ret n0 s₀ h k j pc L S) : n0 ≤ h.size := by
  obtain ⟨⟨_, _, _, _, _, _, _, hn⟩, T, locs, X, eT, N, st⟩ := G
  have q : s.heap.size ≤ T.heap.size := X.same.2.1
  rw [← eT]; exact Nat.le_trans hn q
theorem Go.iadd {x y : Int32} (G : Go p l e R s m args below meth c Z own bytes maxL ret n0 s₀ h k j pc L (.int y :: .int x :: S)) (hd : decode bytes pc = .ok (.iadd, 1))  {pc' : Nat} (hp : pc + 1 = pc' := by rfl) : Go p l e R s m args below meth c Z own bytes maxL ret n0 s₀ h k j pc' L (.int (x + y) :: S) := by
  subst hp; exact G.step fun T locs X eT hx hb t q => XS.iadd X.here hx rfl (Jvm.hb hb hd) rfl  q
theorem Go.isub {x y : Int32} (G : Go p l e R s m args below meth c Z own bytes maxL ret n0 s₀ h k j pc L (.int y :: .int x :: S)) (hd : decode bytes pc = .ok (.isub, 1))  {pc' : Nat} (hp : pc + 1 = pc' := by rfl) : Go p l e R s m args below meth c Z own bytes maxL ret n0 s₀ h k j pc' L (.int (x - y) :: S) := by
  subst hp; exact G.step fun T locs X eT hx hb t q => XS.isub X.here hx rfl (Jvm.hb hb hd) rfl  q
theorem Go.imul {x y : Int32} (G : Go p l e R s m args below meth c Z own bytes maxL ret n0 s₀ h k j pc L (.int y :: .int x :: S)) (hd : decode bytes pc = .ok (.imul, 1))  {pc' : Nat} (hp : pc + 1 = pc' := by rfl) : Go p l e R s m args below meth c Z own bytes maxL ret n0 s₀ h k j pc' L (.int (x * y) :: S) := by
  subst hp; exact G.step fun T locs X eT hx hb t q => XS.imul X.here hx rfl (Jvm.hb hb hd) rfl  q
theorem Go.iand {x y : Int32} (G : Go p l e R s m args below meth c Z own bytes maxL ret n0 s₀ h k j pc L (.int y :: .int x :: S)) (hd : decode bytes pc = .ok (.iand, 1))  {pc' : Nat} (hp : pc + 1 = pc' := by rfl) : Go p l e R s m args below meth c Z own bytes maxL ret n0 s₀ h k j pc' L (.int (x &&& y) :: S) := by
  subst hp; exact G.step fun T locs X eT hx hb t q => XS.iand X.here hx rfl (Jvm.hb hb hd) rfl  q
theorem Go.ior {x y : Int32} (G : Go p l e R s m args below meth c Z own bytes maxL ret n0 s₀ h k j pc L (.int y :: .int x :: S)) (hd : decode bytes pc = .ok (.ior, 1))  {pc' : Nat} (hp : pc + 1 = pc' := by rfl) : Go p l e R s m args below meth c Z own bytes maxL ret n0 s₀ h k j pc' L (.int (x ||| y) :: S) := by
  subst hp; exact G.step fun T locs X eT hx hb t q => XS.ior X.here hx rfl (Jvm.hb hb hd) rfl  q
theorem Go.ixor {x y : Int32} (G : Go p l e R s m args below meth c Z own bytes maxL ret n0 s₀ h k j pc L (.int y :: .int x :: S)) (hd : decode bytes pc = .ok (.ixor, 1))  {pc' : Nat} (hp : pc + 1 = pc' := by rfl) : Go p l e R s m args below meth c Z own bytes maxL ret n0 s₀ h k j pc' L (.int (x ^^^ y) :: S) := by
  subst hp; exact G.step fun T locs X eT hx hb t q => XS.ixor X.here hx rfl (Jvm.hb hb hd) rfl  q
theorem Go.ishl {x y : Int32} (G : Go p l e R s m args below meth c Z own bytes maxL ret n0 s₀ h k j pc L (.int y :: .int x :: S)) (hd : decode bytes pc = .ok (.ishl, 1))  {pc' : Nat} (hp : pc + 1 = pc' := by rfl) : Go p l e R s m args below meth c Z own bytes maxL ret n0 s₀ h k j pc' L (.int (x <<< (y &&& 31)) :: S) := by
  subst hp; exact G.step fun T locs X eT hx hb t q => XS.ishl X.here hx rfl (Jvm.hb hb hd) rfl  q
theorem Go.ishr {x y : Int32} (G : Go p l e R s m args below meth c Z own bytes maxL ret n0 s₀ h k j pc L (.int y :: .int x :: S)) (hd : decode bytes pc = .ok (.ishr, 1))  {pc' : Nat} (hp : pc + 1 = pc' := by rfl) : Go p l e R s m args below meth c Z own bytes maxL ret n0 s₀ h k j pc' L (.int (x >>> (y &&& 31)) :: S) := by
  subst hp; exact G.step fun T locs X eT hx hb t q => XS.ishr X.here hx rfl (Jvm.hb hb hd) rfl  q
theorem Go.iushr {x y : Int32} (G : Go p l e R s m args below meth c Z own bytes maxL ret n0 s₀ h k j pc L (.int y :: .int x :: S)) (hd : decode bytes pc = .ok (.iushr, 1))  {pc' : Nat} (hp : pc + 1 = pc' := by rfl) : Go p l e R s m args below meth c Z own bytes maxL ret n0 s₀ h k j pc' L (.int ((x.toUInt32 >>> (y &&& 31).toUInt32).toInt32) :: S) := by
  subst hp; exact G.step fun T locs X eT hx hb t q => XS.iushr X.here hx rfl (Jvm.hb hb hd) rfl  q
theorem Go.ladd {x y : Int64} (G : Go p l e R s m args below meth c Z own bytes maxL ret n0 s₀ h k j pc L (.long y :: .long x :: S)) (hd : decode bytes pc = .ok (.ladd, 1))  {pc' : Nat} (hp : pc + 1 = pc' := by rfl) : Go p l e R s m args below meth c Z own bytes maxL ret n0 s₀ h k j pc' L (.long (x + y) :: S) := by
  subst hp; exact G.step fun T locs X eT hx hb t q => XS.ladd X.here hx rfl (Jvm.hb hb hd) rfl  q
theorem Go.lsub {x y : Int64} (G : Go p l e R s m args below meth c Z own bytes maxL ret n0 s₀ h k j pc L (.long y :: .long x :: S)) (hd : decode bytes pc = .ok (.lsub, 1))  {pc' : Nat} (hp : pc + 1 = pc' := by rfl) : Go p l e R s m args below meth c Z own bytes maxL ret n0 s₀ h k j pc' L (.long (x - y) :: S) := by
  subst hp; exact G.step fun T locs X eT hx hb t q => XS.lsub X.here hx rfl (Jvm.hb hb hd) rfl  q
theorem Go.lmul {x y : Int64} (G : Go p l e R s m args below meth c Z own bytes maxL ret n0 s₀ h k j pc L (.long y :: .long x :: S)) (hd : decode bytes pc = .ok (.lmul, 1))  {pc' : Nat} (hp : pc + 1 = pc' := by rfl) : Go p l e R s m args below meth c Z own bytes maxL ret n0 s₀ h k j pc' L (.long (x * y) :: S) := by
  subst hp; exact G.step fun T locs X eT hx hb t q => XS.lmul X.here hx rfl (Jvm.hb hb hd) rfl  q
theorem Go.land {x y : Int64} (G : Go p l e R s m args below meth c Z own bytes maxL ret n0 s₀ h k j pc L (.long y :: .long x :: S)) (hd : decode bytes pc = .ok (.land, 1))  {pc' : Nat} (hp : pc + 1 = pc' := by rfl) : Go p l e R s m args below meth c Z own bytes maxL ret n0 s₀ h k j pc' L (.long (x &&& y) :: S) := by
  subst hp; exact G.step fun T locs X eT hx hb t q => XS.land X.here hx rfl (Jvm.hb hb hd) rfl  q
theorem Go.lor {x y : Int64} (G : Go p l e R s m args below meth c Z own bytes maxL ret n0 s₀ h k j pc L (.long y :: .long x :: S)) (hd : decode bytes pc = .ok (.lor, 1))  {pc' : Nat} (hp : pc + 1 = pc' := by rfl) : Go p l e R s m args below meth c Z own bytes maxL ret n0 s₀ h k j pc' L (.long (x ||| y) :: S) := by
  subst hp; exact G.step fun T locs X eT hx hb t q => XS.lor X.here hx rfl (Jvm.hb hb hd) rfl  q
theorem Go.lxor {x y : Int64} (G : Go p l e R s m args below meth c Z own bytes maxL ret n0 s₀ h k j pc L (.long y :: .long x :: S)) (hd : decode bytes pc = .ok (.lxor, 1))  {pc' : Nat} (hp : pc + 1 = pc' := by rfl) : Go p l e R s m args below meth c Z own bytes maxL ret n0 s₀ h k j pc' L (.long (x ^^^ y) :: S) := by
  subst hp; exact G.step fun T locs X eT hx hb t q => XS.lxor X.here hx rfl (Jvm.hb hb hd) rfl  q
theorem Go.lshl {x : Int64} {y : Int32} (G : Go p l e R s m args below meth c Z own bytes maxL ret n0 s₀ h k j pc L (.int y :: .long x :: S)) (hd : decode bytes pc = .ok (.lshl, 1))  {pc' : Nat} (hp : pc + 1 = pc' := by rfl) : Go p l e R s m args below meth c Z own bytes maxL ret n0 s₀ h k j pc' L (.long (x <<< (y &&& 0x3f).toInt64) :: S) := by
  subst hp; exact G.step fun T locs X eT hx hb t q => XS.lshl X.here hx rfl (Jvm.hb hb hd) rfl  q
theorem Go.lshr {x : Int64} {y : Int32} (G : Go p l e R s m args below meth c Z own bytes maxL ret n0 s₀ h k j pc L (.int y :: .long x :: S)) (hd : decode bytes pc = .ok (.lshr, 1))  {pc' : Nat} (hp : pc + 1 = pc' := by rfl) : Go p l e R s m args below meth c Z own bytes maxL ret n0 s₀ h k j pc' L (.long (x >>> (y &&& 0x3f).toInt64) :: S) := by
  subst hp; exact G.step fun T locs X eT hx hb t q => XS.lshr X.here hx rfl (Jvm.hb hb hd) rfl  q
theorem Go.lushr {x : Int64} {y : Int32} (G : Go p l e R s m args below meth c Z own bytes maxL ret n0 s₀ h k j pc L (.int y :: .long x :: S)) (hd : decode bytes pc = .ok (.lushr, 1))  {pc' : Nat} (hp : pc + 1 = pc' := by rfl) : Go p l e R s m args below meth c Z own bytes maxL ret n0 s₀ h k j pc' L (.long ((x.toUInt64 >>> (y &&& 0x3f).toInt64.toUInt64).toInt64) :: S) := by
  subst hp; exact G.step fun T locs X eT hx hb t q => XS.lushr X.here hx rfl (Jvm.hb hb hd) rfl  q
theorem Go.ineg {x : Int32} (G : Go p l e R s m args below meth c Z own bytes maxL ret n0 s₀ h k j pc L (.int x :: S)) (hd : decode bytes pc = .ok (.ineg, 1))  {pc' : Nat} (hp : pc + 1 = pc' := by rfl) : Go p l e R s m args below meth c Z own bytes maxL ret n0 s₀ h k j pc' L (.int (-x) :: S) := by
  subst hp; exact G.step fun T locs X eT hx hb t q => XS.ineg X.here hx rfl (Jvm.hb hb hd) rfl  q
theorem Go.lneg {x : Int64} (G : Go p l e R s m args below meth c Z own bytes maxL ret n0 s₀ h k j pc L (.long x :: S)) (hd : decode bytes pc = .ok (.lneg, 1))  {pc' : Nat} (hp : pc + 1 = pc' := by rfl) : Go p l e R s m args below meth c Z own bytes maxL ret n0 s₀ h k j pc' L (.long (-x) :: S) := by
  subst hp; exact G.step fun T locs X eT hx hb t q => XS.lneg X.here hx rfl (Jvm.hb hb hd) rfl  q
theorem Go.i2l {x : Int32} (G : Go p l e R s m args below meth c Z own bytes maxL ret n0 s₀ h k j pc L (.int x :: S)) (hd : decode bytes pc = .ok (.i2l, 1))  {pc' : Nat} (hp : pc + 1 = pc' := by rfl) : Go p l e R s m args below meth c Z own bytes maxL ret n0 s₀ h k j pc' L (.long (x.toInt64) :: S) := by
  subst hp; exact G.step fun T locs X eT hx hb t q => XS.i2l X.here hx rfl (Jvm.hb hb hd) rfl  q
theorem Go.l2i {x : Int64} (G : Go p l e R s m args below meth c Z own bytes maxL ret n0 s₀ h k j pc L (.long x :: S)) (hd : decode bytes pc = .ok (.l2i, 1))  {pc' : Nat} (hp : pc + 1 = pc' := by rfl) : Go p l e R s m args below meth c Z own bytes maxL ret n0 s₀ h k j pc' L (.int (x.toInt32) :: S) := by
  subst hp; exact G.step fun T locs X eT hx hb t q => XS.l2i X.here hx rfl (Jvm.hb hb hd) rfl  q
theorem Go.i2b {x : Int32} (G : Go p l e R s m args below meth c Z own bytes maxL ret n0 s₀ h k j pc L (.int x :: S)) (hd : decode bytes pc = .ok (.i2b, 1))  {pc' : Nat} (hp : pc + 1 = pc' := by rfl) : Go p l e R s m args below meth c Z own bytes maxL ret n0 s₀ h k j pc' L (.int (x.toInt8.toInt32) :: S) := by
  subst hp; exact G.step fun T locs X eT hx hb t q => XS.i2b X.here hx rfl (Jvm.hb hb hd) rfl  q
theorem Go.i2s {x : Int32} (G : Go p l e R s m args below meth c Z own bytes maxL ret n0 s₀ h k j pc L (.int x :: S)) (hd : decode bytes pc = .ok (.i2s, 1))  {pc' : Nat} (hp : pc + 1 = pc' := by rfl) : Go p l e R s m args below meth c Z own bytes maxL ret n0 s₀ h k j pc' L (.int (x.toInt16.toInt32) :: S) := by
  subst hp; exact G.step fun T locs X eT hx hb t q => XS.i2s X.here hx rfl (Jvm.hb hb hd) rfl  q
theorem Go.i2c {x : Int32} (G : Go p l e R s m args below meth c Z own bytes maxL ret n0 s₀ h k j pc L (.int x :: S)) (hd : decode bytes pc = .ok (.i2c, 1))  {pc' : Nat} (hp : pc + 1 = pc' := by rfl) : Go p l e R s m args below meth c Z own bytes maxL ret n0 s₀ h k j pc' L (.int (x.toUInt32.toUInt16.toUInt32.toInt32) :: S) := by
  subst hp; exact G.step fun T locs X eT hx hb t q => XS.i2c X.here hx rfl (Jvm.hb hb hd) rfl  q
theorem Go.lcmp {x y : Int64} (G : Go p l e R s m args below meth c Z own bytes maxL ret n0 s₀ h k j pc L (.long y :: .long x :: S)) (hd : decode bytes pc = .ok (.lcmp, 1))  {pc' : Nat} (hp : pc + 1 = pc' := by rfl) : Go p l e R s m args below meth c Z own bytes maxL ret n0 s₀ h k j pc' L (.int (Jvm.Free.XT.cmpL x y) :: S) := by
  subst hp; exact G.step fun T locs X eT hx hb t q => Jvm.Free.XT.lcmp X.here hx rfl (Jvm.hb hb hd) rfl  q
theorem Go.idiv {x y : Int32} (G : Go p l e R s m args below meth c Z own bytes maxL ret n0 s₀ h k j pc L (.int y :: .int x :: S)) (hd : decode bytes pc = .ok (.idiv, 1)) (hy : y ≠ 0) {pc' : Nat} (hp : pc + 1 = pc' := by rfl) : Go p l e R s m args below meth c Z own bytes maxL ret n0 s₀ h k j pc' L (.int (x / y) :: S) := by
  subst hp; exact G.step fun T locs X eT hx hb t q => XS.idiv X.here hx rfl (Jvm.hb hb hd) rfl hy q
theorem Go.irem {x y : Int32} (G : Go p l e R s m args below meth c Z own bytes maxL ret n0 s₀ h k j pc L (.int y :: .int x :: S)) (hd : decode bytes pc = .ok (.irem, 1)) (hy : y ≠ 0) {pc' : Nat} (hp : pc + 1 = pc' := by rfl) : Go p l e R s m args below meth c Z own bytes maxL ret n0 s₀ h k j pc' L (.int (x % y) :: S) := by
  subst hp; exact G.step fun T locs X eT hx hb t q => iremM X hx rfl (Jvm.hb hb hd) rfl hy q
theorem Go.lrem {x y : Int64} (G : Go p l e R s m args below meth c Z own bytes maxL ret n0 s₀ h k j pc L (.long y :: .long x :: S)) (hd : decode bytes pc = .ok (.lrem, 1)) (hy : y ≠ 0) {pc' : Nat} (hp : pc + 1 = pc' := by rfl) : Go p l e R s m args below meth c Z own bytes maxL ret n0 s₀ h k j pc' L (.long (x % y) :: S) := by
  subst hp; exact G.step fun T locs X eT hx hb t q => XS.lrem X.here hx rfl (Jvm.hb hb hd) rfl hy (by rw [lrem_mod]; exact q)
theorem Go.iconst {i : Int} (v : Int32) (G : Go p l e R s m args below meth c Z own bytes maxL ret n0 s₀ h k j pc L S) (hd : decode bytes pc = .ok (.iconst i, 1)) (hv : Int32.ofInt i = v := by decide) {pc' : Nat} (hp : pc + 1 = pc' := by rfl) : Go p l e R s m args below meth c Z own bytes maxL ret n0 s₀ h k j pc' L (.int v :: S) := by
  subst hp; exact G.step fun T locs X eT hx hb t q => Jvm.Free.XT.iconstV X.here hx rfl v (Jvm.hb hb hd) hv q
theorem Go.bipush {i : Int} (v : Int32) (G : Go p l e R s m args below meth c Z own bytes maxL ret n0 s₀ h k j pc L S) (hd : decode bytes pc = .ok (.bipush i, 2)) (hv : (Int8.ofInt i).toInt32 = v := by decide) {pc' : Nat} (hp : pc + 2 = pc' := by rfl) : Go p l e R s m args below meth c Z own bytes maxL ret n0 s₀ h k j pc' L (.int v :: S) := by
  subst hp; exact G.step fun T locs X eT hx hb t q => Jvm.Free.XT.bipushV X.here hx rfl v (Jvm.hb hb hd) hv q
theorem Go.sipush {i : Int} (v : Int32) (G : Go p l e R s m args below meth c Z own bytes maxL ret n0 s₀ h k j pc L S) (hd : decode bytes pc = .ok (.sipush i, 3)) (hv : (Int16.ofInt i).toInt32 = v := by decide) {pc' : Nat} (hp : pc + 3 = pc' := by rfl) : Go p l e R s m args below meth c Z own bytes maxL ret n0 s₀ h k j pc' L (.int v :: S) := by
  subst hp; exact G.step fun T locs X eT hx hb t q => Jvm.Free.XT.sipushV X.here hx rfl v (Jvm.hb hb hd) hv q
theorem Go.lconst {i : Fin 2} (v : Int64) (G : Go p l e R s m args below meth c Z own bytes maxL ret n0 s₀ h k j pc L S) (hd : decode bytes pc = .ok (.lconst i, 1)) (hv : Int64.ofNat i = v := by decide) {pc' : Nat} (hp : pc + 1 = pc' := by rfl) : Go p l e R s m args below meth c Z own bytes maxL ret n0 s₀ h k j pc' L (.long v :: S) := by
  subst hp; exact G.step fun T locs X eT hx hb t q => Jvm.Free.XT.lconstV X.here hx rfl v (Jvm.hb hb hd) hv q
theorem Go.aconstNull (G : Go p l e R s m args below meth c Z own bytes maxL ret n0 s₀ h k j pc L S) (hd : decode bytes pc = .ok (.aconst_null, 1)) {pc' : Nat} (hp : pc + 1 = pc' := by rfl) : Go p l e R s m args below meth c Z own bytes maxL ret n0 s₀ h k j pc' L (.null :: S) := by
  subst hp; exact G.step fun T locs X eT hx hb t q => XS.aconstNull X.here hx rfl (Jvm.hb hb hd) q
theorem Go.ldc {i : Nat} {v : Int32} (G : Go p l e R s m args below meth c Z own bytes maxL ret n0 s₀ h k j pc L S) (w : (Cond.constant own i v).before a0 Z = true) (hd : decode bytes pc = .ok (.ldc i, 2)) {pc' : Nat} (hp : pc + 2 = pc' := by rfl) : Go p l e R s m args below meth c Z own bytes maxL ret n0 s₀ h k j pc' L (.int v :: S) := by
  subst hp
  obtain ⟨⟨hx, hb, hm, hZ, ho, r⟩, T, locs, X, eT, N, st⟩ := G
  exact ⟨⟨hx, hb, hm, hZ, ho, r⟩, T, locs, X, eT, N, fun t q => st t (X.ldcInt hx ho (mvT hZ w) (g := mkF m pc L S) rfl (Jvm.hb hb hd) t q)⟩
theorem Go.ldc2 {i : Nat} {v : Int64} (G : Go p l e R s m args below meth c Z own bytes maxL ret n0 s₀ h k j pc L S) (w : (Cond.constantLong own i v).before a0 Z = true) (hd : decode bytes pc = .ok (.ldc2_w i, 3)) {pc' : Nat} (hp : pc + 3 = pc' := by rfl) : Go p l e R s m args below meth c Z own bytes maxL ret n0 s₀ h k j pc' L (.long v :: S) := by
  subst hp
  obtain ⟨⟨hx, hb, hm, hZ, ho, r⟩, T, locs, X, eT, N, st⟩ := G
  exact ⟨⟨hx, hb, hm, hZ, ho, r⟩, T, locs, X, eT, N, fun t q => st t (X.ldc2Long hx ho (mvT hZ w) (g := mkF m pc L S) rfl (Jvm.hb hb hd) t q)⟩
theorem Go.iloadN {i : Fin 4} {v : Int32} (G : Go p l e R s m args below meth c Z own bytes maxL ret n0 s₀ h k j pc L S) (hd : decode bytes pc = .ok (.iload_n i, 1)) (hl : L[i.val]? = some (.val (.int v))) {pc' : Nat} (hp : pc + 1 = pc' := by rfl) : Go p l e R s m args below meth c Z own bytes maxL ret n0 s₀ h k j pc' L (.int v :: S) := by
  subst hp; exact G.step fun T locs X eT hx hb t q => XS.iloadN X.here hx rfl (Jvm.hb hb hd) hl q
theorem Go.iload {i : Nat} {v : Int32} (G : Go p l e R s m args below meth c Z own bytes maxL ret n0 s₀ h k j pc L S) (hd : decode bytes pc = .ok (.iload i, 2)) (hl : L[i]? = some (.val (.int v))) {pc' : Nat} (hp : pc + 2 = pc' := by rfl) : Go p l e R s m args below meth c Z own bytes maxL ret n0 s₀ h k j pc' L (.int v :: S) := by
  subst hp; exact G.step fun T locs X eT hx hb t q => XS.iload X.here hx rfl (Jvm.hb hb hd) hl q
theorem Go.lloadN {i : Fin 4} {v : Int64} (G : Go p l e R s m args below meth c Z own bytes maxL ret n0 s₀ h k j pc L S) (hd : decode bytes pc = .ok (.lload_n i, 1)) (hl : L[i.val]? = some (.val (.long v))) {pc' : Nat} (hp : pc + 1 = pc' := by rfl) : Go p l e R s m args below meth c Z own bytes maxL ret n0 s₀ h k j pc' L (.long v :: S) := by
  subst hp; exact G.step fun T locs X eT hx hb t q => XS.lloadN X.here hx rfl (Jvm.hb hb hd) hl q
theorem Go.lload {i : Nat} {v : Int64} (G : Go p l e R s m args below meth c Z own bytes maxL ret n0 s₀ h k j pc L S) (hd : decode bytes pc = .ok (.lload i, 2)) (hl : L[i]? = some (.val (.long v))) {pc' : Nat} (hp : pc + 2 = pc' := by rfl) : Go p l e R s m args below meth c Z own bytes maxL ret n0 s₀ h k j pc' L (.long v :: S) := by
  subst hp; exact G.step fun T locs X eT hx hb t q => XS.lload X.here hx rfl (Jvm.hb hb hd) hl q
theorem Go.aloadN {i : Fin 4} {v : Value} (G : Go p l e R s m args below meth c Z own bytes maxL ret n0 s₀ h k j pc L S) (hd : decode bytes pc = .ok (.aload_n i, 1)) (hl : L[i.val]? = some (.val v)) (hv : v.isRef = true := by rfl) {pc' : Nat} (hp : pc + 1 = pc' := by rfl) : Go p l e R s m args below meth c Z own bytes maxL ret n0 s₀ h k j pc' L (v :: S) := by
  subst hp; exact G.step fun T locs X eT hx hb t q => XS.aloadN X.here hx rfl (Jvm.hb hb hd) hl hv q
theorem Go.aload {i : Nat} {v : Value} (G : Go p l e R s m args below meth c Z own bytes maxL ret n0 s₀ h k j pc L S) (hd : decode bytes pc = .ok (.aload i, 2)) (hl : L[i]? = some (.val v)) (hv : v.isRef = true := by rfl) {pc' : Nat} (hp : pc + 2 = pc' := by rfl) : Go p l e R s m args below meth c Z own bytes maxL ret n0 s₀ h k j pc' L (v :: S) := by
  subst hp; exact G.step fun T locs X eT hx hb t q => XS.aload X.here hx rfl (Jvm.hb hb hd) hl hv q
theorem Go.istoreN {i : Fin 4} {x : Int32} {L' : Array Slot} (G : Go p l e R s m args below meth c Z own bytes maxL ret n0 s₀ h k j pc L (.int x :: S)) (hd : decode bytes pc = .ok (.istore_n i, 1)) (hl : storeLocals L i.val (.int x) = some L') {pc' : Nat} (hp : pc + 1 = pc' := by rfl) : Go p l e R s m args below meth c Z own bytes maxL ret n0 s₀ h k j pc' L' S := by
  subst hp; exact G.step fun T locs X eT hx hb t q => XS.istoreN X.here hx rfl (Jvm.hb hb hd) rfl hl q
theorem Go.istore {i : Nat} {x : Int32} {L' : Array Slot} (G : Go p l e R s m args below meth c Z own bytes maxL ret n0 s₀ h k j pc L (.int x :: S)) (hd : decode bytes pc = .ok (.istore i, 2)) (hl : storeLocals L i (.int x) = some L') {pc' : Nat} (hp : pc + 2 = pc' := by rfl) : Go p l e R s m args below meth c Z own bytes maxL ret n0 s₀ h k j pc' L' S := by
  subst hp; exact G.step fun T locs X eT hx hb t q => XS.istore X.here hx rfl (Jvm.hb hb hd) rfl hl q
theorem Go.lstoreN {i : Fin 4} {x : Int64} {L' : Array Slot} (G : Go p l e R s m args below meth c Z own bytes maxL ret n0 s₀ h k j pc L (.long x :: S)) (hd : decode bytes pc = .ok (.lstore_n i, 1)) (hl : storeLocals L i.val (.long x) = some L') {pc' : Nat} (hp : pc + 1 = pc' := by rfl) : Go p l e R s m args below meth c Z own bytes maxL ret n0 s₀ h k j pc' L' S := by
  subst hp; exact G.step fun T locs X eT hx hb t q => XS.lstoreN X.here hx rfl (Jvm.hb hb hd) rfl hl q
theorem Go.lstore {i : Nat} {x : Int64} {L' : Array Slot} (G : Go p l e R s m args below meth c Z own bytes maxL ret n0 s₀ h k j pc L (.long x :: S)) (hd : decode bytes pc = .ok (.lstore i, 2)) (hl : storeLocals L i (.long x) = some L') {pc' : Nat} (hp : pc + 2 = pc' := by rfl) : Go p l e R s m args below meth c Z own bytes maxL ret n0 s₀ h k j pc' L' S := by
  subst hp; exact G.step fun T locs X eT hx hb t q => XS.lstore X.here hx rfl (Jvm.hb hb hd) rfl hl q
theorem Go.astoreN {i : Fin 4} {x : Value} {L' : Array Slot} (G : Go p l e R s m args below meth c Z own bytes maxL ret n0 s₀ h k j pc L (x :: S)) (hd : decode bytes pc = .ok (.astore_n i, 1)) (hl : storeLocals L i.val x = some L') (hv : x.isRef = true := by rfl) {pc' : Nat} (hp : pc + 1 = pc' := by rfl) : Go p l e R s m args below meth c Z own bytes maxL ret n0 s₀ h k j pc' L' S := by
  subst hp; exact G.step fun T locs X eT hx hb t q => XS.astoreN X.here hx rfl (Jvm.hb hb hd) rfl hv hl q
theorem Go.astore {i : Nat} {x : Value} {L' : Array Slot} (G : Go p l e R s m args below meth c Z own bytes maxL ret n0 s₀ h k j pc L (x :: S)) (hd : decode bytes pc = .ok (.astore i, 2)) (hl : storeLocals L i x = some L') (hv : x.isRef = true := by rfl) {pc' : Nat} (hp : pc + 2 = pc' := by rfl) : Go p l e R s m args below meth c Z own bytes maxL ret n0 s₀ h k j pc' L' S := by
  subst hp; exact G.step fun T locs X eT hx hb t q => XS.astore X.here hx rfl (Jvm.hb hb hd) rfl hv hl q
theorem Go.iinc {i : Nat} {cst : Int} {x : Int32} {L' : Array Slot} (v : Int32) (G : Go p l e R s m args below meth c Z own bytes maxL ret n0 s₀ h k j pc L S) (hd : decode bytes pc = .ok (.iinc i cst, 3)) (hl : L[i]? = some (.val (.int x))) (hl' : storeLocals L i (.int (x + v)) = some L') (hv : Int32.ofInt cst = v := by decide) {pc' : Nat} (hp : pc + 3 = pc' := by rfl) : Go p l e R s m args below meth c Z own bytes maxL ret n0 s₀ h k j pc' L' S := by
  subst hp; exact G.step fun T locs X eT hx hb t q => Jvm.Free.XT.iincV X.here hx rfl v (Jvm.hb hb hd) hv hl hl' q
theorem Go.dup {x : Value} (G : Go p l e R s m args below meth c Z own bytes maxL ret n0 s₀ h k j pc L (x :: S)) (hd : decode bytes pc = .ok (.dup, 1)) (hc : x.category = 1 := by rfl) {pc' : Nat} (hp : pc + 1 = pc' := by rfl) : Go p l e R s m args below meth c Z own bytes maxL ret n0 s₀ h k j pc' L (x :: x :: S) := by
  subst hp; exact G.step fun T locs X eT hx hb t q => XS.dup X.here hx rfl (Jvm.hb hb hd) rfl hc q
theorem Go.pop {x : Value} (G : Go p l e R s m args below meth c Z own bytes maxL ret n0 s₀ h k j pc L (x :: S)) (hd : decode bytes pc = .ok (.pop, 1)) (hc : x.category = 1 := by rfl) {pc' : Nat} (hp : pc + 1 = pc' := by rfl) : Go p l e R s m args below meth c Z own bytes maxL ret n0 s₀ h k j pc' L S := by
  subst hp; exact G.step fun T locs X eT hx hb t q => XS.pop X.here hx rfl (Jvm.hb hb hd) rfl hc q
theorem Go.dupX1 {x y : Value} (G : Go p l e R s m args below meth c Z own bytes maxL ret n0 s₀ h k j pc L (x :: y :: S)) (hd : decode bytes pc = .ok (.dup_x1, 1)) (hc : x.category = 1 := by rfl) (hc2 : y.category = 1 := by rfl) {pc' : Nat} (hp : pc + 1 = pc' := by rfl) : Go p l e R s m args below meth c Z own bytes maxL ret n0 s₀ h k j pc' L (x :: y :: x :: S) := by
  subst hp; exact G.step fun T locs X eT hx hb t q => XS.dupX1 X.here hx rfl (Jvm.hb hb hd) rfl hc hc2 q
theorem Go.dup2 {x y : Value} (G : Go p l e R s m args below meth c Z own bytes maxL ret n0 s₀ h k j pc L (x :: y :: S)) (hd : decode bytes pc = .ok (.dup2, 1)) (hc : x.category = 1 := by rfl) (hc2 : y.category = 1 := by rfl) {pc' : Nat} (hp : pc + 1 = pc' := by rfl) : Go p l e R s m args below meth c Z own bytes maxL ret n0 s₀ h k j pc' L (x :: y :: x :: y :: S) := by
  subst hp; exact G.step fun T locs X eT hx hb t q => Jvm.Free.XT.dup2 X.here hx rfl (Jvm.hb hb hd) rfl hc hc2 q
theorem Go.goto {o : Int} (G : Go p l e R s m args below meth c Z own bytes maxL ret n0 s₀ h k j pc L S) (hd : decode bytes pc = .ok (.goto o, 3)) (pc' : Nat) (ho : 0 ≤ (pc : Int) + o := by decide) (hp : ((pc : Int) + o).toNat = pc' := by decide) : Go p l e R s m args below meth c Z own bytes maxL ret n0 s₀ h k j pc' L S := by
  exact G.step fun T locs X eT hx hb t q => XS.goto X.here hx rfl (pc0 := pc) (pc' := pc') rfl (Jvm.hb hb hd) ho hp q
theorem Go.ifY {cd : ClassFile.Cond} {o : Int} {x : Int32} (G : Go p l e R s m args below meth c Z own bytes maxL ret n0 s₀ h k j pc L (.int x :: S)) (hd : decode bytes pc = .ok (.ifCond cd o, 3)) (pc' : Nat) (hc : ifCond.holds cd x = true) (ho : 0 ≤ (pc : Int) + o := by decide) (hp : ((pc : Int) + o).toNat = pc' := by decide) : Go p l e R s m args below meth c Z own bytes maxL ret n0 s₀ h k j pc' L S := by
  exact G.step fun T locs X eT hx hb t q => XS.ifYes X.here hx rfl (pc0 := pc) (pc' := pc') rfl (Jvm.hb hb hd) rfl hc ho hp q
theorem Go.ifN {cd : ClassFile.Cond} {o : Int} {x : Int32} (G : Go p l e R s m args below meth c Z own bytes maxL ret n0 s₀ h k j pc L (.int x :: S)) (hd : decode bytes pc = .ok (.ifCond cd o, 3)) (pc' : Nat) (hc : ifCond.holds cd x = false) (hp : pc + 3 = pc' := by rfl) : Go p l e R s m args below meth c Z own bytes maxL ret n0 s₀ h k j pc' L S := by
  subst hp; exact G.step fun T locs X eT hx hb t q => XS.ifNo X.here hx rfl (Jvm.hb hb hd) rfl hc q
theorem Go.icmpY {cd : ClassFile.Cond} {o : Int} {x y : Int32} (G : Go p l e R s m args below meth c Z own bytes maxL ret n0 s₀ h k j pc L (.int y :: .int x :: S)) (hd : decode bytes pc = .ok (.if_icmp cd o, 3)) (pc' : Nat) (hc : if_icmp.holds cd x y = true) (ho : 0 ≤ (pc : Int) + o := by decide) (hp : ((pc : Int) + o).toNat = pc' := by decide) : Go p l e R s m args below meth c Z own bytes maxL ret n0 s₀ h k j pc' L S := by
  exact G.step fun T locs X eT hx hb t q => XS.icmpYes X.here hx rfl (pc0 := pc) (pc' := pc') rfl (Jvm.hb hb hd) rfl hc ho hp q
theorem Go.icmpN {cd : ClassFile.Cond} {o : Int} {x y : Int32} (G : Go p l e R s m args below meth c Z own bytes maxL ret n0 s₀ h k j pc L (.int y :: .int x :: S)) (hd : decode bytes pc = .ok (.if_icmp cd o, 3)) (pc' : Nat) (hc : if_icmp.holds cd x y = false) (hp : pc + 3 = pc' := by rfl) : Go p l e R s m args below meth c Z own bytes maxL ret n0 s₀ h k j pc' L S := by
  subst hp; exact G.step fun T locs X eT hx hb t q => XS.icmpNo X.here hx rfl (Jvm.hb hb hd) rfl hc q
theorem Go.ifnullY {o : Int} (G : Go p l e R s m args below meth c Z own bytes maxL ret n0 s₀ h k j pc L (.null :: S)) (hd : decode bytes pc = .ok (.ifnull o, 3)) (pc' : Nat) (ho : 0 ≤ (pc : Int) + o := by decide) (hp : ((pc : Int) + o).toNat = pc' := by decide) : Go p l e R s m args below meth c Z own bytes maxL ret n0 s₀ h k j pc' L S := by
  exact G.step fun T locs X eT hx hb t q => XS.ifnullYes X.here hx rfl (pc0 := pc) (pc' := pc') rfl (Jvm.hb hb hd) rfl ho hp q
theorem Go.ifnullN {o : Int} {b : Addr} (G : Go p l e R s m args below meth c Z own bytes maxL ret n0 s₀ h k j pc L (.ref b :: S)) (hd : decode bytes pc = .ok (.ifnull o, 3)) (pc' : Nat) (hp : pc + 3 = pc' := by rfl) : Go p l e R s m args below meth c Z own bytes maxL ret n0 s₀ h k j pc' L S := by
  subst hp; exact G.step fun T locs X eT hx hb t q => XS.ifnullNo X.here hx rfl (Jvm.hb hb hd) rfl q
theorem Go.ifnonnullY {o : Int} {b : Addr} (G : Go p l e R s m args below meth c Z own bytes maxL ret n0 s₀ h k j pc L (.ref b :: S)) (hd : decode bytes pc = .ok (.ifnonnull o, 3)) (pc' : Nat) (ho : 0 ≤ (pc : Int) + o := by decide) (hp : ((pc : Int) + o).toNat = pc' := by decide) : Go p l e R s m args below meth c Z own bytes maxL ret n0 s₀ h k j pc' L S := by
  exact G.step fun T locs X eT hx hb t q => XS.ifnonnullYes X.here hx rfl (pc0 := pc) (pc' := pc') rfl (Jvm.hb hb hd) rfl ho hp q
theorem Go.ifnonnullN {o : Int} (G : Go p l e R s m args below meth c Z own bytes maxL ret n0 s₀ h k j pc L (.null :: S)) (hd : decode bytes pc = .ok (.ifnonnull o, 3)) (pc' : Nat) (hp : pc + 3 = pc' := by rfl) : Go p l e R s m args below meth c Z own bytes maxL ret n0 s₀ h k j pc' L S := by
  subst hp; exact G.step fun T locs X eT hx hb t q => XS.ifnonnullNo X.here hx rfl (Jvm.hb hb hd) rfl q
theorem Go.out {w : Value} {t : FieldType} {i : Instr} {kc js : Nat} {Q : Option Value → Heap → Prop} (G : Go p l e R s m args below meth c Z own bytes maxL ret n0 s₀ h k j pc L (w :: S)) (hr : ret = some t) (hn : narrow t w = w)
    (hi : (i = .ireturn ∧ (t = .int ∨ t = .boolean ∨ t = .byte ∨ t = .char ∨ t = .short) ∧ ∃ z, w = .int z) ∨ (i = .lreturn ∧ t = .long ∧ ∃ z, w = .long z) ∨ (i = .dreturn ∧ t = .double ∧ ∃ z, w = .double z) ∨ (i = .freturn ∧ t = .float ∧ ∃ z, w = .float z) ∨ (i = .areturn ∧ t.isReference = true ∧ w.isRef = true))
    (hd : decode bytes pc = .ok (i, 1)) (hQ : Q (some w) h) (hk : k ≤ kc) (hj : j ≤ js) : Fini p e below s s₀ n0 kc js Q := by
  obtain ⟨⟨hx, hb, hm, hZ, ho, hret, hlk, hn0⟩, T, locs, X, eT, N, st⟩ := G
  subst hr
  obtain ⟨fs, hr, hrun, hended, hW, hsame⟩ := X.leave (v := some w) (fun h => by rw [hret] at h; cases h) hlk
  exact ⟨_, _, st _ (retOut X hx hret hn hi (Jvm.hb hb hd) hr), hrun, hended, _, _, rfl, ⟨by show Q _ T.heap; rw [eT]; exact hQ, N⟩, ⟨_, rfl⟩, hW, hsame.mono hk hj⟩
theorem Go.retI {z : Int32} {kc js : Nat} {Q : Option Value → Heap → Prop} (G : Go p l e R s m args below meth c Z own bytes maxL ret n0 s₀ h k j pc L (.int z :: S)) (hd : decode bytes pc = .ok (.ireturn, 1)) (hr : ret = some .int) (hQ : Q (some (.int z)) h) (hk : k ≤ kc := by decide) (hj : j ≤ js := by decide) : Fini p e below s s₀ n0 kc js Q :=
  G.out hr rfl (Or.inl ⟨rfl, Or.inl rfl, z, rfl⟩) hd hQ hk hj
theorem Go.retS {z : Int32} {t : FieldType} {kc js : Nat} {Q : Option Value → Heap → Prop} (G : Go p l e R s m args below meth c Z own bytes maxL ret n0 s₀ h k j pc L (.int z :: S)) (hd : decode bytes pc = .ok (.ireturn, 1)) (hr : ret = some t) (ht : t = .int ∨ t = .boolean ∨ t = .byte ∨ t = .char ∨ t = .short) (hn : narrow t (.int z) = .int z) (hQ : Q (some (.int z)) h) (hk : k ≤ kc := by decide) (hj : j ≤ js := by decide) : Fini p e below s s₀ n0 kc js Q :=
  G.out hr hn (Or.inl ⟨rfl, ht, z, rfl⟩) hd hQ hk hj
theorem Go.retZ {z : Int32} {kc js : Nat} {Q : Option Value → Heap → Prop} (G : Go p l e R s m args below meth c Z own bytes maxL ret n0 s₀ h k j pc L (.int z :: S)) (hd : decode bytes pc = .ok (.ireturn, 1)) (hr : ret = some .boolean) (hn : z = 0 ∨ z = 1) (hQ : Q (some (.int z)) h) (hk : k ≤ kc := by decide) (hj : j ≤ js := by decide) : Fini p e below s s₀ n0 kc js Q :=
  G.out hr (by rcases hn with rfl | rfl <;> rfl) (Or.inl ⟨rfl, Or.inr (Or.inl rfl), z, rfl⟩) hd hQ hk hj
theorem Go.retJ {z : Int64} {kc js : Nat} {Q : Option Value → Heap → Prop} (G : Go p l e R s m args below meth c Z own bytes maxL ret n0 s₀ h k j pc L (.long z :: S)) (hd : decode bytes pc = .ok (.lreturn, 1)) (hr : ret = some .long) (hQ : Q (some (.long z)) h) (hk : k ≤ kc := by decide) (hj : j ≤ js := by decide) : Fini p e below s s₀ n0 kc js Q :=
  G.out hr rfl (Or.inr (Or.inl ⟨rfl, rfl, z, rfl⟩)) hd hQ hk hj
theorem Go.retA {a : Addr} {t : FieldType} {kc js : Nat} {Q : Option Value → Heap → Prop} (G : Go p l e R s m args below meth c Z own bytes maxL ret n0 s₀ h k j pc L (.ref a :: S)) (hd : decode bytes pc = .ok (.areturn, 1)) (hr : ret = some t) (ht : t.isReference = true) (hn : narrow t (.ref a) = .ref a) (hQ : Q (some (.ref a)) h) (hk : k ≤ kc := by decide) (hj : j ≤ js := by decide) : Fini p e below s s₀ n0 kc js Q :=
  G.out hr hn (Or.inr (Or.inr (Or.inr (Or.inr ⟨rfl, ht, rfl⟩)))) hd hQ hk hj
theorem Go.retV {kc js : Nat} {Q : Option Value → Heap → Prop} (G : Go p l e R s m args below meth c Z own bytes maxL ret n0 s₀ h k j pc L []) (hd : decode bytes pc = .ok (.return_, 1)) (hr : ret = none) (hQ : Q none h) (hk : k ≤ kc := by decide) (hj : j ≤ js := by decide) : Fini p e below s s₀ n0 kc js Q := by
  obtain ⟨⟨hx, hb, hm, hZ, ho, hret, hlk, hn0⟩, T, locs, X, eT, N, st⟩ := G
  subst hr
  obtain ⟨fs, hr, hrun, hended, hW, hsame⟩ := X.leave (v := none) (fun _ => rfl) hlk
  exact ⟨_, _, st _ (X.returnOut hx hret (Jvm.hb hb hd) hr), hrun, hended, _, _, rfl, ⟨by show Q _ T.heap; rw [eT]; exact hQ, N⟩, ⟨_, rfl⟩, hW, hsame.mono hk hj⟩
theorem Go.callS {S0 argsL rest : List Value} {y : MethodName} {bytes' : ByteArray} {maxL' : Nat} {ret' r : Option FieldType} {ps : List FieldType} {rm : Room} {index : Nat} {Q : Option Value → Heap → Prop} (G : Go p l e R s m args below meth c Z own bytes maxL ret n0 s₀ h k j pc L S0) (C : Con l y bytes' maxL' ret' [] rm rm.cells rm.slots Z argsL.toArray h n0 Q) (hS : S0 = argsL.reverse ++ rest)
    (w1 : (Cond.methodLink own index y).before a0 Z = true) (w2 : (Cond.static y).before a0 Z = true) (w3 : (Cond.initialized y.cls).before a0 Z = true) (w4 : (Cond.code y bytes' maxL' ret').before a0 Z = true) (hy : y.cls ≠ "java/lang/invoke/MethodHandle" ∧ y.cls ≠ "java/lang/invoke/VarHandle")
    (hd : decode bytes pc = .ok (.invokestatic index, 3)) (hpd : parseMethodDescriptor y.desc = some ⟨ps, r⟩) (hl : argsL.length = ps.length) {W : Nat} (hW : (rest.map fun v => v.category).sum = W) (hL : L.size = maxL) (hf : rm.frames + 1 ≤ R.frames) (hlo : W + (maxL' + 11) + rm.locals ≤ R.locals) (hc : k + rm.cells ≤ R.cells) (hs : j + rm.slots ≤ R.slots) {pc' k' j' : Nat} (hp : pc + 3 = pc') (hk' : k + rm.cells = k') (hj' : j + rm.slots = j') :
    ∃ v h', Q v h' ∧ ∀ S', v.toList ++ rest = S' → Go p l e R s m args below meth c Z own bytes maxL ret n0 s₀ h' k' j' pc' L S' := by
  subst hp hk' hj' hS
  obtain ⟨⟨hx, hb, hm, hZ, ho, hret, hlk, hn0⟩, T, locs, X, eT, N, st⟩ := G
  obtain ⟨v, _, ⟨T', L', k', n'⟩, -, X', ⟨Lc, hQ, l', y', z'⟩, st'⟩ := Jvm.LawKit.callS X hx (y := y) ho (mvT hZ w1) (mvT hZ w2) (mvT hZ w3) (mvT hZ w4) hy (backOf (W := W) (R := R) (rm := rm) (Q := fun v h L => Q v h ∧ Fr n0 L) C hZ w4 w3 hf hlo) (g := mkF m pc L (argsL.reverse ++ rest)) rfl (by rw [hm]; exact hL) (argsL := argsL) (rest := rest) (lenOf hpd hl) rfl (by show 2 * 0 + _ ≤ _; omega) (Jvm.hb hb hd) (fun _ _ => ⟨rfl, eT, hc, hs⟩)
  dsimp only [Pt.U, Pt.locs, Pt.cells, Pt.slots] at X' l' y' z' st' hQ
  subst l' y' z'
  refine ⟨v, T'.heap, hQ.1, fun S' e => ?_⟩
  subst e
  exact ⟨⟨hx, hb, hm, hZ, ho, hret, hlk, hn0⟩, T', _, X', rfl, Fr.app N hQ.2, fun t q => st t (st' t q)⟩
theorem Go.callI {S0 argsL rest : List Value} {y : MethodName} {bytes' : ByteArray} {maxL' : Nat} {r : Option FieldType} {ps : List FieldType} {rm : Room} {index : Nat} {Q : Option Value → Heap → Prop} {a : Addr} (G : Go p l e R s m args below meth c Z own bytes maxL ret n0 s₀ h k j pc L S0) (C : Con l y bytes' maxL' none [] rm rm.cells rm.slots Z (.ref a :: argsL).toArray h n0 Q) (hS : S0 = argsL.reverse ++ .ref a :: rest) (hyn : y.name = "<init>")
    (w1 : (Cond.methodLink own index y).before a0 Z = true) (w2 : (Cond.instanceMethod y).before a0 Z = true) (w3 : (Cond.initialized y.cls).before a0 Z = true) (w4 : (Cond.code y bytes' maxL' none).before a0 Z = true) (hy : y.cls ≠ "java/lang/invoke/MethodHandle" ∧ y.cls ≠ "java/lang/invoke/VarHandle")
    (hd : decode bytes pc = .ok (.invokespecial index, 3)) (hpd : parseMethodDescriptor y.desc = some ⟨ps, r⟩) (hl : argsL.length = ps.length) {W : Nat} (hW : (rest.map fun v => v.category).sum = W) (hL : L.size = maxL) (hf : rm.frames + 1 ≤ R.frames) (hlo : W + (maxL' + 11) + rm.locals ≤ R.locals) (hc : k + rm.cells ≤ R.cells) (hs : j + rm.slots ≤ R.slots) {pc' k' j' : Nat} (hp : pc + 3 = pc') (hk' : k + rm.cells = k') (hj' : j + rm.slots = j') :
    ∃ v h', Q v h' ∧ ∀ S', v.toList ++ rest = S' → Go p l e R s m args below meth c Z own bytes maxL ret n0 s₀ h' k' j' pc' L S' := by
  subst hp hk' hj' hS
  obtain ⟨⟨hx, hb, hm, hZ, ho, hret, hlk, hn0⟩, T, locs, X, eT, N, st⟩ := G
  obtain ⟨v, _, ⟨T', L', k', n'⟩, -, X', ⟨Lc, hQ, l', y', z'⟩, st'⟩ := X.specialBack hx (y := y) hyn ho (mvT hZ w1) (mvT hZ w2) (mvT hZ w4) hy (backOf (W := W) (R := R) (rm := rm) (Q := fun v h L => Q v h ∧ Fr n0 L) C hZ w4 w3 hf hlo) (g := mkF m pc L (argsL.reverse ++ .ref a :: rest)) rfl (by rw [hm]; exact hL) (Steps.refl _) (a := a) (argsL := argsL) (rest := rest) (lenOf hpd hl) rfl (by show 2 * 0 + _ ≤ _; omega) (Jvm.hb hb hd) (fun _ _ => ⟨rfl, eT, hc, hs⟩)
  dsimp only [Pt.U, Pt.locs, Pt.cells, Pt.slots] at X' l' y' z' st' hQ
  subst l' y' z'
  refine ⟨v, T'.heap, hQ.1, fun S' e => ?_⟩
  subst e
  exact ⟨⟨hx, hb, hm, hZ, ho, hret, hlk, hn0⟩, T', _, X', rfl, Fr.app N hQ.2, fun t q => st t (st'.trans q)⟩
theorem Go.callV {S0 argsL rest : List Value} {y : MethodName} {bytes' : ByteArray} {maxL' : Nat} {ret' r : Option FieldType} {ps : List FieldType} {rm : Room} {index : Nat} {Q : Option Value → Heap → Prop} {a : Addr} {K : String} (G : Go p l e R s m args below meth c Z own bytes maxL ret n0 s₀ h k j pc L S0) (C : Con l y bytes' maxL' ret' [] rm rm.cells rm.slots Z (.ref a :: argsL).toArray h n0 Q) (hS : S0 = argsL.reverse ++ .ref a :: rest) (E : Exa Z h a K)
    (w1 : (Cond.methodLink own index y).before a0 Z = true) (w1' : (Cond.declares y).before a0 Z = true) (w1'' : (Cond.selects K y y).before a0 Z = true) (w2 : (Cond.instanceMethod y).before a0 Z = true) (w3 : (Cond.initialized y.cls).before a0 Z = true) (w4 : (Cond.code y bytes' maxL' ret').before a0 Z = true) (hy : y.cls ≠ "java/lang/invoke/MethodHandle" ∧ y.cls ≠ "java/lang/invoke/VarHandle")
    (hd : decode bytes pc = .ok (.invokevirtual index, 3)) (hpd : parseMethodDescriptor y.desc = some ⟨ps, r⟩) (hl : argsL.length = ps.length) {W : Nat} (hW : (rest.map fun v => v.category).sum = W) (hL : L.size = maxL) (hf : rm.frames + 1 ≤ R.frames) (hlo : W + (maxL' + 11) + rm.locals ≤ R.locals) (hc : k + rm.cells ≤ R.cells) (hs : j + rm.slots ≤ R.slots) {pc' k' j' : Nat} (hp : pc + 3 = pc') (hk' : k + rm.cells = k') (hj' : j + rm.slots = j') :
    ∃ v h', Q v h' ∧ ∀ S', v.toList ++ rest = S' → Go p l e R s m args below meth c Z own bytes maxL ret n0 s₀ h' k' j' pc' L S' := by
  subst hp hk' hj' hS
  obtain ⟨⟨hx, hb, hm, hZ, ho, hret, hlk, hn0⟩, T, locs, X, eT, N, st⟩ := G
  obtain ⟨cq, kq, q1, q2, q3⟩ := isOf hZ eT E
  obtain ⟨v, _, ⟨T', L', k', n'⟩, -, X', ⟨Lc, hQ, l', y', z'⟩, st'⟩ := X.virtualBack hx (y := y) (z := y) ho (mvT hZ w1) (mvT hZ w1') (notFace_of_selects (args := #[]) (mvT hZ w1'')) (mvT hZ w1'') (mvT hZ w2) hy (backOf (W := W) (R := R) (rm := rm) (Q := fun v h L => Q v h ∧ Fr n0 L) C hZ w4 w3 hf hlo) q1 q3 (g := mkF m pc L (argsL.reverse ++ .ref a :: rest)) rfl (by rw [hm]; exact hL) (Steps.refl _) (argsL := argsL) (rest := rest) (lenOf hpd hl) rfl (by show 2 * 0 + _ ≤ _; omega) (Jvm.hb hb hd) (fun _ _ => ⟨rfl, eT, hc, hs⟩)
  dsimp only [Pt.U, Pt.locs, Pt.cells, Pt.slots] at X' l' y' z' st' hQ
  subst l' y' z'
  refine ⟨v, T'.heap, hQ.1, fun S' e => ?_⟩
  subst e
  exact ⟨⟨hx, hb, hm, hZ, ho, hret, hlk, hn0⟩, T', _, X', rfl, Fr.app N hQ.2, fun t q => st t (st'.trans q)⟩
theorem Go.initO {a : Addr} {index : Nat} (G : Go p l e R s m args below meth c Z own bytes maxL ret n0 s₀ h k j pc L (.ref a :: S)) (w1 : (Cond.methodLink own index Lib.objectInit).before a0 Z = true) (w2 : (Cond.instanceMethod Lib.objectInit).before a0 Z = true) (w3 : (Cond.code Lib.objectInit Jvm.LibCode.Object.Init0.code 1 none).before a0 Z = true) (hd : decode bytes pc = .ok (.invokespecial index, 3)) {W : Nat} (hW : (S.map fun v => v.category).sum = W) (hL : L.size = maxL) (hf : 1 ≤ R.frames) (hlo : W + 12 ≤ R.locals) {pc' : Nat} (hp : pc + 3 = pc' := by rfl) : Go p l e R s m args below meth c Z own bytes maxL ret n0 s₀ h k j pc' L S := by
  subst hp
  obtain ⟨⟨hx, hb, hm, hZ, ho, r⟩, T, locs, X, eT, N, st⟩ := G
  obtain ⟨T', X', e', st'⟩ := Jvm.RoadKit.initO X hx hZ ho w1 w2 w3 eT (g := mkF m pc L (.ref a :: S)) rfl (by rw [hm]; exact hL) rfl (Jvm.hb hb hd) hf (W := W) (by show 2 * 0 + _ ≤ _; omega) hlo
  exact ⟨⟨hx, hb, hm, hZ, ho, r⟩, T', locs, X', e', N, fun t q => st t (st' t q)⟩
theorem Go.newO {C : String} {index n : Nat} (G : Go p l e R s m args below meth c Z own bytes maxL ret n0 s₀ h k j pc L S) (w1 : (Cond.classLink own index C).before a0 Z = true) (w2 : (Cond.instantiable C n).before a0 Z = true) (w3 : (Cond.initialized C).before a0 Z = true) (hd : decode bytes pc = .ok (.new index, 3)) {pc' k' j' : Nat} (hp : pc + 3 = pc') (hk : k + 1 = k') (hj : j + n = j') (hc : k' ≤ R.cells) (hl : j' ≤ R.slots) :
    ∃ a h', a = h.size ∧ n0 ≤ a ∧ Ext h h' ∧ Exa Z h' a C ∧ (∀ {O nm d : String} {ty : FieldType}, Laid Z a0 C O nm d → parseFieldDescriptor d = some ty → Fld Z h' a O nm d (defaultValue ty)) ∧ Go p l e R s m args below meth c Z own bytes maxL ret n0 s₀ h' k' j' pc' L (.ref a :: S) := by
  have hsz := G.size
  subst hp hk hj
  obtain ⟨⟨hx, hb, hm, hZ, ho, r⟩, T, locs, X, eT, N, st⟩ := G
  obtain ⟨T2, h2, X2, e2, E2, A2, D2, -, st2⟩ := Jvm.RoadKit.newO X hx hZ ho w1 w2 w3 eT (g := mkF m pc L S) rfl (Jvm.hb hb hd) hc hl
  exact ⟨h.size, h2, rfl, hsz, E2, A2, D2, ⟨hx, hb, hm, hZ, ho, r⟩, T2, locs, X2, e2, N, fun t q => st t (st2 t q)⟩
theorem Go.getF {a : Addr} {R0 O n d host : String} {index : Nat} {v : Value} (G : Go p l e R s m args below meth c Z own bytes maxL ret n0 s₀ h k j pc L (.ref a :: S)) (w : (Cond.fieldLink own index R0 n d).before a0 Z = true ∨ (Cond.fieldLinkNest own index R0 n d host).before a0 Z = true) (via : Via Z R0 O n d) (F : Fld Z h a O n d v) (hd : decode bytes pc = .ok (.getfield index, 3)) {pc' : Nat} (hp : pc + 3 = pc' := by rfl) : Go p l e R s m args below meth c Z own bytes maxL ret n0 s₀ h k j pc' L (v :: S) := by
  subst hp
  obtain ⟨⟨hx, hb, hm, hZ, ho, r⟩, T, locs, X, eT, N, st⟩ := G
  obtain ⟨T', X', e', st'⟩ := Jvm.RoadKit.getF X hx hZ ho w via eT F (g := mkF m pc L (.ref a :: S)) rfl rfl (Jvm.hb hb hd)
  exact ⟨⟨hx, hb, hm, hZ, ho, r⟩, T', locs, X', e', N, fun t q => st t (st' t q)⟩
theorem Go.putF {a : Addr} {R0 O n d host C : String} {index kk : Nat} {ty : FieldType} {v old : Value} (G : Go p l e R s m args below meth c Z own bytes maxL ret n0 s₀ h k j pc L (v :: .ref a :: S)) (w : (Cond.fieldLink own index R0 n d).before a0 Z = true ∨ (Cond.fieldLinkNest own index R0 n d host).before a0 Z = true) (via : Via Z R0 O n d) (F : Fld Z h a O n d old) (E : Exa Z h a C) (ha : n0 ≤ a) (Ly : (Cond.lays C O n d).before a0 Z = true ∨ ((Cond.laysFinal C O n d).before a0 Z = true ∧ own = O ∧ meth.name = "<init>")) (wi : (Cond.instantiable C kk).before a0 Z = true) (hty : parseFieldDescriptor d = some ty) (hn : narrow ty v = v) (hf : fits ty v = true) (hd : decode bytes pc = .ok (.putfield index, 3)) {pc' : Nat} (hp : pc + 3 = pc' := by rfl) :
    ∃ h', Wr h h' a (Jvm.RoadKit.slotOf Z O n d) v ∧ Go p l e R s m args below meth c Z own bytes maxL ret n0 s₀ h' k j pc' L S := by
  subst hp
  obtain ⟨⟨hx, hb, hm, hZ, ho, r⟩, T, locs, X, eT, N, st⟩ := G
  obtain ⟨T', h', X', e', W', st'⟩ := Jvm.RoadKit.putF X hx hZ ho w via eT F E Ly wi hty hn hf (g := mkF m pc L (v :: .ref a :: S)) rfl rfl (Jvm.hb hb hd)
  exact ⟨h', W', ⟨hx, hb, hm, hZ, ho, r⟩, T', _, X', e', Fr.snoc X' N ha, fun t q => st t (st' t q)⟩
/-- an array of that kind whose places hold these values -/
def Av (Z : State) (h : Heap) (a : Addr) (ty : FieldType) (vs : List Value) : Prop := ∃ c : Cell, Arr Z h a c ty ∧ c.slots.toList = vs ∧ vs.length < 2 ^ 31 ∧ ∀ v ∈ vs, fits ty v = true
theorem Av.lt {a : Addr} {ty : FieldType} {vs : List Value} (A : Av Z h a ty vs) : a < h.size := by obtain ⟨c, A, -⟩ := A; exact A.lt
theorem Av.len {a : Addr} {ty : FieldType} {vs : List Value} (A : Av Z h a ty vs) : vs.length < 2 ^ 31 := by obtain ⟨c, _, _, q, _⟩ := A; exact q
theorem Av.fit {a : Addr} {ty : FieldType} {vs : List Value} (A : Av Z h a ty vs) : ∀ v ∈ vs, fits ty v = true := by obtain ⟨c, _, _, _, q⟩ := A; exact q
theorem Av.ext {h' : Heap} {a : Addr} {ty : FieldType} {vs : List Value} (A : Av Z h a ty vs) (E : Ext h h') : Av Z h' a ty vs := by obtain ⟨c, A, q⟩ := A; exact ⟨c, A.ext E, q⟩
theorem Av.other {h' : Heap} {a b : Addr} {sl : Nat} {v : Value} {ty : FieldType} {vs : List Value} (A : Av Z h b ty vs) (W : Wr h h' a sl v) (q : b ≠ a) : Av Z h' b ty vs := by obtain ⟨c, A, r⟩ := A; exact ⟨c, A.other W q, r⟩
theorem Av.keep {h' : Heap} {a : Addr} {ws : List Addr} {ty : FieldType} {vs : List Value} (A : Av Z h a ty vs) (K : Keep h h' ws) (q : a ∉ ws) : Av Z h' a ty vs := by obtain ⟨c, A, r⟩ := A; exact ⟨c, ⟨K.2.1 a c A.1 q, A.2⟩, r⟩
theorem Av.set {h' : Heap} {a : Addr} {i : Nat} {v : Value} {ty : FieldType} {vs : List Value} (A : Av Z h a ty vs) (W : Wr h h' a i v) (hf : fits ty v = true) : Av Z h' a ty (vs.set i v) := by
  obtain ⟨c, A, rfl, r, f⟩ := A
  exact ⟨c.setSlot i v, A.same W, by simp [Cell.setSlot], by simpa using r, fun x hx => (List.mem_or_eq_of_mem_set hx).elim (f x) fun q => q ▸ hf⟩
theorem idx_of {x : Int32} {i n : Nat} (hx : x.toInt = (i : Int)) (hi : i < n) : ¬ (x < 0 ∨ n ≤ x.toNatClampNeg) ∧ x.toNatClampNeg = i := by
  have e : x.toNatClampNeg = i := by show x.toInt.toNat = i; omega
  refine ⟨?_, e⟩
  rw [e, Int32.lt_iff_toInt_lt, hx]
  show ¬ (((i : Nat) : Int) < 0 ∨ n ≤ i)
  omega
theorem Go.newA {n : Int32} {aty : ArrayType} {ty : FieldType} {dv : Value} {N cap : Nat} (G : Go p l e R s m args below meth c Z own bytes maxL ret n0 s₀ h k j pc L (.int n :: S)) (w : (Cond.arrayClass ty).before a0 Z = true) (hd : decode bytes pc = .ok (.newarray aty, 2)) (hty : newarray.typeOf aty = ty) (hdv : defaultValue ty = dv) (hn : n.toInt = (N : Int)) (hN : N ≤ cap) (hb : cap * 8 ≤ 536870912) {pc' k' j' : Nat} (hp : pc + 2 = pc') (hk : k + 1 = k') (hj : j + cap = j') (hc : k' ≤ R.cells) (hl : j' ≤ R.slots) :
    ∃ a h', a = h.size ∧ n0 ≤ a ∧ Ext h h' ∧ Av Z h' a ty (List.replicate N dv) ∧ Go p l e R s m args below meth c Z own bytes maxL ret n0 s₀ h' k' j' pc' L (.ref a :: S) := by
  have hsz := G.size
  have e1 : n.toNatClampNeg = N := by show n.toInt.toNat = N; omega
  have e2 := n.toInt_lt
  subst hp hk hj hty hdv
  obtain ⟨⟨hx, hb', hm, hZ, ho, r⟩, T, locs, X, eT, N', st⟩ := G
  obtain ⟨T2, h2, cA, X2, e3, E2, A2, st2⟩ := Jvm.RoadKit.newP X hx hZ w eT (g := mkF m pc L (.int n :: S)) rfl (Jvm.hb hb' hd) rfl (by rw [Int32.lt_iff_toInt_lt, hn]; show ¬ ((N : Nat) : Int) < 0; omega) (cap := cap) (by rw [e1]; exact hN) hb hc hl
  exact ⟨h.size, h2, rfl, hsz, E2, ⟨_, A2, by rw [Jvm.RoadKit.newA, e1]; simp, by rw [List.length_replicate]; omega, fun v hv => by rw [List.eq_of_mem_replicate hv]; cases aty <;> rfl⟩, ⟨hx, hb', hm, hZ, ho, r⟩, T2, locs, X2, e3, N', fun t q => st t (st2 t q)⟩
theorem Go.stI {a : Addr} {x : Int32} {y : Int32} {i : Nat} {vs : List Value} (G : Go p l e R s m args below meth c Z own bytes maxL ret n0 s₀ h k j pc L (.int x :: .int y :: .ref a :: S)) (A : Av Z h a .int vs) (ha : n0 ≤ a) (hy : y.toInt = (i : Int)) (hi : i < vs.length) (hd : decode bytes pc = .ok (.iastore, 1)) {pc' : Nat} (hp : pc + 1 = pc' := by rfl) :
    ∃ h', Wr h h' a i (.int x) ∧ Av Z h' a .int (vs.set i (.int x)) ∧ Go p l e R s m args below meth c Z own bytes maxL ret n0 s₀ h' k j pc' L S := by
  have A0 := A
  obtain ⟨cl, Ar, rfl, hlen, -⟩ := A
  rw [Array.length_toList] at hi
  have ⟨i1, i2⟩ := idx_of hy hi
  subst hp
  obtain ⟨⟨hx, hb, hm, hZ, ho, r⟩, T, locs, X, eT, N, st⟩ := G
  obtain ⟨T', h', X', e', W', st'⟩ := Jvm.RoadKit.stI X hx hZ eT Ar i1 (g := mkF m pc L (.int x :: .int y :: .ref a :: S)) rfl rfl (Jvm.hb hb hd)
  have N' := Fr.snoc X' N ha
  rw [i2] at W'
  exact ⟨h', W', A0.set W' rfl, ⟨hx, hb, hm, hZ, ho, r⟩, T', _, X', e', N', fun t q => st t (st' t q)⟩
theorem Go.stJ {a : Addr} {x : Int64} {y : Int32} {i : Nat} {vs : List Value} (G : Go p l e R s m args below meth c Z own bytes maxL ret n0 s₀ h k j pc L (.long x :: .int y :: .ref a :: S)) (A : Av Z h a .long vs) (ha : n0 ≤ a) (hy : y.toInt = (i : Int)) (hi : i < vs.length) (hd : decode bytes pc = .ok (.lastore, 1)) {pc' : Nat} (hp : pc + 1 = pc' := by rfl) :
    ∃ h', Wr h h' a i (.long x) ∧ Av Z h' a .long (vs.set i (.long x)) ∧ Go p l e R s m args below meth c Z own bytes maxL ret n0 s₀ h' k j pc' L S := by
  have A0 := A
  obtain ⟨cl, Ar, rfl, hlen, -⟩ := A
  rw [Array.length_toList] at hi
  have ⟨i1, i2⟩ := idx_of hy hi
  subst hp
  obtain ⟨⟨hx, hb, hm, hZ, ho, r⟩, T, locs, X, eT, N, st⟩ := G
  obtain ⟨T', h', X', e', W', st'⟩ := Jvm.RoadKit.stJ X hx hZ eT Ar i1 (g := mkF m pc L (.long x :: .int y :: .ref a :: S)) rfl rfl (Jvm.hb hb hd)
  have N' := Fr.snoc X' N ha
  rw [i2] at W'
  exact ⟨h', W', A0.set W' rfl, ⟨hx, hb, hm, hZ, ho, r⟩, T', _, X', e', N', fun t q => st t (st' t q)⟩
theorem Go.stB {a : Addr} {x : Int32} {y : Int32} {i : Nat} {vs : List Value} (G : Go p l e R s m args below meth c Z own bytes maxL ret n0 s₀ h k j pc L (.int x :: .int y :: .ref a :: S)) (A : Av Z h a .byte vs) (ha : n0 ≤ a) (hy : y.toInt = (i : Int)) (hi : i < vs.length) (hd : decode bytes pc = .ok (.bastore, 1)) {pc' : Nat} (hp : pc + 1 = pc' := by rfl) :
    ∃ h', Wr h h' a i (.int (nar .byte x)) ∧ Av Z h' a .byte (vs.set i (.int (nar .byte x))) ∧ Go p l e R s m args below meth c Z own bytes maxL ret n0 s₀ h' k j pc' L S := by
  have A0 := A
  obtain ⟨cl, Ar, rfl, hlen, -⟩ := A
  rw [Array.length_toList] at hi
  have ⟨i1, i2⟩ := idx_of hy hi
  subst hp
  obtain ⟨⟨hx, hb, hm, hZ, ho, r⟩, T, locs, X, eT, N, st⟩ := G
  obtain ⟨T', h', X', e', W', st'⟩ := Jvm.RoadKit.stB X hx hZ eT Ar i1 (g := mkF m pc L (.int x :: .int y :: .ref a :: S)) rfl rfl (Jvm.hb hb hd)
  have N' := Fr.snoc X' N ha
  rw [i2] at W'
  exact ⟨h', W', A0.set W' (fits_nar_byte x), ⟨hx, hb, hm, hZ, ho, r⟩, T', _, X', e', N', fun t q => st t (st' t q)⟩
theorem Go.ldI {a : Addr} {v : Value} {y : Int32} {i : Nat} {vs : List Value} (G : Go p l e R s m args below meth c Z own bytes maxL ret n0 s₀ h k j pc L (.int y :: .ref a :: S)) (A : Av Z h a .int vs) (hy : y.toInt = (i : Int)) (hv : vs[i]? = some v) (hd : decode bytes pc = .ok (.iaload, 1)) {pc' : Nat} (hp : pc + 1 = pc' := by rfl) : Go p l e R s m args below meth c Z own bytes maxL ret n0 s₀ h k j pc' L (v :: S) := by
  obtain ⟨cl, Ar, rfl, hlen, -⟩ := A
  have hi : i < cl.slots.size := by rw [← Array.length_toList]; exact (List.getElem?_eq_some_iff.mp hv).1
  have ⟨i1, i2⟩ := idx_of hy hi
  rw [Array.getElem?_toList] at hv
  subst hp
  obtain ⟨⟨hx, hb, hm, hZ, ho, r⟩, T, locs, X, eT, N, st⟩ := G
  exact ⟨⟨hx, hb, hm, hZ, ho, r⟩, T, locs, X, eT, N, fun t q => st t (X.iaload hx (j := y) (v := v) (by rw [eT]; exact Ar.1) (State.isArrayOf_alike hZ.alike Ar.2.1) Ar.2.2 i1 (by rw [i2]; exact hv) (g := mkF m pc L (.int y :: .ref a :: S)) rfl rfl (Jvm.hb hb hd) t q)⟩
theorem Go.ldJ {a : Addr} {v : Value} {y : Int32} {i : Nat} {vs : List Value} (G : Go p l e R s m args below meth c Z own bytes maxL ret n0 s₀ h k j pc L (.int y :: .ref a :: S)) (A : Av Z h a .long vs) (hy : y.toInt = (i : Int)) (hv : vs[i]? = some v) (hd : decode bytes pc = .ok (.laload, 1)) {pc' : Nat} (hp : pc + 1 = pc' := by rfl) : Go p l e R s m args below meth c Z own bytes maxL ret n0 s₀ h k j pc' L (v :: S) := by
  obtain ⟨cl, Ar, rfl, hlen, -⟩ := A
  have hi : i < cl.slots.size := by rw [← Array.length_toList]; exact (List.getElem?_eq_some_iff.mp hv).1
  have ⟨i1, i2⟩ := idx_of hy hi
  rw [Array.getElem?_toList] at hv
  subst hp
  obtain ⟨⟨hx, hb, hm, hZ, ho, r⟩, T, locs, X, eT, N, st⟩ := G
  exact ⟨⟨hx, hb, hm, hZ, ho, r⟩, T, locs, X, eT, N, fun t q => st t (X.laload hx (j := y) (v := v) (by rw [eT]; exact Ar.1) (State.isArrayOf_alike hZ.alike Ar.2.1) Ar.2.2 i1 (by rw [i2]; exact hv) (g := mkF m pc L (.int y :: .ref a :: S)) rfl rfl (Jvm.hb hb hd) t q)⟩
theorem Go.ldB {a : Addr} {v : Value} {y : Int32} {i : Nat} {vs : List Value} (G : Go p l e R s m args below meth c Z own bytes maxL ret n0 s₀ h k j pc L (.int y :: .ref a :: S)) (A : Av Z h a .byte vs) (hy : y.toInt = (i : Int)) (hv : vs[i]? = some v) (hd : decode bytes pc = .ok (.baload, 1)) {pc' : Nat} (hp : pc + 1 = pc' := by rfl) : Go p l e R s m args below meth c Z own bytes maxL ret n0 s₀ h k j pc' L (v :: S) := by
  obtain ⟨cl, Ar, rfl, hlen, -⟩ := A
  have hi : i < cl.slots.size := by rw [← Array.length_toList]; exact (List.getElem?_eq_some_iff.mp hv).1
  have ⟨i1, i2⟩ := idx_of hy hi
  rw [Array.getElem?_toList] at hv
  subst hp
  obtain ⟨⟨hx, hb, hm, hZ, ho, r⟩, T, locs, X, eT, N, st⟩ := G
  exact ⟨⟨hx, hb, hm, hZ, ho, r⟩, T, locs, X, eT, N, fun t q => st t (X.baloadBytes hx (j := y) (v := v) (by rw [eT]; exact Ar.1) (State.isArrayOf_alike hZ.alike Ar.2.1) Ar.2.2 i1 (by rw [i2]; exact hv) (g := mkF m pc L (.int y :: .ref a :: S)) rfl rfl (Jvm.hb hb hd) t q)⟩
theorem Go.arrlen {a : Addr} {ty : FieldType} {vs : List Value} (v : Int32) (G : Go p l e R s m args below meth c Z own bytes maxL ret n0 s₀ h k j pc L (.ref a :: S)) (A : Av Z h a ty vs) (hv : v.toInt = (vs.length : Int)) (hd : decode bytes pc = .ok (.arraylength, 1)) {pc' : Nat} (hp : pc + 1 = pc' := by rfl) : Go p l e R s m args below meth c Z own bytes maxL ret n0 s₀ h k j pc' L (.int v :: S) := by
  obtain ⟨cl, Ar, rfl, hlen, -⟩ := A
  have e1 : cl.slots.size.toInt32 = v := by
    rw [Array.length_toList] at hlen hv
    apply Int32.toInt_inj.mp
    rw [hv]
    exact Int32.toInt_ofNat_of_lt (by omega)
  subst hp e1
  obtain ⟨⟨hx, hb, hm, hZ, ho, r⟩, T, locs, X, eT, N, st⟩ := G
  exact ⟨⟨hx, hb, hm, hZ, ho, r⟩, T, locs, X, eT, N, fun t q => st t (X.arraylength hx (by rw [eT]; exact Ar.1) (State.isArrayOf_alike hZ.alike Ar.2.1) (g := mkF m pc L (.ref a :: S)) rfl rfl (Jvm.hb hb hd) t q)⟩
end OwnKit
end Jvm.OwnKit
namespace Jvm.Pilot.@@N@@
open Jvm Jvm.ClassFile Sem Op Lib Jvm.Free Jvm.Stand Jvm.LawKit Jvm.RoadKit Bundle Jvm.OwnKit Jvm.Pilot.@@N@@.Jvm.D
theorem d1_0 : decode method_3_code 0 = .ok (.iload_n 0, 1) := by decide +kernel
theorem d1_1 : decode method_3_code 1 = .ok (.iload_n 1, 1) := by decide +kernel
theorem d1_2 : decode method_3_code 2 = .ok (.if_icmp .ne 13, 3) := by decide +kernel
theorem d1_5 : decode method_3_code 5 = .ok (.iload_n 1, 1) := by decide +kernel
theorem d1_6 : decode method_3_code 6 = .ok (.ifCond .ne 7, 3) := by decide +kernel
theorem d1_9 : decode method_3_code 9 = .ok (.iconst 1, 1) := by decide +kernel
theorem d1_10 : decode method_3_code 10 = .ok (.goto 4, 3) := by decide +kernel
theorem d1_13 : decode method_3_code 13 = .ok (.iconst 0, 1) := by decide +kernel
theorem d1_14 : decode method_3_code 14 = .ok (.ireturn, 1) := by decide +kernel
theorem d1_15 : decode method_3_code 15 = .ok (.iload_n 0, 1) := by decide +kernel
theorem d1_16 : decode method_3_code 16 = .ok (.ireturn, 1) := by decide +kernel
theorem pn0 : plainName "com/example/reachway/reachway/NodeSetSlotPinLaw" = true := by first | (simp [plainName, overriddenIn]; done) | decide +kernel
theorem ef1 (m : MethodId) (x0 : Int32) (x1 : Int32) : entryFrame m #[(.int x0), (.int x1)] 2 = mkF m 0 #[.val (.int x0), .val (.int x1)] [] := by first | (simp [entryFrame, mkF, argsToLocals, Value.category]; done) | rfl
def fF (x0 : Int32) (x1 : Int32) : Int32 := (if x0 = x1 then (if x1 = (0 : Int32) then (1 : Int32) else (0 : Int32)) else x0)
def rm1 : Room := { frames := 0, cells := 0, slots := 0, locals := 0 }
set_option maxRecDepth 65536 in
set_option maxHeartbeats 40000000 in
theorem cn1 (l : Launch) (Z : State) (a0 : Array Value) (hw : ∀ d ∈ tables_1, d.before a0 Z = true) (x0 : Int32) (x1 : Int32) (h0 : Heap) (n0 : Nat) (hn : n0 ≤ h0.size) :
    Con l (⟨"com/example/reachway/reachway/NodeSetSlotPinLaw", "fix", "(II)I"⟩ : MethodName) method_3_code 2 (some .int) [] rm1 rm1.cells rm1.slots Z #[(.int x0), (.int x1)] h0 n0 (fun v h => v = some (.int (fF x0 x1)) ∧ h = h0) := by
  refine Con.of (plainFor_of_name pn0) hn (fun m => ef1 m x0 x1) ?_
  intro p e s m below meth c s₀ hnm G0
  have G1 := G0.iloadN (v := x0) (pc' := 1) d1_0 rfl
  have G2 := G1.iloadN (v := x1) (pc' := 2) d1_1 rfl
  by_cases c2_2 : x0 = x1
  · have G3 := G2.icmpN d1_2 5 (Jvm.Free.XT.ii_ne_f c2_2)
    have G4 := G3.iloadN (v := x1) (pc' := 6) d1_5 rfl
    by_cases c6_4 : x1 = (0 : Int32)
    · have G5 := G4.ifN d1_6 9 (Jvm.Free.XT.i0_ne_f c6_4)
      have G6 := G5.iconst (v := (1 : Int32)) (pc' := 10) d1_9
      have G7 := G6.goto d1_10 14
      exact G7.retI d1_14 rfl ⟨congrArg (fun z => some (Value.int z)) (by rw [fF, if_pos c2_2, if_pos c6_4]), rfl⟩
    · have G8 := G4.ifY d1_6 13 (Jvm.Free.XT.i0_ne_t c6_4)
      have G9 := G8.iconst (v := (0 : Int32)) (pc' := 14) d1_13
      exact G9.retI d1_14 rfl ⟨congrArg (fun z => some (Value.int z)) (by rw [fF, if_pos c2_2, if_neg c6_4]), rfl⟩
  · have G10 := G2.icmpY d1_2 15 (Jvm.Free.XT.ii_ne_t c2_2)
    have G11 := G10.iloadN (v := x0) (pc' := 16) d1_15 rfl
    exact G11.retI d1_16 rfl ⟨congrArg (fun z => some (Value.int z)) (by rw [fF, if_neg c2_2]), rfl⟩
theorem d2_0 : decode method_5_code 0 = .ok (.iload_n 0, 1) := by decide +kernel
theorem d2_1 : decode method_5_code 1 = .ok (.ifCond .ne 11, 3) := by decide +kernel
theorem d2_4 : decode method_5_code 4 = .ok (.iconst 1, 1) := by decide +kernel
theorem d2_5 : decode method_5_code 5 = .ok (.newarray .int, 2) := by decide +kernel
theorem d2_7 : decode method_5_code 7 = .ok (.dup, 1) := by decide +kernel
theorem d2_8 : decode method_5_code 8 = .ok (.iconst 0, 1) := by decide +kernel
theorem d2_9 : decode method_5_code 9 = .ok (.iconst (-1), 1) := by decide +kernel
theorem d2_10 : decode method_5_code 10 = .ok (.iastore, 1) := by decide +kernel
theorem d2_11 : decode method_5_code 11 = .ok (.areturn, 1) := by decide +kernel
theorem d2_12 : decode method_5_code 12 = .ok (.iload_n 0, 1) := by decide +kernel
theorem d2_13 : decode method_5_code 13 = .ok (.iconst 1, 1) := by decide +kernel
theorem d2_14 : decode method_5_code 14 = .ok (.if_icmp .ne 15, 3) := by decide +kernel
theorem d2_17 : decode method_5_code 17 = .ok (.iconst 2, 1) := by decide +kernel
theorem d2_18 : decode method_5_code 18 = .ok (.newarray .int, 2) := by decide +kernel
theorem d2_20 : decode method_5_code 20 = .ok (.dup, 1) := by decide +kernel
theorem d2_21 : decode method_5_code 21 = .ok (.iconst 0, 1) := by decide +kernel
theorem d2_22 : decode method_5_code 22 = .ok (.iconst (-1), 1) := by decide +kernel
theorem d2_23 : decode method_5_code 23 = .ok (.iastore, 1) := by decide +kernel
theorem d2_24 : decode method_5_code 24 = .ok (.dup, 1) := by decide +kernel
theorem d2_25 : decode method_5_code 25 = .ok (.iconst 1, 1) := by decide +kernel
theorem d2_26 : decode method_5_code 26 = .ok (.iconst (-1), 1) := by decide +kernel
theorem d2_27 : decode method_5_code 27 = .ok (.iastore, 1) := by decide +kernel
theorem d2_28 : decode method_5_code 28 = .ok (.areturn, 1) := by decide +kernel
theorem d2_29 : decode method_5_code 29 = .ok (.iload_n 0, 1) := by decide +kernel
theorem d2_30 : decode method_5_code 30 = .ok (.iconst 2, 1) := by decide +kernel
theorem d2_31 : decode method_5_code 31 = .ok (.if_icmp .ne 23, 3) := by decide +kernel
theorem d2_34 : decode method_5_code 34 = .ok (.iconst 4, 1) := by decide +kernel
theorem d2_35 : decode method_5_code 35 = .ok (.newarray .int, 2) := by decide +kernel
theorem d2_37 : decode method_5_code 37 = .ok (.dup, 1) := by decide +kernel
theorem d2_38 : decode method_5_code 38 = .ok (.iconst 0, 1) := by decide +kernel
theorem d2_39 : decode method_5_code 39 = .ok (.iconst (-1), 1) := by decide +kernel
theorem d2_40 : decode method_5_code 40 = .ok (.iastore, 1) := by decide +kernel
theorem d2_41 : decode method_5_code 41 = .ok (.dup, 1) := by decide +kernel
theorem d2_42 : decode method_5_code 42 = .ok (.iconst 1, 1) := by decide +kernel
theorem d2_43 : decode method_5_code 43 = .ok (.iconst (-1), 1) := by decide +kernel
theorem d2_44 : decode method_5_code 44 = .ok (.iastore, 1) := by decide +kernel
theorem d2_45 : decode method_5_code 45 = .ok (.dup, 1) := by decide +kernel
theorem d2_46 : decode method_5_code 46 = .ok (.iconst 2, 1) := by decide +kernel
theorem d2_47 : decode method_5_code 47 = .ok (.iconst (-1), 1) := by decide +kernel
theorem d2_48 : decode method_5_code 48 = .ok (.iastore, 1) := by decide +kernel
theorem d2_49 : decode method_5_code 49 = .ok (.dup, 1) := by decide +kernel
theorem d2_50 : decode method_5_code 50 = .ok (.iconst 3, 1) := by decide +kernel
theorem d2_51 : decode method_5_code 51 = .ok (.iconst (-1), 1) := by decide +kernel
theorem d2_52 : decode method_5_code 52 = .ok (.iastore, 1) := by decide +kernel
theorem d2_53 : decode method_5_code 53 = .ok (.areturn, 1) := by decide +kernel
theorem d2_54 : decode method_5_code 54 = .ok (.bipush 8, 2) := by decide +kernel
theorem d2_56 : decode method_5_code 56 = .ok (.newarray .int, 2) := by decide +kernel
theorem d2_58 : decode method_5_code 58 = .ok (.dup, 1) := by decide +kernel
theorem d2_59 : decode method_5_code 59 = .ok (.iconst 0, 1) := by decide +kernel
theorem d2_60 : decode method_5_code 60 = .ok (.iconst (-1), 1) := by decide +kernel
theorem d2_61 : decode method_5_code 61 = .ok (.iastore, 1) := by decide +kernel
theorem d2_62 : decode method_5_code 62 = .ok (.dup, 1) := by decide +kernel
theorem d2_63 : decode method_5_code 63 = .ok (.iconst 1, 1) := by decide +kernel
theorem d2_64 : decode method_5_code 64 = .ok (.iconst (-1), 1) := by decide +kernel
theorem d2_65 : decode method_5_code 65 = .ok (.iastore, 1) := by decide +kernel
theorem d2_66 : decode method_5_code 66 = .ok (.dup, 1) := by decide +kernel
theorem d2_67 : decode method_5_code 67 = .ok (.iconst 2, 1) := by decide +kernel
theorem d2_68 : decode method_5_code 68 = .ok (.iconst (-1), 1) := by decide +kernel
theorem d2_69 : decode method_5_code 69 = .ok (.iastore, 1) := by decide +kernel
theorem d2_70 : decode method_5_code 70 = .ok (.dup, 1) := by decide +kernel
theorem d2_71 : decode method_5_code 71 = .ok (.iconst 3, 1) := by decide +kernel
theorem d2_72 : decode method_5_code 72 = .ok (.iconst (-1), 1) := by decide +kernel
theorem d2_73 : decode method_5_code 73 = .ok (.iastore, 1) := by decide +kernel
theorem d2_74 : decode method_5_code 74 = .ok (.dup, 1) := by decide +kernel
theorem d2_75 : decode method_5_code 75 = .ok (.iconst 4, 1) := by decide +kernel
theorem d2_76 : decode method_5_code 76 = .ok (.iconst (-1), 1) := by decide +kernel
theorem d2_77 : decode method_5_code 77 = .ok (.iastore, 1) := by decide +kernel
theorem d2_78 : decode method_5_code 78 = .ok (.dup, 1) := by decide +kernel
theorem d2_79 : decode method_5_code 79 = .ok (.iconst 5, 1) := by decide +kernel
theorem d2_80 : decode method_5_code 80 = .ok (.iconst (-1), 1) := by decide +kernel
theorem d2_81 : decode method_5_code 81 = .ok (.iastore, 1) := by decide +kernel
theorem d2_82 : decode method_5_code 82 = .ok (.dup, 1) := by decide +kernel
theorem d2_83 : decode method_5_code 83 = .ok (.bipush 6, 2) := by decide +kernel
theorem d2_85 : decode method_5_code 85 = .ok (.iconst (-1), 1) := by decide +kernel
theorem d2_86 : decode method_5_code 86 = .ok (.iastore, 1) := by decide +kernel
theorem d2_87 : decode method_5_code 87 = .ok (.dup, 1) := by decide +kernel
theorem d2_88 : decode method_5_code 88 = .ok (.bipush 7, 2) := by decide +kernel
theorem d2_90 : decode method_5_code 90 = .ok (.iconst (-1), 1) := by decide +kernel
theorem d2_91 : decode method_5_code 91 = .ok (.iastore, 1) := by decide +kernel
theorem d2_92 : decode method_5_code 92 = .ok (.areturn, 1) := by decide +kernel
def own_2 (x : Int32) : Nat := 2 ^ x.toInt.toNat
theorem own_3 (x : Int32) (hx : 0 ≤ x.toInt ∧ x.toInt ≤ 3) (h0 : ¬ x = 0) (h1 : ¬ x = 1) (h2 : ¬ x = 2) : x = 3 := by
  have a0 : ¬ x.toInt = 0 := fun q => h0 (Int32.toInt_inj.mp q)
  have a1 : ¬ x.toInt = 1 := fun q => h1 (Int32.toInt_inj.mp q)
  have a2 : ¬ x.toInt = 2 := fun q => h2 (Int32.toInt_inj.mp q)
  exact Int32.toInt_inj.mp (show x.toInt = 3 by omega)
theorem ef2 (m : MethodId) (x0 : Int32) : entryFrame m #[(.int x0)] 1 = mkF m 0 #[.val (.int x0)] [] := by first | (simp [entryFrame, mkF, argsToLocals, Value.category]; done) | rfl
def rm2 : Room := { frames := 0, cells := 1, slots := 8, locals := 0 }
set_option maxRecDepth 65536 in
set_option maxHeartbeats 40000000 in
theorem cn2 (l : Launch) (Z : State) (a0 : Array Value) (hw : ∀ d ∈ tables_1, d.before a0 Z = true) (x0 : Int32) (h0 : Heap) (n0 : Nat) (hn : n0 ≤ h0.size) (hx : 0 ≤ x0.toInt ∧ x0.toInt ≤ 3) :
    Con l (⟨"com/example/reachway/reachway/NodeSetSlotPinLaw", "freeTable", "(I)[I"⟩ : MethodName) method_5_code 1 (some (.array .int)) [] rm2 rm2.cells rm2.slots Z #[(.int x0)] h0 n0 (fun v h => ∃ a : Addr, v = some (.ref a) ∧ Keep h0 h [] ∧ h0.size ≤ a ∧ Av Z h a .int (List.replicate (own_2 x0) (.int (-1 : Int32)))) := by
  refine Con.of (plainFor_of_name pn0) hn (fun m => ef2 m x0) ?_
  intro p e s m below meth c s₀ hnm G0
  have K0 : Keep h0 h0 [] := Keep.refl _ _
  have G1 := G0.iloadN (v := x0) (pc' := 1) d2_0 rfl
  by_cases c1_1 : x0 = (0 : Int32)
  · have G2 := G1.ifN d2_1 4 (Jvm.Free.XT.i0_ne_f c1_1)
    have G3 := G2.iconst (v := (1 : Int32)) (pc' := 5) d2_4
    obtain ⟨a4, h4, ea4, g_a4, X4, V4, G4⟩ := G3.newA (ty := .int) (dv := (.int (0 : Int32))) (N := 1) (cap := 1) (pc' := 7) (k' := 1) (j' := 1) (hw _ (List.mem_of_getElem? (i := 8) rfl)) d2_5 rfl rfl (by decide) (by decide) (by decide) rfl rfl rfl (by decide) (by decide)
    have sz4 : h0.size ≤ a4 := by rw [ea4]; exact K0.1
    have K5 : Keep h0 h4 [] := K0.ext X4
    have V6 : Av Z h4 a4 .int [(.int (0 : Int32))] := V4
    have G7 := G4.dup (pc' := 8) d2_7
    have G8 := G7.iconst (v := (0 : Int32)) (pc' := 9) d2_8
    have G9 := G8.iconst (v := (-1 : Int32)) (pc' := 10) d2_9
    obtain ⟨h10, W10, V10, G10⟩ := G9.stI (i := 0) (pc' := 11) V6 g_a4 (by decide) (by show 0 < 1; decide) d2_10
    have K11 : Keep h0 h10 [] := K5.wr W10 (Or.inr sz4)
    have V12 : Av Z h10 a4 .int [(.int (-1 : Int32))] := V10
    have ex : x0 = (0 : Int32) := c1_1
    exact G10.retA d2_11 rfl rfl rfl ⟨a4, rfl, K11, sz4, by rw [ex]; exact V12⟩
  · have G13 := G1.ifY d2_1 12 (Jvm.Free.XT.i0_ne_t c1_1)
    have G14 := G13.iloadN (v := x0) (pc' := 13) d2_12 rfl
    have G15 := G14.iconst (v := (1 : Int32)) (pc' := 14) d2_13
    by_cases c14_15 : x0 = (1 : Int32)
    · have G16 := G15.icmpN d2_14 17 (Jvm.Free.XT.ii_ne_f c14_15)
      have G17 := G16.iconst (v := (2 : Int32)) (pc' := 18) d2_17
      obtain ⟨a18, h18, ea18, g_a18, X18, V18, G18⟩ := G17.newA (ty := .int) (dv := (.int (0 : Int32))) (N := 2) (cap := 2) (pc' := 20) (k' := 1) (j' := 2) (hw _ (List.mem_of_getElem? (i := 8) rfl)) d2_18 rfl rfl (by decide) (by decide) (by decide) rfl rfl rfl (by decide) (by decide)
      have sz18 : h0.size ≤ a18 := by rw [ea18]; exact K0.1
      have K19 : Keep h0 h18 [] := K0.ext X18
      have V20 : Av Z h18 a18 .int [(.int (0 : Int32)), (.int (0 : Int32))] := V18
      have G21 := G18.dup (pc' := 21) d2_20
      have G22 := G21.iconst (v := (0 : Int32)) (pc' := 22) d2_21
      have G23 := G22.iconst (v := (-1 : Int32)) (pc' := 23) d2_22
      obtain ⟨h24, W24, V24, G24⟩ := G23.stI (i := 0) (pc' := 24) V20 g_a18 (by decide) (by show 0 < 2; decide) d2_23
      have K25 : Keep h0 h24 [] := K19.wr W24 (Or.inr sz18)
      have V26 : Av Z h24 a18 .int [(.int (-1 : Int32)), (.int (0 : Int32))] := V24
      have G27 := G24.dup (pc' := 25) d2_24
      have G28 := G27.iconst (v := (1 : Int32)) (pc' := 26) d2_25
      have G29 := G28.iconst (v := (-1 : Int32)) (pc' := 27) d2_26
      obtain ⟨h30, W30, V30, G30⟩ := G29.stI (i := 1) (pc' := 28) V26 g_a18 (by decide) (by show 1 < 2; decide) d2_27
      have K31 : Keep h0 h30 [] := K25.wr W30 (Or.inr sz18)
      have V32 : Av Z h30 a18 .int [(.int (-1 : Int32)), (.int (-1 : Int32))] := V30
      have ex : x0 = (1 : Int32) := c14_15
      exact G30.retA d2_28 rfl rfl rfl ⟨a18, rfl, K31, sz18, by rw [ex]; exact V32⟩
    · have G33 := G15.icmpY d2_14 29 (Jvm.Free.XT.ii_ne_t c14_15)
      have G34 := G33.iloadN (v := x0) (pc' := 30) d2_29 rfl
      have G35 := G34.iconst (v := (2 : Int32)) (pc' := 31) d2_30
      by_cases c31_35 : x0 = (2 : Int32)
      · have G36 := G35.icmpN d2_31 34 (Jvm.Free.XT.ii_ne_f c31_35)
        have G37 := G36.iconst (v := (4 : Int32)) (pc' := 35) d2_34
        obtain ⟨a38, h38, ea38, g_a38, X38, V38, G38⟩ := G37.newA (ty := .int) (dv := (.int (0 : Int32))) (N := 4) (cap := 4) (pc' := 37) (k' := 1) (j' := 4) (hw _ (List.mem_of_getElem? (i := 8) rfl)) d2_35 rfl rfl (by decide) (by decide) (by decide) rfl rfl rfl (by decide) (by decide)
        have sz38 : h0.size ≤ a38 := by rw [ea38]; exact K0.1
        have K39 : Keep h0 h38 [] := K0.ext X38
        have V40 : Av Z h38 a38 .int [(.int (0 : Int32)), (.int (0 : Int32)), (.int (0 : Int32)), (.int (0 : Int32))] := V38
        have G41 := G38.dup (pc' := 38) d2_37
        have G42 := G41.iconst (v := (0 : Int32)) (pc' := 39) d2_38
        have G43 := G42.iconst (v := (-1 : Int32)) (pc' := 40) d2_39
        obtain ⟨h44, W44, V44, G44⟩ := G43.stI (i := 0) (pc' := 41) V40 g_a38 (by decide) (by show 0 < 4; decide) d2_40
        have K45 : Keep h0 h44 [] := K39.wr W44 (Or.inr sz38)
        have V46 : Av Z h44 a38 .int [(.int (-1 : Int32)), (.int (0 : Int32)), (.int (0 : Int32)), (.int (0 : Int32))] := V44
        have G47 := G44.dup (pc' := 42) d2_41
        have G48 := G47.iconst (v := (1 : Int32)) (pc' := 43) d2_42
        have G49 := G48.iconst (v := (-1 : Int32)) (pc' := 44) d2_43
        obtain ⟨h50, W50, V50, G50⟩ := G49.stI (i := 1) (pc' := 45) V46 g_a38 (by decide) (by show 1 < 4; decide) d2_44
        have K51 : Keep h0 h50 [] := K45.wr W50 (Or.inr sz38)
        have V52 : Av Z h50 a38 .int [(.int (-1 : Int32)), (.int (-1 : Int32)), (.int (0 : Int32)), (.int (0 : Int32))] := V50
        have G53 := G50.dup (pc' := 46) d2_45
        have G54 := G53.iconst (v := (2 : Int32)) (pc' := 47) d2_46
        have G55 := G54.iconst (v := (-1 : Int32)) (pc' := 48) d2_47
        obtain ⟨h56, W56, V56, G56⟩ := G55.stI (i := 2) (pc' := 49) V52 g_a38 (by decide) (by show 2 < 4; decide) d2_48
        have K57 : Keep h0 h56 [] := K51.wr W56 (Or.inr sz38)
        have V58 : Av Z h56 a38 .int [(.int (-1 : Int32)), (.int (-1 : Int32)), (.int (-1 : Int32)), (.int (0 : Int32))] := V56
        have G59 := G56.dup (pc' := 50) d2_49
        have G60 := G59.iconst (v := (3 : Int32)) (pc' := 51) d2_50
        have G61 := G60.iconst (v := (-1 : Int32)) (pc' := 52) d2_51
        obtain ⟨h62, W62, V62, G62⟩ := G61.stI (i := 3) (pc' := 53) V58 g_a38 (by decide) (by show 3 < 4; decide) d2_52
        have K63 : Keep h0 h62 [] := K57.wr W62 (Or.inr sz38)
        have V64 : Av Z h62 a38 .int [(.int (-1 : Int32)), (.int (-1 : Int32)), (.int (-1 : Int32)), (.int (-1 : Int32))] := V62
        have ex : x0 = (2 : Int32) := c31_35
        exact G62.retA d2_53 rfl rfl rfl ⟨a38, rfl, K63, sz38, by rw [ex]; exact V64⟩
      · have G65 := G35.icmpY d2_31 54 (Jvm.Free.XT.ii_ne_t c31_35)
        have G66 := G65.bipush (v := (8 : Int32)) (pc' := 56) d2_54
        obtain ⟨a67, h67, ea67, g_a67, X67, V67, G67⟩ := G66.newA (ty := .int) (dv := (.int (0 : Int32))) (N := 8) (cap := 8) (pc' := 58) (k' := 1) (j' := 8) (hw _ (List.mem_of_getElem? (i := 8) rfl)) d2_56 rfl rfl (by decide) (by decide) (by decide) rfl rfl rfl (by decide) (by decide)
        have sz67 : h0.size ≤ a67 := by rw [ea67]; exact K0.1
        have K68 : Keep h0 h67 [] := K0.ext X67
        have V69 : Av Z h67 a67 .int [(.int (0 : Int32)), (.int (0 : Int32)), (.int (0 : Int32)), (.int (0 : Int32)), (.int (0 : Int32)), (.int (0 : Int32)), (.int (0 : Int32)), (.int (0 : Int32))] := V67
        have G70 := G67.dup (pc' := 59) d2_58
        have G71 := G70.iconst (v := (0 : Int32)) (pc' := 60) d2_59
        have G72 := G71.iconst (v := (-1 : Int32)) (pc' := 61) d2_60
        obtain ⟨h73, W73, V73, G73⟩ := G72.stI (i := 0) (pc' := 62) V69 g_a67 (by decide) (by show 0 < 8; decide) d2_61
        have K74 : Keep h0 h73 [] := K68.wr W73 (Or.inr sz67)
        have V75 : Av Z h73 a67 .int [(.int (-1 : Int32)), (.int (0 : Int32)), (.int (0 : Int32)), (.int (0 : Int32)), (.int (0 : Int32)), (.int (0 : Int32)), (.int (0 : Int32)), (.int (0 : Int32))] := V73
        have G76 := G73.dup (pc' := 63) d2_62
        have G77 := G76.iconst (v := (1 : Int32)) (pc' := 64) d2_63
        have G78 := G77.iconst (v := (-1 : Int32)) (pc' := 65) d2_64
        obtain ⟨h79, W79, V79, G79⟩ := G78.stI (i := 1) (pc' := 66) V75 g_a67 (by decide) (by show 1 < 8; decide) d2_65
        have K80 : Keep h0 h79 [] := K74.wr W79 (Or.inr sz67)
        have V81 : Av Z h79 a67 .int [(.int (-1 : Int32)), (.int (-1 : Int32)), (.int (0 : Int32)), (.int (0 : Int32)), (.int (0 : Int32)), (.int (0 : Int32)), (.int (0 : Int32)), (.int (0 : Int32))] := V79
        have G82 := G79.dup (pc' := 67) d2_66
        have G83 := G82.iconst (v := (2 : Int32)) (pc' := 68) d2_67
        have G84 := G83.iconst (v := (-1 : Int32)) (pc' := 69) d2_68
        obtain ⟨h85, W85, V85, G85⟩ := G84.stI (i := 2) (pc' := 70) V81 g_a67 (by decide) (by show 2 < 8; decide) d2_69
        have K86 : Keep h0 h85 [] := K80.wr W85 (Or.inr sz67)
        have V87 : Av Z h85 a67 .int [(.int (-1 : Int32)), (.int (-1 : Int32)), (.int (-1 : Int32)), (.int (0 : Int32)), (.int (0 : Int32)), (.int (0 : Int32)), (.int (0 : Int32)), (.int (0 : Int32))] := V85
        have G88 := G85.dup (pc' := 71) d2_70
        have G89 := G88.iconst (v := (3 : Int32)) (pc' := 72) d2_71
        have G90 := G89.iconst (v := (-1 : Int32)) (pc' := 73) d2_72
        obtain ⟨h91, W91, V91, G91⟩ := G90.stI (i := 3) (pc' := 74) V87 g_a67 (by decide) (by show 3 < 8; decide) d2_73
        have K92 : Keep h0 h91 [] := K86.wr W91 (Or.inr sz67)
        have V93 : Av Z h91 a67 .int [(.int (-1 : Int32)), (.int (-1 : Int32)), (.int (-1 : Int32)), (.int (-1 : Int32)), (.int (0 : Int32)), (.int (0 : Int32)), (.int (0 : Int32)), (.int (0 : Int32))] := V91
        have G94 := G91.dup (pc' := 75) d2_74
        have G95 := G94.iconst (v := (4 : Int32)) (pc' := 76) d2_75
        have G96 := G95.iconst (v := (-1 : Int32)) (pc' := 77) d2_76
        obtain ⟨h97, W97, V97, G97⟩ := G96.stI (i := 4) (pc' := 78) V93 g_a67 (by decide) (by show 4 < 8; decide) d2_77
        have K98 : Keep h0 h97 [] := K92.wr W97 (Or.inr sz67)
        have V99 : Av Z h97 a67 .int [(.int (-1 : Int32)), (.int (-1 : Int32)), (.int (-1 : Int32)), (.int (-1 : Int32)), (.int (-1 : Int32)), (.int (0 : Int32)), (.int (0 : Int32)), (.int (0 : Int32))] := V97
        have G100 := G97.dup (pc' := 79) d2_78
        have G101 := G100.iconst (v := (5 : Int32)) (pc' := 80) d2_79
        have G102 := G101.iconst (v := (-1 : Int32)) (pc' := 81) d2_80
        obtain ⟨h103, W103, V103, G103⟩ := G102.stI (i := 5) (pc' := 82) V99 g_a67 (by decide) (by show 5 < 8; decide) d2_81
        have K104 : Keep h0 h103 [] := K98.wr W103 (Or.inr sz67)
        have V105 : Av Z h103 a67 .int [(.int (-1 : Int32)), (.int (-1 : Int32)), (.int (-1 : Int32)), (.int (-1 : Int32)), (.int (-1 : Int32)), (.int (-1 : Int32)), (.int (0 : Int32)), (.int (0 : Int32))] := V103
        have G106 := G103.dup (pc' := 83) d2_82
        have G107 := G106.bipush (v := (6 : Int32)) (pc' := 85) d2_83
        have G108 := G107.iconst (v := (-1 : Int32)) (pc' := 86) d2_85
        obtain ⟨h109, W109, V109, G109⟩ := G108.stI (i := 6) (pc' := 87) V105 g_a67 (by decide) (by show 6 < 8; decide) d2_86
        have K110 : Keep h0 h109 [] := K104.wr W109 (Or.inr sz67)
        have V111 : Av Z h109 a67 .int [(.int (-1 : Int32)), (.int (-1 : Int32)), (.int (-1 : Int32)), (.int (-1 : Int32)), (.int (-1 : Int32)), (.int (-1 : Int32)), (.int (-1 : Int32)), (.int (0 : Int32))] := V109
        have G112 := G109.dup (pc' := 88) d2_87
        have G113 := G112.bipush (v := (7 : Int32)) (pc' := 90) d2_88
        have G114 := G113.iconst (v := (-1 : Int32)) (pc' := 91) d2_90
        obtain ⟨h115, W115, V115, G115⟩ := G114.stI (i := 7) (pc' := 92) V111 g_a67 (by decide) (by show 7 < 8; decide) d2_91
        have K116 : Keep h0 h115 [] := K110.wr W115 (Or.inr sz67)
        have V117 : Av Z h115 a67 .int [(.int (-1 : Int32)), (.int (-1 : Int32)), (.int (-1 : Int32)), (.int (-1 : Int32)), (.int (-1 : Int32)), (.int (-1 : Int32)), (.int (-1 : Int32)), (.int (-1 : Int32))] := V115
        have ex : x0 = (3 : Int32) := (own_3 _ hx c1_1 c14_15 c31_35)
        exact G115.retA d2_92 rfl rfl rfl ⟨a67, rfl, K116, sz67, by rw [ex]; exact V117⟩
def own_h (x : Int32) : Int32 := (x * (-1640531527 : Int32)) ^^^ (((x * (-1640531527 : Int32)).toUInt32 >>> ((16 : Int32) &&& 31).toUInt32).toInt32)
def own_sig (x : Int32) (N : Nat) : Nat := ((own_h x).toInt % (N : Int)).toNat
def own_N (N : Nat) : Prop := N = 1 ∨ N = 2 ∨ N = 4 ∨ N = 8
theorem own_np {N : Nat} (h : own_N N) : 0 < N ∧ N ≤ 8 := by
  rcases h with rfl | rfl | rfl | rfl <;> decide
theorem own_bv (m : Int32) (N : Nat) (hN : N ≤ 8) (hp : 0 < N) (hm : m.toInt = (N : Int) - 1) : m.toBitVec.toNat = N - 1 := by
  have e : m.toInt = m.toBitVec.toInt := rfl
  have q := BitVec.toInt_eq_toNat_cond m.toBitVec
  have l := m.toBitVec.isLt
  rw [e, q] at hm
  split at hm <;> omega
theorem own_and (x m : Int32) (N : Nat) (hN : own_N N) (hm : m.toInt = (N : Int) - 1) : (x &&& m).toInt = x.toInt % (N : Int) := by
  have q := own_np hN
  have b := own_bv m N q.2 q.1 hm
  rcases hN with rfl | rfl | rfl | rfl
  · exact c_mask x m 0 (by decide) b
  · exact c_mask x m 1 (by decide) b
  · exact c_mask x m 2 (by decide) b
  · exact c_mask x m 3 (by decide) b
theorem own_sg (x : Int32) {N : Nat} (hN : own_N N) : own_sig x N < N := by
  have q := own_np hN
  have := Int.emod_lt_of_pos (own_h x).toInt (show (0 : Int) < N by omega)
  have := Int.emod_nonneg (own_h x).toInt (show (N : Int) ≠ 0 by omega)
  unfold own_sig
  omega
theorem own_of (k : Nat) (h : k < 1000) : (Int32.ofNat k).toInt = (k : Int) := Int32.toInt_ofNat_of_lt (by omega)
def own_P (σ N d : Nat) : Int32 := Int32.ofNat ((σ + d) % N)
theorem own_Pi (σ d : Nat) {N : Nat} (hN : own_N N) : (own_P σ N d).toInt = (((σ + d) % N : Nat) : Int) := by
  have q := own_np hN
  have := Nat.mod_lt (σ + d) q.1
  exact own_of _ (by omega)
theorem own_st (x m : Int32) (N : Nat) (hN : own_N N) (hm : m.toInt = (N : Int) - 1) : (own_h x &&& m) = own_P (own_sig x N) N 0 := by
  have q := own_np hN
  apply Int32.toInt_inj.mp
  rw [own_and _ _ _ hN hm, own_Pi _ _ hN, Nat.add_zero, Nat.mod_eq_of_lt (own_sg x hN)]
  have := Int.emod_nonneg (own_h x).toInt (show (N : Int) ≠ 0 by omega)
  unfold own_sig
  omega
theorem own_nx (σ d N : Nat) (m y : Int32) (hN : own_N N) (hm : m.toInt = (N : Int) - 1) (i : Nat) (hy : y.toInt = (i : Int)) (hi : i < 100) : ((own_P σ N d + y) &&& m) = own_P σ N (d + i) := by
  have q := own_np hN
  apply Int32.toInt_inj.mp
  rw [own_and _ _ _ hN hm, own_Pi _ _ hN]
  have e := c_iadd (own_P σ N d) y
  have r := rng32 (own_P σ N d + y)
  rw [own_Pi _ _ hN] at e
  have l := Nat.mod_lt (σ + d) q.1
  have t : (own_P σ N d + y).toInt = (((σ + d) % N + i : Nat) : Int) := by omega
  rw [t, ← Nat.add_assoc, ← Int.natCast_emod, Nat.mod_add_mod]
def own_Tb (vs : List Value) (N σ : Nat) (f : Nat → Int32) : Prop := vs.length = N ∧ ∀ i, i < N → vs[(σ + i) % N]? = some (.int (f i))
theorem own_inj {N σ i j : Nat} (hN : own_N N) (hi : i < N) (hj : j < N) (h : (σ + i) % N = (σ + j) % N) : i = j := by
  rcases hN with rfl | rfl | rfl | rfl <;> omega
theorem own_Ts {vs : List Value} {N σ j : Nat} {f : Nat → Int32} {x : Int32} (hN : own_N N) (T : own_Tb vs N σ f) (hj : j < N) : own_Tb (vs.set ((σ + j) % N) (.int x)) N σ (fun i => if i = j then x else f i) := by
  refine ⟨by rw [List.length_set]; exact T.1, fun i hi => ?_⟩
  by_cases h : i = j
  · rw [h, List.getElem?_set_self (by rw [T.1]; exact Nat.mod_lt _ (own_np hN).1)]
    show _ = some (Value.int (if j = j then x else f j))
    rw [if_pos rfl]
  · rw [List.getElem?_set_ne (fun q => h (own_inj hN hi hj q.symm)), T.2 i hi]
    show _ = some (Value.int (if i = j then x else f i))
    rw [if_neg h]
def own_F (n K : Nat) (a b : Int32) (i : Nat) : Int32 := if i < n ∧ i < K then (if i % 2 = 0 then a else b) else (-1 : Int32)
theorem own_T0 (N σ : Nat) (vs : List Value) (a b : Int32) (K : Nat) (hN : own_N N) (e : vs = List.replicate N (.int (-1 : Int32))) : own_Tb vs N σ (own_F 0 K a b) := by
  subst e
  refine ⟨List.length_replicate, fun i hi => ?_⟩
  rw [List.getElem?_replicate, if_pos (Nat.mod_lt _ (own_np hN).1), own_F, if_neg (by omega)]
theorem own_Tp {vs vs' : List Value} {N σ n K : Nat} {a b o k : Int32} (hN : own_N N) (hK : K < N) (T : own_Tb vs N σ (own_F n K a b)) (ho : o.toInt = (n : Int)) (hk : k.toInt = (K : Int)) (hp : ((o &&& (1 : Int32)) = (0 : Int32)) ↔ n % 2 = 0) (e : vs' = if o < k then vs.set ((σ + n) % N) (.int (if (o &&& (1 : Int32)) = (0 : Int32) then a else b)) else vs) : own_Tb vs' N σ (own_F (n + 1) K a b) := by
  have l : o < k ↔ n < K := by rw [Int32.lt_iff_toInt_lt, ho, hk]; omega
  subst e
  by_cases h : n < K
  · rw [if_pos (l.mpr h)]
    have T2 := own_Ts (x := if (o &&& (1 : Int32)) = (0 : Int32) then a else b) hN T (show n < N by omega)
    refine ⟨T2.1, fun i hi => ?_⟩
    rw [T2.2 i hi]
    show some (Value.int (if i = n then (if (o &&& (1 : Int32)) = (0 : Int32) then a else b) else own_F n K a b i)) = some (Value.int (own_F (n + 1) K a b i))
    unfold own_F
    by_cases q : i = n
    · rw [if_pos q, q, if_pos (show n < n + 1 ∧ n < K from ⟨by omega, h⟩)]
      by_cases r : n % 2 = 0
      · rw [if_pos r, if_pos (hp.mpr r)]
      · rw [if_neg r, if_neg (fun z => r (hp.mp z))]
    · rw [if_neg q]
      by_cases r : i < n ∧ i < K
      · rw [if_pos r, if_pos (show i < n + 1 ∧ i < K from ⟨by omega, r.2⟩)]
      · rw [if_neg r, if_neg (show ¬ (i < n + 1 ∧ i < K) by omega)]
  · rw [if_neg (fun z => h (l.mp z))]
    refine ⟨T.1, fun i hi => ?_⟩
    rw [T.2 i hi]
    unfold own_F
    by_cases r : i < n ∧ i < K
    · rw [if_pos r, if_pos (show i < n + 1 ∧ i < K from ⟨by omega, r.2⟩)]
    · rw [if_neg r, if_neg (show ¬ (i < n + 1 ∧ i < K) by omega)]
theorem d3_0 : decode prog_25_method_12_code 0 = .ok (.aload_n 0, 1) := by decide +kernel
theorem d3_1 : decode prog_25_method_12_code 1 = .ok (.arraylength, 1) := by decide +kernel
theorem d3_2 : decode prog_25_method_12_code 2 = .ok (.iconst 1, 1) := by decide +kernel
theorem d3_3 : decode prog_25_method_12_code 3 = .ok (.isub, 1) := by decide +kernel
theorem d3_4 : decode prog_25_method_12_code 4 = .ok (.istore_n 2, 1) := by decide +kernel
theorem d3_5 : decode prog_25_method_12_code 5 = .ok (.iload_n 1, 1) := by decide +kernel
theorem d3_6 : decode prog_25_method_12_code 6 = .ok (.ldc 83, 2) := by decide +kernel
theorem d3_8 : decode prog_25_method_12_code 8 = .ok (.imul, 1) := by decide +kernel
theorem d3_9 : decode prog_25_method_12_code 9 = .ok (.istore_n 3, 1) := by decide +kernel
theorem d3_10 : decode prog_25_method_12_code 10 = .ok (.iload_n 3, 1) := by decide +kernel
theorem d3_11 : decode prog_25_method_12_code 11 = .ok (.iload_n 3, 1) := by decide +kernel
theorem d3_12 : decode prog_25_method_12_code 12 = .ok (.bipush 16, 2) := by decide +kernel
theorem d3_14 : decode prog_25_method_12_code 14 = .ok (.iushr, 1) := by decide +kernel
theorem d3_15 : decode prog_25_method_12_code 15 = .ok (.ixor, 1) := by decide +kernel
theorem d3_16 : decode prog_25_method_12_code 16 = .ok (.iload_n 2, 1) := by decide +kernel
theorem d3_17 : decode prog_25_method_12_code 17 = .ok (.iand, 1) := by decide +kernel
theorem d3_18 : decode prog_25_method_12_code 18 = .ok (.istore 4, 2) := by decide +kernel
theorem d3_20 : decode prog_25_method_12_code 20 = .ok (.aload_n 0, 1) := by decide +kernel
theorem d3_21 : decode prog_25_method_12_code 21 = .ok (.iload 4, 2) := by decide +kernel
theorem d3_23 : decode prog_25_method_12_code 23 = .ok (.iaload, 1) := by decide +kernel
theorem d3_24 : decode prog_25_method_12_code 24 = .ok (.iconst (-1), 1) := by decide +kernel
theorem d3_25 : decode prog_25_method_12_code 25 = .ok (.if_icmp .eq 22, 3) := by decide +kernel
theorem d3_28 : decode prog_25_method_12_code 28 = .ok (.aload_n 0, 1) := by decide +kernel
theorem d3_29 : decode prog_25_method_12_code 29 = .ok (.iload 4, 2) := by decide +kernel
theorem d3_31 : decode prog_25_method_12_code 31 = .ok (.iaload, 1) := by decide +kernel
theorem d3_32 : decode prog_25_method_12_code 32 = .ok (.iload_n 1, 1) := by decide +kernel
theorem d3_33 : decode prog_25_method_12_code 33 = .ok (.if_icmp .eq 14, 3) := by decide +kernel
theorem d3_36 : decode prog_25_method_12_code 36 = .ok (.iload 4, 2) := by decide +kernel
theorem d3_38 : decode prog_25_method_12_code 38 = .ok (.iconst 1, 1) := by decide +kernel
theorem d3_39 : decode prog_25_method_12_code 39 = .ok (.iadd, 1) := by decide +kernel
theorem d3_40 : decode prog_25_method_12_code 40 = .ok (.iload_n 2, 1) := by decide +kernel
theorem d3_41 : decode prog_25_method_12_code 41 = .ok (.iand, 1) := by decide +kernel
theorem d3_42 : decode prog_25_method_12_code 42 = .ok (.istore 4, 2) := by decide +kernel
theorem d3_44 : decode prog_25_method_12_code 44 = .ok (.goto (-24), 3) := by decide +kernel
theorem d3_47 : decode prog_25_method_12_code 47 = .ok (.iload 4, 2) := by decide +kernel
theorem d3_49 : decode prog_25_method_12_code 49 = .ok (.ireturn, 1) := by decide +kernel
set_option maxRecDepth 65536 in
set_option maxHeartbeats 40000000 in
theorem own_loop (p : Program) (l : Launch) (e : Env) (R : Room) (s : State) (m : MethodId) (args : Array Value) (below : List Frame) (meth : Method) (c : Code) (Z : State) (a0 : Array Value) (hw : ∀ d ∈ tables_1, d.before a0 Z = true) (n0 : Nat) (s₀ : State) (h : Heap) (k j : Nat) (a : Addr) (x1 mk hh : Int32) (vs : List Value) (V0 : Av Z h a .int vs) (N : Nat) (hN : own_N N) (hm : mk.toInt = (N : Int) - 1) (f : Nat → Int32) (T : own_Tb vs N (own_sig x1 N) f) (d : Nat) (hd : d < N) (h1 : ∀ i, i < d → ¬ f i = (-1 : Int32) ∧ ¬ f i = x1) (h2 : f d = (-1 : Int32) ∨ f d = x1) : ∀ (q i : Nat), i + q = d →
    Go p l e R s m args below meth c Z "com/example/reachway/reachway/NodeSet" prog_25_method_12_code 5 (some .int) n0 s₀ h k j 20 #[.val (.ref a), .val (.int x1), .val (.int mk), .val (.int hh), .val (.int (own_P (own_sig x1 N) N i))] [] → Go p l e R s m args below meth c Z "com/example/reachway/reachway/NodeSet" prog_25_method_12_code 5 (some .int) n0 s₀ h k j 47 #[.val (.ref a), .val (.int x1), .val (.int mk), .val (.int hh), .val (.int (own_P (own_sig x1 N) N d))] [] := by
  intro q
  induction q with
  | zero =>
    intro i hi G0
    obtain rfl : i = d := by omega
    have G1 := G0.aloadN (v := (.ref a)) (pc' := 21) d3_20 rfl
    have G2 := G1.iload (v := (own_P (own_sig x1 N) N i)) (pc' := 23) d3_21 rfl
    have G3 := G2.ldI (i := ((own_sig x1 N + i) % N)) (v := (.int (f i))) (pc' := 24) V0 (own_Pi _ _ hN) (T.2 i (by omega)) d3_23
    have G4 := G3.iconst (v := (-1 : Int32)) (pc' := 25) d3_24
    by_cases h3 : f i = (-1 : Int32)
    · replace h2 := h3
      have G5 := G4.icmpY d3_25 47 (Jvm.Free.XT.ii_eq_t h2)
      exact G5
    · replace h2 := h2.resolve_left h3
      have G6 := G4.icmpN d3_25 28 (Jvm.Free.XT.ii_eq_f h3)
      have G7 := G6.aloadN (v := (.ref a)) (pc' := 29) d3_28 rfl
      have G8 := G7.iload (v := (own_P (own_sig x1 N) N i)) (pc' := 31) d3_29 rfl
      have G9 := G8.ldI (i := ((own_sig x1 N + i) % N)) (v := (.int (f i))) (pc' := 32) V0 (own_Pi _ _ hN) (T.2 i (by omega)) d3_31
      have G10 := G9.iloadN (v := x1) (pc' := 33) d3_32 rfl
      have G11 := G10.icmpY d3_33 47 (Jvm.Free.XT.ii_eq_t h2)
      exact G11
  | succ q ih =>
    intro i hi G0
    have G1 := G0.aloadN (v := (.ref a)) (pc' := 21) d3_20 rfl
    have G2 := G1.iload (v := (own_P (own_sig x1 N) N i)) (pc' := 23) d3_21 rfl
    have G3 := G2.ldI (i := ((own_sig x1 N + i) % N)) (v := (.int (f i))) (pc' := 24) V0 (own_Pi _ _ hN) (T.2 i (by omega)) d3_23
    have G4 := G3.iconst (v := (-1 : Int32)) (pc' := 25) d3_24
    have G12 := G4.icmpN d3_25 28 (Jvm.Free.XT.ii_eq_f (h1 i (by omega)).1)
    have G13 := G12.aloadN (v := (.ref a)) (pc' := 29) d3_28 rfl
    have G14 := G13.iload (v := (own_P (own_sig x1 N) N i)) (pc' := 31) d3_29 rfl
    have G15 := G14.ldI (i := ((own_sig x1 N + i) % N)) (v := (.int (f i))) (pc' := 32) V0 (own_Pi _ _ hN) (T.2 i (by omega)) d3_31
    have G16 := G15.iloadN (v := x1) (pc' := 33) d3_32 rfl
    have G17 := G16.icmpN d3_33 36 (Jvm.Free.XT.ii_eq_f (h1 i (by omega)).2)
    have G18 := G17.iload (v := (own_P (own_sig x1 N) N i)) (pc' := 38) d3_36 rfl
    have G19 := G18.iconst (v := (1 : Int32)) (pc' := 39) d3_38
    have G20 := G19.iadd (pc' := 40) d3_39
    have G21 := G20.iloadN (v := mk) (pc' := 41) d3_40 rfl
    have G22 := G21.iand (pc' := 42) d3_41
    rw [own_nx _ _ _ _ _ hN hm 1 (by decide) (by decide)] at G22
    have G23 := G22.istore (L' := #[.val (.ref a), .val (.int x1), .val (.int mk), .val (.int hh), .val (.int (own_P (own_sig x1 N) N (i + 1)))]) (pc' := 44) d3_42 rfl
    have G24 := G23.goto d3_44 20
    exact ih (i + 1) (by omega) G24
theorem own_m (len : Int32) (N : Nat) (hN : own_N N) (h : len.toInt = (N : Int)) : (len - (1 : Int32)).toInt = (N : Int) - 1 := by
  have q := own_np hN
  have e := c_isub len 1
  have r := rng32 (len - 1)
  have k : (1 : Int32).toInt = 1 := rfl
  rw [k] at e
  omega
theorem pn1 : plainName "com/example/reachway/reachway/NodeSet" = true := by first | (simp [plainName, overriddenIn]; done) | decide +kernel
theorem ef3 (m : MethodId) (a : Addr) (x1 : Int32) : entryFrame m #[(.ref a), (.int x1)] 5 = mkF m 0 #[.val (.ref a), .val (.int x1), .unset, .unset, .unset] [] := by first | (simp [entryFrame, mkF, argsToLocals, Value.category]; done) | rfl
def rm3 : Room := { frames := 0, cells := 0, slots := 0, locals := 0 }
set_option maxRecDepth 65536 in
set_option maxHeartbeats 40000000 in
theorem cn3 (l : Launch) (Z : State) (a0 : Array Value) (hw : ∀ d ∈ tables_1, d.before a0 Z = true) (a : Addr) (x1 : Int32) (h0 : Heap) (n0 : Nat) (hn : n0 ≤ h0.size) (len : Int32) (vs : List Value) (V0 : Av Z h0 a .int vs) (N : Nat) (hN : own_N N) (hlen : len.toInt = (N : Int)) (f : Nat → Int32) (T : own_Tb vs N (own_sig x1 N) f) (d : Nat) (hd : d < N) (h1 : ∀ i, i < d → ¬ f i = (-1 : Int32) ∧ ¬ f i = x1) (h2 : f d = (-1 : Int32) ∨ f d = x1) :
    Con l (⟨"com/example/reachway/reachway/NodeSet", "slot", "([II)I"⟩ : MethodName) prog_25_method_12_code 5 (some .int) [] rm3 rm3.cells rm3.slots Z #[(.ref a), (.int x1)] h0 n0 (fun v h => v = some (.int (own_P (own_sig x1 N) N d)) ∧ h = h0) := by
  refine Con.of (plainFor_of_name pn1) hn (fun m => ef3 m a x1) ?_
  intro p e s m below meth c s₀ hnm G0
  have G1 := G0.aloadN (v := (.ref a)) (pc' := 1) d3_0 rfl
  have G2 := G1.arrlen (pc' := 2) (v := len) V0 (by rw [T.1]; exact hlen) d3_1
  have G3 := G2.iconst (v := (1 : Int32)) (pc' := 3) d3_2
  have G4 := G3.isub (pc' := 4) d3_3
  have G5 := G4.istoreN (L' := #[.val (.ref a), .val (.int x1), .val (.int (len - (1 : Int32))), .unset, .unset]) (pc' := 5) d3_4 rfl
  have G6 := G5.iloadN (v := x1) (pc' := 6) d3_5 rfl
  have G7 := G6.ldc (v := (-1640531527 : Int32)) (pc' := 8) (hw _ (List.mem_of_getElem? (i := 13) rfl)) d3_6
  have G8 := G7.imul (pc' := 9) d3_8
  have G9 := G8.istoreN (L' := #[.val (.ref a), .val (.int x1), .val (.int (len - (1 : Int32))), .val (.int (x1 * (-1640531527 : Int32))), .unset]) (pc' := 10) d3_9 rfl
  have G10 := G9.iloadN (v := (x1 * (-1640531527 : Int32))) (pc' := 11) d3_10 rfl
  have G11 := G10.iloadN (v := (x1 * (-1640531527 : Int32))) (pc' := 12) d3_11 rfl
  have G12 := G11.bipush (v := (16 : Int32)) (pc' := 14) d3_12
  have G13 := G12.iushr (pc' := 15) d3_14
  have G14 := G13.ixor (pc' := 16) d3_15
  have G15 := G14.iloadN (v := (len - (1 : Int32))) (pc' := 17) d3_16 rfl
  have G16 := G15.iand (pc' := 18) d3_17
  have hm : (len - (1 : Int32)).toInt = (N : Int) - 1 := own_m len N hN hlen
  have hs := own_st x1 (len - (1 : Int32)) N hN hm
  unfold own_h at hs
  rw [hs] at G16
  have G17 := G16.istore (L' := #[.val (.ref a), .val (.int x1), .val (.int (len - (1 : Int32))), .val (.int (x1 * (-1640531527 : Int32))), .val (.int (own_P (own_sig x1 N) N 0))]) (pc' := 20) d3_18 rfl
  have GL := own_loop p l e rm3 s m _ below meth c Z a0 hw n0 s₀ h0 0 0 a x1 _ _ vs V0 N hN hm f T d hd h1 h2 d 0 (Nat.zero_add d) G17
  have GM := GL.iload (v := own_P (own_sig x1 N) N d) (pc' := 49) d3_47 rfl
  exact GM.retI d3_49 rfl ⟨rfl, rfl⟩
theorem d4_0 : decode method_4_code 0 = .ok (.iload_n 3, 1) := by decide +kernel
theorem d4_1 : decode method_4_code 1 = .ok (.iload 4, 2) := by decide +kernel
theorem d4_3 : decode method_4_code 3 = .ok (.if_icmp .ge 23, 3) := by decide +kernel
theorem d4_6 : decode method_4_code 6 = .ok (.aload_n 0, 1) := by decide +kernel
theorem d4_7 : decode method_4_code 7 = .ok (.iload_n 1, 1) := by decide +kernel
theorem d4_8 : decode method_4_code 8 = .ok (.iload_n 3, 1) := by decide +kernel
theorem d4_9 : decode method_4_code 9 = .ok (.iadd, 1) := by decide +kernel
theorem d4_10 : decode method_4_code 10 = .ok (.iload_n 2, 1) := by decide +kernel
theorem d4_11 : decode method_4_code 11 = .ok (.iand, 1) := by decide +kernel
theorem d4_12 : decode method_4_code 12 = .ok (.iload_n 3, 1) := by decide +kernel
theorem d4_13 : decode method_4_code 13 = .ok (.iconst 1, 1) := by decide +kernel
theorem d4_14 : decode method_4_code 14 = .ok (.iand, 1) := by decide +kernel
theorem d4_15 : decode method_4_code 15 = .ok (.ifCond .ne 8, 3) := by decide +kernel
theorem d4_18 : decode method_4_code 18 = .ok (.iload 5, 2) := by decide +kernel
theorem d4_20 : decode method_4_code 20 = .ok (.goto 5, 3) := by decide +kernel
theorem d4_23 : decode method_4_code 23 = .ok (.iload 6, 2) := by decide +kernel
theorem d4_25 : decode method_4_code 25 = .ok (.iastore, 1) := by decide +kernel
theorem d4_26 : decode method_4_code 26 = .ok (.return_, 1) := by decide +kernel
theorem ef4 (m : MethodId) (a : Addr) (x1 : Int32) (x2 : Int32) (x3 : Int32) (x4 : Int32) (x5 : Int32) (x6 : Int32) : entryFrame m #[(.ref a), (.int x1), (.int x2), (.int x3), (.int x4), (.int x5), (.int x6)] 7 = mkF m 0 #[.val (.ref a), .val (.int x1), .val (.int x2), .val (.int x3), .val (.int x4), .val (.int x5), .val (.int x6)] [] := by first | (simp [entryFrame, mkF, argsToLocals, Value.category]; done) | rfl
def rm4 : Room := { frames := 0, cells := 0, slots := 0, locals := 0 }
set_option maxRecDepth 65536 in
set_option maxHeartbeats 40000000 in
theorem cn4 (l : Launch) (Z : State) (a0 : Array Value) (hw : ∀ d ∈ tables_1, d.before a0 Z = true) (a : Addr) (x1 : Int32) (x2 : Int32) (x3 : Int32) (x4 : Int32) (x5 : Int32) (x6 : Int32) (h0 : Heap) (n0 : Nat) (hn : n0 ≤ h0.size) (vs : List Value) (V0 : Av Z h0 a .int vs) (g_a : n0 ≤ a) (P : Nat) (hP : ((x1 + x3) &&& x2).toInt = (P : Int)) (hPl : P < vs.length) :
    Con l (⟨"com/example/reachway/reachway/NodeSetSlotPinLaw", "put", "([IIIIIII)V"⟩ : MethodName) method_4_code 7 none [] rm4 rm4.cells rm4.slots Z #[(.ref a), (.int x1), (.int x2), (.int x3), (.int x4), (.int x5), (.int x6)] h0 n0 (fun v h => v = none ∧ Keep h0 h [a] ∧ Av Z h a .int (if x3 < x4 then vs.set P (.int (if (x3 &&& (1 : Int32)) = (0 : Int32) then x5 else x6)) else vs)) := by
  refine Con.of (plainFor_of_name pn0) hn (fun m => ef4 m a x1 x2 x3 x4 x5 x6) ?_
  intro p e s m below meth c s₀ hnm G0
  have K0 : Keep h0 h0 [a] := Keep.refl _ _
  have G1 := G0.iloadN (v := x3) (pc' := 1) d4_0 rfl
  have G2 := G1.iload (v := x4) (pc' := 3) d4_1 rfl
  by_cases c3_2 : x3 < x4
  · have G3 := G2.icmpN d4_3 6 (Jvm.Free.XT.ii_ge_f c3_2)
    have G4 := G3.aloadN (v := (.ref a)) (pc' := 7) d4_6 rfl
    have G5 := G4.iloadN (v := x1) (pc' := 8) d4_7 rfl
    have G6 := G5.iloadN (v := x3) (pc' := 9) d4_8 rfl
    have G7 := G6.iadd (pc' := 10) d4_9
    have G8 := G7.iloadN (v := x2) (pc' := 11) d4_10 rfl
    have G9 := G8.iand (pc' := 12) d4_11
    have G10 := G9.iloadN (v := x3) (pc' := 13) d4_12 rfl
    have G11 := G10.iconst (v := (1 : Int32)) (pc' := 14) d4_13
    have G12 := G11.iand (pc' := 15) d4_14
    obtain ⟨zx, e_zx, G18⟩ : ∃ zx : Int32, zx = (if (x3 &&& (1 : Int32)) = (0 : Int32) then x5 else x6) ∧ Go p l e rm4 s m #[(.ref a), (.int x1), (.int x2), (.int x3), (.int x4), (.int x5), (.int x6)] below meth c Z "com/example/reachway/reachway/NodeSetSlotPinLaw" method_4_code 7 none n0 s₀ h0 0 0 25 #[.val (.ref a), .val (.int x1), .val (.int x2), .val (.int x3), .val (.int x4), .val (.int x5), .val (.int x6)] [(.int zx), (.int ((x1 + x3) &&& x2)), (.ref a)] := by
      by_cases c15_12 : (x3 &&& (1 : Int32)) = (0 : Int32)
      · have G13 := G12.ifN d4_15 18 (Jvm.Free.XT.i0_ne_f c15_12)
        have G14 := G13.iload (v := x5) (pc' := 20) d4_18 rfl
        have G15 := G14.goto d4_20 25
        exact ⟨x5, by rw [if_pos c15_12], G15⟩
      · have G16 := G12.ifY d4_15 23 (Jvm.Free.XT.i0_ne_t c15_12)
        have G17 := G16.iload (v := x6) (pc' := 25) d4_23 rfl
        exact ⟨x6, by rw [if_neg c15_12], G17⟩
    obtain ⟨h19, W19, V19, G19⟩ := G18.stI (i := P) (pc' := 26) V0 g_a hP hPl d4_25
    have K20 : Keep h0 h19 [a] := K0.wr W19 (Or.inl (List.mem_of_getElem? (i := 0) rfl))
    exact G19.retV d4_26 rfl ⟨rfl, K20, by rw [if_pos c3_2, ← e_zx]; exact V19⟩
  · have G21 := G2.icmpY d4_3 26 (Jvm.Free.XT.ii_ge_t c3_2)
    exact G21.retV d4_26 rfl ⟨rfl, K0, by rw [if_neg c3_2]; exact V0⟩
theorem own_e3 (x : Int32) : 0 ≤ (x &&& (3 : Int32)).toInt ∧ (x &&& (3 : Int32)).toInt ≤ 3 := by
  have := c_mask x 3 2 (by decide) (by decide)
  omega
theorem own_len (x : Int32) : ∃ (len : Int32) (N : Nat), len = ((1 : Int32) <<< ((x &&& (3 : Int32)) &&& 31)) ∧ own_N N ∧ len.toInt = (N : Int) ∧ N = own_2 (x &&& (3 : Int32)) := by
  have h := own_e3 x
  have h4 : (x &&& (3 : Int32)).toInt = 0 ∨ (x &&& (3 : Int32)).toInt = 1 ∨ (x &&& (3 : Int32)).toInt = 2 ∨ (x &&& (3 : Int32)).toInt = 3 := by omega
  rcases h4 with h | h | h | h
  · have e : (x &&& (3 : Int32)) = 0 := Int32.toInt_inj.mp h
    rw [e]; exact ⟨_, 1, rfl, Or.inl rfl, by decide, by decide⟩
  · have e : (x &&& (3 : Int32)) = 1 := Int32.toInt_inj.mp h
    rw [e]; exact ⟨_, 2, rfl, Or.inr (Or.inl rfl), by decide, by decide⟩
  · have e : (x &&& (3 : Int32)) = 2 := Int32.toInt_inj.mp h
    rw [e]; exact ⟨_, 4, rfl, Or.inr (Or.inr (Or.inl rfl)), by decide, by decide⟩
  · have e : (x &&& (3 : Int32)) = 3 := Int32.toInt_inj.mp h
    rw [e]; exact ⟨_, 8, rfl, Or.inr (Or.inr (Or.inr rfl)), by decide, by decide⟩
theorem own_fx (o i : Int32) (ho : 0 ≤ o.toInt) (hi : 0 ≤ i.toInt) : ¬ fF o i = i ∧ ¬ fF o i = (-1 : Int32) := by
  have k : (-1 : Int32).toInt = -1 := rfl
  unfold fF
  split
  · split
    · rename_i h1 h2; subst h2; exact ⟨by decide, by decide⟩
    · rename_i h1 h2; exact ⟨fun q => h2 q.symm, by decide⟩
  · rename_i h1
    exact ⟨h1, fun q => by rw [q, k] at ho; omega⟩
theorem own_nn (x : Int32) : 0 ≤ (x &&& (2147483647 : Int32)).toInt := (c_and x 2147483647 (by decide)).1
theorem own_k (z len : Int32) (N : Nat) (hN : own_N N) (hl : len.toInt = (N : Int)) : ∃ (kk : Int32) (K : Nat), kk = ((z &&& (7 : Int32)) % len) ∧ kk.toInt = (K : Int) ∧ K < N := by
  have q := own_np hN
  have n := (c_and z 7 (by decide)).1
  have e := (c_irem (z &&& (7 : Int32)) len N hl).1 n
  have f1 := Int.emod_nonneg (z &&& (7 : Int32)).toInt (show (N : Int) ≠ 0 by omega)
  have f2 := Int.emod_lt_of_pos (z &&& (7 : Int32)).toInt (show 0 < (N : Int) by omega)
  exact ⟨_, ((z &&& (7 : Int32)) % len).toInt.toNat, rfl, by omega, by omega⟩
theorem own_j (z kk : Int32) (K : Nat) (hK : K < 8) (hk : kk.toInt = (K : Int)) : ∃ (jj : Int32) (J : Nat), jj = ((z &&& (7 : Int32)) % (kk + (1 : Int32))) ∧ jj.toInt = (J : Int) ∧ J ≤ K := by
  have e0 := c_iadd kk 1
  have r0 := rng32 (kk + 1)
  have k1 : (1 : Int32).toInt = 1 := rfl
  rw [k1] at e0
  have n := (c_and z 7 (by decide)).1
  have hd : (kk + (1 : Int32)).toInt = ((K + 1 : Nat) : Int) := by omega
  have e := (c_irem (z &&& (7 : Int32)) (kk + 1) _ hd).1 n
  have f1 := Int.emod_nonneg (z &&& (7 : Int32)).toInt (show ((K + 1 : Nat) : Int) ≠ 0 by omega)
  have f2 := Int.emod_lt_of_pos (z &&& (7 : Int32)).toInt (show 0 < ((K + 1 : Nat) : Int) by omega)
  exact ⟨_, ((z &&& (7 : Int32)) % (kk + (1 : Int32))).toInt.toNat, rfl, by omega, by omega⟩
theorem own_nz (x : Int32) (n : Nat) (h : x.toInt = (n : Int)) (hn : 0 < n) : x ≠ 0 := fun q => by
  rw [q] at h
  have k : (0 : Int32).toInt = 0 := rfl
  omega
theorem own_nz1 (kk : Int32) (K : Nat) (hK : K < 8) (hk : kk.toInt = (K : Int)) : kk + (1 : Int32) ≠ 0 := by
  have e0 := c_iadd kk 1
  have r0 := rng32 (kk + 1)
  have k1 : (1 : Int32).toInt = 1 := rfl
  rw [k1] at e0
  exact own_nz _ (K + 1) (by omega) (by omega)
theorem own_p0 (σ : Nat) {N : Nat} (hN : own_N N) : ¬ own_P σ N 0 < (0 : Int32) := by
  rw [Int32.lt_iff_toInt_lt, own_Pi _ _ hN]; show ¬ _ < (0 : Int); omega
theorem own_p1 (σ : Nat) {N : Nat} (hN : own_N N) (len : Int32) (hl : len.toInt = (N : Int)) : own_P σ N 0 < len := by
  have := Nat.mod_lt (σ + 0) (own_np hN).1
  rw [Int32.lt_iff_toInt_lt, own_Pi _ _ hN, hl]; omega
theorem own_p2 (σ K : Nat) {N : Nat} (hN : own_N N) (m kk : Int32) (hm : m.toInt = (N : Int) - 1) (hk : kk.toInt = (K : Int)) (hK : K < N) : (((own_P σ N 0 + kk) + (1 : Int32)) &&& m) = own_P σ N (K + 1) := by
  have q := own_np hN
  have e : own_P σ N 0 + kk + (1 : Int32) = own_P σ N 0 + (kk + 1) := by rw [Int32.add_assoc]
  have e0 := c_iadd kk 1
  have r0 := rng32 (kk + 1)
  have k1 : (1 : Int32).toInt = 1 := rfl
  rw [k1] at e0
  rw [e, own_nx _ _ _ _ _ hN hm (K + 1) (by omega) (by omega), Nat.zero_add]
theorem own_k2 (kk len : Int32) (K N : Nat) (hN : own_N N) (hk : kk.toInt = (K : Int)) (hl : len.toInt = (N : Int)) (hK : K < N) (h : ¬ len < kk + (2 : Int32)) : K + 1 < N := by
  have q := own_np hN
  have e0 := c_iadd kk 2
  have r0 := rng32 (kk + 2)
  have k1 : (2 : Int32).toInt = 2 := rfl
  rw [k1] at e0
  rw [Int32.lt_iff_toInt_lt, hl] at h
  omega
theorem own_Fi (K i : Nat) (a b id : Int32) (hi : i < K) (hK : K < 8) (ha : ¬ a = id ∧ ¬ a = (-1 : Int32)) (hb : ¬ b = id ∧ ¬ b = (-1 : Int32)) : ¬ own_F 7 K a b i = (-1 : Int32) ∧ ¬ own_F 7 K a b i = id := by
  unfold own_F
  rw [if_pos ⟨by omega, hi⟩]
  split
  · exact ⟨ha.2, ha.1⟩
  · exact ⟨hb.2, hb.1⟩
theorem own_FK (K : Nat) (a b : Int32) : own_F 7 K a b K = (-1 : Int32) := by
  unfold own_F
  rw [if_neg (by omega)]
theorem own_zh (p jj l : Int32) (z : Int32) (ez : z = (if (p &&& (1 : Int32)) = (0 : Int32) then (0 : Int32) else (if jj = l then (0 : Int32) else (1 : Int32)))) (h : ¬ z = 0) : ¬ jj = l := fun q => by
  rw [q, if_pos rfl, ite_self] at ez
  exact h ez
theorem ef0 (m : MethodId) (x0 : Int32) (x1 : Int32) (x2 : Int32) (x3 : Int32) (x4 : Int32) : entryFrame m #[(.int x0), (.int x1), (.int x2), (.int x3), (.int x4)] maxLocals = mkF m 0 #[.val (.int x0), .val (.int x1), .val (.int x2), .val (.int x3), .val (.int x4), .unset, .unset, .unset, .unset, .unset, .unset, .unset, .unset, .unset, .unset, .unset, .unset, .unset] [] := by first | (simp [entryFrame, mkF, argsToLocals, Value.category, maxLocals]; done) | rfl
theorem pd0 : parseMethodDescriptor "(II)I" = some ⟨[.int, .int], some .int⟩ := by decide +kernel
theorem pd1 : parseMethodDescriptor "(I)[I" = some ⟨[.int], some (.array .int)⟩ := by decide +kernel
theorem pd2 : parseMethodDescriptor "([II)I" = some ⟨[(.array .int), .int], some .int⟩ := by decide +kernel
theorem pd3 : parseMethodDescriptor "([IIIIIII)V" = some ⟨[(.array .int), .int, .int, .int, .int, .int, .int], none⟩ := by decide +kernel
set_option maxRecDepth 65536 in
set_option maxHeartbeats 40000000 in
theorem lawc (l : Launch) (Z : State) (a0 : Array Value) (hw : ∀ d ∈ tables_1, d.before a0 Z = true) (x0 : Int32) (x1 : Int32) (x2 : Int32) (x3 : Int32) (x4 : Int32) (h0 : Heap) (n0 : Nat) (hn : n0 ≤ h0.size) :
    Con l x code maxLocals ret tables_1 room_1 16 128 Z #[(.int x0), (.int x1), (.int x2), (.int x3), (.int x4)] h0 n0 (fun v _ => v = some (.int 1)) := by
  refine Con.of (plainFor_of_name pn0) hn (fun m => ef0 m x0 x1 x2 x3 x4) ?_
  intro p e s m below meth c s₀ hnm G0
  have G1 := G0.iloadN (v := x0) (pc' := 1) at_0 rfl
  have G2 := G1.iconst (v := (3 : Int32)) (pc' := 2) at_1
  have G3 := G2.iand (pc' := 3) at_2
  have G4 := G3.istore (L' := #[.val (.int x0), .val (.int x1), .val (.int x2), .val (.int x3), .val (.int x4), .val (.int (x0 &&& (3 : Int32))), .unset, .unset, .unset, .unset, .unset, .unset, .unset, .unset, .unset, .unset, .unset, .unset]) (pc' := 5) at_3 rfl
  have G5 := G4.iconst (v := (1 : Int32)) (pc' := 6) at_5
  have G6 := G5.iload (v := (x0 &&& (3 : Int32))) (pc' := 8) at_6 rfl
  have G7 := G6.ishl (pc' := 9) at_8
  obtain ⟨len, N, e_len, hN, hlen, hN2⟩ := own_len x0
  rw [← e_len] at G7
  have G8 := G7.istore (L' := #[.val (.int x0), .val (.int x1), .val (.int x2), .val (.int x3), .val (.int x4), .val (.int (x0 &&& (3 : Int32))), .val (.int len), .unset, .unset, .unset, .unset, .unset, .unset, .unset, .unset, .unset, .unset, .unset]) (pc' := 11) at_9 rfl
  have G9 := G8.iload (v := len) (pc' := 13) at_11 rfl
  have G10 := G9.iconst (v := (1 : Int32)) (pc' := 14) at_13
  have G11 := G10.isub (pc' := 15) at_14
  obtain ⟨mm, e_m⟩ : ∃ z, z = (len - (1 : Int32)) := ⟨_, rfl⟩
  have hm : mm.toInt = (N : Int) - 1 := by rw [e_m]; exact own_m len N hN hlen
  rw [← e_m] at G11
  have G12 := G11.istore (L' := #[.val (.int x0), .val (.int x1), .val (.int x2), .val (.int x3), .val (.int x4), .val (.int (x0 &&& (3 : Int32))), .val (.int len), .val (.int mm), .unset, .unset, .unset, .unset, .unset, .unset, .unset, .unset, .unset, .unset]) (pc' := 17) at_15 rfl
  have G13 := G12.iloadN (v := x1) (pc' := 18) at_17 rfl
  have G14 := G13.ldc (v := (2147483647 : Int32)) (pc' := 20) (hw _ (List.mem_of_getElem? (i := 0) rfl)) at_18
  have G15 := G14.iand (pc' := 21) at_20
  obtain ⟨idd, e_idd⟩ : ∃ z, z = (x1 &&& (2147483647 : Int32)) := ⟨_, rfl⟩
  have hid : 0 ≤ idd.toInt := by rw [e_idd]; exact own_nn x1
  rw [← e_idd] at G15
  have G16 := G15.istore (L' := #[.val (.int x0), .val (.int x1), .val (.int x2), .val (.int x3), .val (.int x4), .val (.int (x0 &&& (3 : Int32))), .val (.int len), .val (.int mm), .val (.int idd), .unset, .unset, .unset, .unset, .unset, .unset, .unset, .unset, .unset]) (pc' := 23) at_21 rfl
  have G17 := G16.iloadN (v := x2) (pc' := 24) at_23 rfl
  have G18 := G17.ldc (v := (2147483647 : Int32)) (pc' := 26) (hw _ (List.mem_of_getElem? (i := 0) rfl)) at_24
  have G19 := G18.iand (pc' := 27) at_26
  have G20 := G19.iload (v := idd) (pc' := 29) at_27 rfl
  obtain ⟨v21, h21, ⟨ev21, eh21⟩, g21⟩ := G20.callS (argsL := [(.int (x2 &&& (2147483647 : Int32))), (.int idd)]) (rest := []) (pc' := 32) (k' := 0) (j' := 0) (cn1 l Z a0 hw (x2 &&& (2147483647 : Int32)) idd h0 n0 G20.size) rfl (hw _ (List.mem_of_getElem? (i := 1) rfl)) (hw _ (List.mem_of_getElem? (i := 2) rfl)) (hw _ (List.mem_of_getElem? (i := 3) rfl)) (hw _ (List.mem_of_getElem? (i := 4) rfl)) (by decide) at_29 pd0 rfl (W := 0) rfl rfl (by decide) (by decide) (by decide) (by decide) rfl rfl rfl
  subst ev21
  rw [eh21] at g21
  have G21 := g21 [(.int (fF (x2 &&& (2147483647 : Int32)) idd))] rfl
  obtain ⟨aa, e_aa⟩ : ∃ z, z = (fF (x2 &&& (2147483647 : Int32)) idd) := ⟨_, rfl⟩
  have haa : ¬ aa = idd ∧ ¬ aa = (-1 : Int32) := by rw [e_aa]; exact own_fx _ _ (own_nn x2) hid
  rw [← e_aa] at G21
  have G22 := G21.istore (L' := #[.val (.int x0), .val (.int x1), .val (.int x2), .val (.int x3), .val (.int x4), .val (.int (x0 &&& (3 : Int32))), .val (.int len), .val (.int mm), .val (.int idd), .val (.int aa), .unset, .unset, .unset, .unset, .unset, .unset, .unset, .unset]) (pc' := 34) at_32 rfl
  have G23 := G22.iloadN (v := x3) (pc' := 35) at_34 rfl
  have G24 := G23.ldc (v := (2147483647 : Int32)) (pc' := 37) (hw _ (List.mem_of_getElem? (i := 0) rfl)) at_35
  have G25 := G24.iand (pc' := 38) at_37
  have G26 := G25.iload (v := idd) (pc' := 40) at_38 rfl
  obtain ⟨v27, h27, ⟨ev27, eh27⟩, g27⟩ := G26.callS (argsL := [(.int (x3 &&& (2147483647 : Int32))), (.int idd)]) (rest := []) (pc' := 43) (k' := 0) (j' := 0) (cn1 l Z a0 hw (x3 &&& (2147483647 : Int32)) idd h0 n0 G26.size) rfl (hw _ (List.mem_of_getElem? (i := 1) rfl)) (hw _ (List.mem_of_getElem? (i := 2) rfl)) (hw _ (List.mem_of_getElem? (i := 3) rfl)) (hw _ (List.mem_of_getElem? (i := 4) rfl)) (by decide) at_40 pd0 rfl (W := 0) rfl rfl (by decide) (by decide) (by decide) (by decide) rfl rfl rfl
  subst ev27
  rw [eh27] at g27
  have G27 := g27 [(.int (fF (x3 &&& (2147483647 : Int32)) idd))] rfl
  obtain ⟨bb, e_bb⟩ : ∃ z, z = (fF (x3 &&& (2147483647 : Int32)) idd) := ⟨_, rfl⟩
  have hbb : ¬ bb = idd ∧ ¬ bb = (-1 : Int32) := by rw [e_bb]; exact own_fx _ _ (own_nn x3) hid
  obtain ⟨kk, K, e_kk, hk, hK⟩ := own_k ((x0.toUInt32 >>> ((2 : Int32) &&& 31).toUInt32).toInt32) len N hN hlen
  have hK8 : K < 8 := Nat.lt_of_lt_of_le hK (own_np hN).2
  obtain ⟨jj, J, e_jj, hj, hJ⟩ := own_j ((x4.toUInt32 >>> ((1 : Int32) &&& 31).toUInt32).toInt32) kk K hK8 hk
  rw [← e_bb] at G27
  have G28 := G27.istore (L' := #[.val (.int x0), .val (.int x1), .val (.int x2), .val (.int x3), .val (.int x4), .val (.int (x0 &&& (3 : Int32))), .val (.int len), .val (.int mm), .val (.int idd), .val (.int aa), .val (.int bb), .unset, .unset, .unset, .unset, .unset, .unset, .unset]) (pc' := 45) at_43 rfl
  have G29 := G28.iload (v := (x0 &&& (3 : Int32))) (pc' := 47) at_45 rfl
  obtain ⟨v30, h30, ⟨a30, ev30, K30, sz30, V30⟩, g30⟩ := G29.callS (argsL := [(.int (x0 &&& (3 : Int32)))]) (rest := []) (pc' := 50) (k' := 1) (j' := 8) (cn2 l Z a0 hw (x0 &&& (3 : Int32)) h0 n0 G29.size (own_e3 x0)) rfl (hw _ (List.mem_of_getElem? (i := 5) rfl)) (hw _ (List.mem_of_getElem? (i := 6) rfl)) (hw _ (List.mem_of_getElem? (i := 3) rfl)) (hw _ (List.mem_of_getElem? (i := 7) rfl)) (by decide) at_47 pd1 rfl (W := 0) rfl rfl (by decide) (by decide) (by decide) (by decide) rfl rfl rfl
  subst ev30
  have G30 := g30 [(.ref a30)] rfl
  have g_a30 : n0 ≤ a30 := Nat.le_trans G29.size sz30
  obtain ⟨vs0, evs0⟩ : ∃ y, y = List.replicate (own_2 (x0 &&& (3 : Int32))) (Value.int (-1 : Int32)) := ⟨_, rfl⟩
  rw [← evs0] at V30
  have T0 := own_T0 N (own_sig idd N) vs0 aa bb K hN (by rw [evs0, hN2])
  have G31 := G30.astore (L' := #[.val (.int x0), .val (.int x1), .val (.int x2), .val (.int x3), .val (.int x4), .val (.int (x0 &&& (3 : Int32))), .val (.int len), .val (.int mm), .val (.int idd), .val (.int aa), .val (.int bb), .val (.ref a30), .unset, .unset, .unset, .unset, .unset, .unset]) (pc' := 52) at_50 rfl
  have G32 := G31.aload (v := (.ref a30)) (pc' := 54) at_52 rfl
  have G33 := G32.iload (v := idd) (pc' := 56) at_54 rfl
  obtain ⟨v34, h34, ⟨ev34, eh34⟩, g34⟩ := G33.callS (argsL := [(.ref a30), (.int idd)]) (rest := []) (pc' := 59) (k' := 1) (j' := 8) (cn3 l Z a0 hw a30 idd h30 n0 G33.size len vs0 V30 N hN hlen (own_F 0 K aa bb) T0 0 (own_np hN).1 (fun i h => absurd h (Nat.not_lt_zero i)) (Or.inl (by unfold own_F; rw [if_neg (by omega)]))) rfl (hw _ (List.mem_of_getElem? (i := 9) rfl)) (hw _ (List.mem_of_getElem? (i := 10) rfl)) (hw _ (List.mem_of_getElem? (i := 11) rfl)) (hw _ (List.mem_of_getElem? (i := 12) rfl)) (by decide) at_56 pd2 rfl (W := 0) rfl rfl (by decide) (by decide) (by decide) (by decide) rfl rfl rfl
  subst ev34
  rw [eh34] at g34
  have G34 := g34 [(.int (own_P (own_sig idd N) N 0))] rfl
  have G35 := G34.istore (L' := #[.val (.int x0), .val (.int x1), .val (.int x2), .val (.int x3), .val (.int x4), .val (.int (x0 &&& (3 : Int32))), .val (.int len), .val (.int mm), .val (.int idd), .val (.int aa), .val (.int bb), .val (.ref a30), .val (.int (own_P (own_sig idd N) N 0)), .unset, .unset, .unset, .unset, .unset]) (pc' := 61) at_59 rfl
  have G36 := G35.iload (v := (own_P (own_sig idd N) N 0)) (pc' := 63) at_61 rfl
  have G37 := G36.ifN at_63 66 (Jvm.Free.XT.i0_lt_f (own_p0 _ hN))
  have G38 := G37.iload (v := (own_P (own_sig idd N) N 0)) (pc' := 68) at_66 rfl
  have G39 := G38.iload (v := len) (pc' := 70) at_68 rfl
  have G40 := G39.icmpY at_70 75 (Jvm.Free.XT.ii_lt_t (own_p1 _ hN _ hlen))
  have G41 := G40.iloadN (v := x0) (pc' := 76) at_75 rfl
  have G42 := G41.iconst (v := (2 : Int32)) (pc' := 77) at_76
  have G43 := G42.iushr (pc' := 78) at_77
  have G44 := G43.bipush (v := (7 : Int32)) (pc' := 80) at_78
  have G45 := G44.iand (pc' := 81) at_80
  have G46 := G45.iload (v := len) (pc' := 83) at_81 rfl
  have G47 := G46.irem (pc' := 84) at_83 (own_nz _ N hlen (own_np hN).1)
  rw [← e_kk] at G47
  have G48 := G47.istore (L' := #[.val (.int x0), .val (.int x1), .val (.int x2), .val (.int x3), .val (.int x4), .val (.int (x0 &&& (3 : Int32))), .val (.int len), .val (.int mm), .val (.int idd), .val (.int aa), .val (.int bb), .val (.ref a30), .val (.int (own_P (own_sig idd N) N 0)), .val (.int kk), .unset, .unset, .unset, .unset]) (pc' := 86) at_84 rfl
  have G49 := G48.iload (v := x4) (pc' := 88) at_86 rfl
  have G50 := G49.iconst (v := (1 : Int32)) (pc' := 89) at_88
  have G51 := G50.iushr (pc' := 90) at_89
  have G52 := G51.bipush (v := (7 : Int32)) (pc' := 92) at_90
  have G53 := G52.iand (pc' := 93) at_92
  have G54 := G53.iload (v := kk) (pc' := 95) at_93 rfl
  have G55 := G54.iconst (v := (1 : Int32)) (pc' := 96) at_95
  have G56 := G55.iadd (pc' := 97) at_96
  have G57 := G56.irem (pc' := 98) at_97 (own_nz1 _ K hK8 hk)
  rw [← e_jj] at G57
  have G58 := G57.istore (L' := #[.val (.int x0), .val (.int x1), .val (.int x2), .val (.int x3), .val (.int x4), .val (.int (x0 &&& (3 : Int32))), .val (.int len), .val (.int mm), .val (.int idd), .val (.int aa), .val (.int bb), .val (.ref a30), .val (.int (own_P (own_sig idd N) N 0)), .val (.int kk), .val (.int jj), .unset, .unset, .unset]) (pc' := 100) at_98 rfl
  have G59 := G58.iload (v := x4) (pc' := 102) at_100 rfl
  have G60 := G59.iconst (v := (1 : Int32)) (pc' := 103) at_102
  have G61 := G60.iand (pc' := 104) at_103
  obtain ⟨zh, e_zh, G74⟩ : ∃ zh : Int32, zh = (if (x4 &&& (1 : Int32)) = (0 : Int32) then (0 : Int32) else (if jj = (len - (1 : Int32)) then (0 : Int32) else (1 : Int32))) ∧ Go p l e room_1 s m #[(.int x0), (.int x1), (.int x2), (.int x3), (.int x4)] below meth c Z x.cls code maxLocals ret n0 s₀ h30 1 8 121 #[.val (.int x0), .val (.int x1), .val (.int x2), .val (.int x3), .val (.int x4), .val (.int (x0 &&& (3 : Int32))), .val (.int len), .val (.int mm), .val (.int idd), .val (.int aa), .val (.int bb), .val (.ref a30), .val (.int (own_P (own_sig idd N) N 0)), .val (.int kk), .val (.int jj), .unset, .unset, .unset] [(.int zh)] := by
    by_cases c104_61 : (x4 &&& (1 : Int32)) = (0 : Int32)
    · have G62 := G61.ifY at_104 120 (Jvm.Free.XT.i0_eq_t c104_61)
      have G63 := G62.iconst (v := (0 : Int32)) (pc' := 121) at_120
      exact ⟨(0 : Int32), by rw [if_pos c104_61], G63⟩
    · have G64 := G61.ifN at_104 107 (Jvm.Free.XT.i0_eq_f c104_61)
      have G65 := G64.iload (v := jj) (pc' := 109) at_107 rfl
      have G66 := G65.iload (v := len) (pc' := 111) at_109 rfl
      have G67 := G66.iconst (v := (1 : Int32)) (pc' := 112) at_111
      have G68 := G67.isub (pc' := 113) at_112
      by_cases c113_68 : jj = (len - (1 : Int32))
      · have G69 := G68.icmpY at_113 120 (Jvm.Free.XT.ii_eq_t c113_68)
        have G70 := G69.iconst (v := (0 : Int32)) (pc' := 121) at_120
        exact ⟨(0 : Int32), by rw [if_neg c104_61, if_pos c113_68], G70⟩
      · have G71 := G68.icmpN at_113 116 (Jvm.Free.XT.ii_eq_f c113_68)
        have G72 := G71.iconst (v := (1 : Int32)) (pc' := 117) at_116
        have G73 := G72.goto at_117 121
        exact ⟨(1 : Int32), by rw [if_neg c104_61, if_neg c113_68], G73⟩
  have G75 := G74.istore (L' := #[.val (.int x0), .val (.int x1), .val (.int x2), .val (.int x3), .val (.int x4), .val (.int (x0 &&& (3 : Int32))), .val (.int len), .val (.int mm), .val (.int idd), .val (.int aa), .val (.int bb), .val (.ref a30), .val (.int (own_P (own_sig idd N) N 0)), .val (.int kk), .val (.int jj), .val (.int zh), .unset, .unset]) (pc' := 123) at_121 rfl
  have G76 := G75.aload (v := (.ref a30)) (pc' := 125) at_123 rfl
  have G77 := G76.iload (v := (own_P (own_sig idd N) N 0)) (pc' := 127) at_125 rfl
  have G78 := G77.iload (v := mm) (pc' := 129) at_127 rfl
  have G79 := G78.iconst (v := (0 : Int32)) (pc' := 130) at_129
  have G80 := G79.iload (v := kk) (pc' := 132) at_130 rfl
  have G81 := G80.iload (v := aa) (pc' := 134) at_132 rfl
  have G82 := G81.iload (v := bb) (pc' := 136) at_134 rfl
  obtain ⟨v83, h83, ⟨ev83, K83, V83⟩, g83⟩ := G82.callS (argsL := [(.ref a30), (.int (own_P (own_sig idd N) N 0)), (.int mm), (.int (0 : Int32)), (.int kk), (.int aa), (.int bb)]) (rest := []) (pc' := 139) (k' := 1) (j' := 8) (cn4 l Z a0 hw a30 (own_P (own_sig idd N) N 0) mm (0 : Int32) kk aa bb h30 n0 G82.size vs0 V30 g_a30 ((own_sig idd N + 0) % N) (by rw [own_nx _ _ _ _ _ hN hm 0 (by decide) (by decide), Nat.zero_add, own_Pi _ _ hN]) (by rw [T0.1]; exact Nat.mod_lt _ (own_np hN).1)) rfl (hw _ (List.mem_of_getElem? (i := 14) rfl)) (hw _ (List.mem_of_getElem? (i := 15) rfl)) (hw _ (List.mem_of_getElem? (i := 3) rfl)) (hw _ (List.mem_of_getElem? (i := 16) rfl)) (by decide) at_136 pd3 rfl (W := 0) rfl rfl (by decide) (by decide) (by decide) (by decide) rfl rfl rfl
  subst ev83
  have G83 := g83 [] rfl
  obtain ⟨vs1, evs1⟩ : ∃ y, y = (if (0 : Int32) < kk then vs0.set ((own_sig idd N + 0) % N) (Value.int (if ((0 : Int32) &&& (1 : Int32)) = (0 : Int32) then aa else bb)) else vs0) := ⟨_, rfl⟩
  rw [← evs1] at V83
  have T1 := own_Tp hN hK T0 (by decide) hk (by decide) evs1
  have G84 := G83.aload (v := (.ref a30)) (pc' := 141) at_139 rfl
  have G85 := G84.iload (v := (own_P (own_sig idd N) N 0)) (pc' := 143) at_141 rfl
  have G86 := G85.iload (v := mm) (pc' := 145) at_143 rfl
  have G87 := G86.iconst (v := (1 : Int32)) (pc' := 146) at_145
  have G88 := G87.iload (v := kk) (pc' := 148) at_146 rfl
  have G89 := G88.iload (v := aa) (pc' := 150) at_148 rfl
  have G90 := G89.iload (v := bb) (pc' := 152) at_150 rfl
  obtain ⟨v91, h91, ⟨ev91, K91, V91⟩, g91⟩ := G90.callS (argsL := [(.ref a30), (.int (own_P (own_sig idd N) N 0)), (.int mm), (.int (1 : Int32)), (.int kk), (.int aa), (.int bb)]) (rest := []) (pc' := 155) (k' := 1) (j' := 8) (cn4 l Z a0 hw a30 (own_P (own_sig idd N) N 0) mm (1 : Int32) kk aa bb h83 n0 G90.size vs1 V83 g_a30 ((own_sig idd N + 1) % N) (by rw [own_nx _ _ _ _ _ hN hm 1 (by decide) (by decide), Nat.zero_add, own_Pi _ _ hN]) (by rw [T1.1]; exact Nat.mod_lt _ (own_np hN).1)) rfl (hw _ (List.mem_of_getElem? (i := 14) rfl)) (hw _ (List.mem_of_getElem? (i := 15) rfl)) (hw _ (List.mem_of_getElem? (i := 3) rfl)) (hw _ (List.mem_of_getElem? (i := 16) rfl)) (by decide) at_152 pd3 rfl (W := 0) rfl rfl (by decide) (by decide) (by decide) (by decide) rfl rfl rfl
  subst ev91
  have G91 := g91 [] rfl
  obtain ⟨vs2, evs2⟩ : ∃ y, y = (if (1 : Int32) < kk then vs1.set ((own_sig idd N + 1) % N) (Value.int (if ((1 : Int32) &&& (1 : Int32)) = (0 : Int32) then aa else bb)) else vs1) := ⟨_, rfl⟩
  rw [← evs2] at V91
  have T2 := own_Tp hN hK T1 (by decide) hk (by decide) evs2
  have G92 := G91.aload (v := (.ref a30)) (pc' := 157) at_155 rfl
  have G93 := G92.iload (v := (own_P (own_sig idd N) N 0)) (pc' := 159) at_157 rfl
  have G94 := G93.iload (v := mm) (pc' := 161) at_159 rfl
  have G95 := G94.iconst (v := (2 : Int32)) (pc' := 162) at_161
  have G96 := G95.iload (v := kk) (pc' := 164) at_162 rfl
  have G97 := G96.iload (v := aa) (pc' := 166) at_164 rfl
  have G98 := G97.iload (v := bb) (pc' := 168) at_166 rfl
  obtain ⟨v99, h99, ⟨ev99, K99, V99⟩, g99⟩ := G98.callS (argsL := [(.ref a30), (.int (own_P (own_sig idd N) N 0)), (.int mm), (.int (2 : Int32)), (.int kk), (.int aa), (.int bb)]) (rest := []) (pc' := 171) (k' := 1) (j' := 8) (cn4 l Z a0 hw a30 (own_P (own_sig idd N) N 0) mm (2 : Int32) kk aa bb h91 n0 G98.size vs2 V91 g_a30 ((own_sig idd N + 2) % N) (by rw [own_nx _ _ _ _ _ hN hm 2 (by decide) (by decide), Nat.zero_add, own_Pi _ _ hN]) (by rw [T2.1]; exact Nat.mod_lt _ (own_np hN).1)) rfl (hw _ (List.mem_of_getElem? (i := 14) rfl)) (hw _ (List.mem_of_getElem? (i := 15) rfl)) (hw _ (List.mem_of_getElem? (i := 3) rfl)) (hw _ (List.mem_of_getElem? (i := 16) rfl)) (by decide) at_168 pd3 rfl (W := 0) rfl rfl (by decide) (by decide) (by decide) (by decide) rfl rfl rfl
  subst ev99
  have G99 := g99 [] rfl
  obtain ⟨vs3, evs3⟩ : ∃ y, y = (if (2 : Int32) < kk then vs2.set ((own_sig idd N + 2) % N) (Value.int (if ((2 : Int32) &&& (1 : Int32)) = (0 : Int32) then aa else bb)) else vs2) := ⟨_, rfl⟩
  rw [← evs3] at V99
  have T3 := own_Tp hN hK T2 (by decide) hk (by decide) evs3
  have G100 := G99.aload (v := (.ref a30)) (pc' := 173) at_171 rfl
  have G101 := G100.iload (v := (own_P (own_sig idd N) N 0)) (pc' := 175) at_173 rfl
  have G102 := G101.iload (v := mm) (pc' := 177) at_175 rfl
  have G103 := G102.iconst (v := (3 : Int32)) (pc' := 178) at_177
  have G104 := G103.iload (v := kk) (pc' := 180) at_178 rfl
  have G105 := G104.iload (v := aa) (pc' := 182) at_180 rfl
  have G106 := G105.iload (v := bb) (pc' := 184) at_182 rfl
  obtain ⟨v107, h107, ⟨ev107, K107, V107⟩, g107⟩ := G106.callS (argsL := [(.ref a30), (.int (own_P (own_sig idd N) N 0)), (.int mm), (.int (3 : Int32)), (.int kk), (.int aa), (.int bb)]) (rest := []) (pc' := 187) (k' := 1) (j' := 8) (cn4 l Z a0 hw a30 (own_P (own_sig idd N) N 0) mm (3 : Int32) kk aa bb h99 n0 G106.size vs3 V99 g_a30 ((own_sig idd N + 3) % N) (by rw [own_nx _ _ _ _ _ hN hm 3 (by decide) (by decide), Nat.zero_add, own_Pi _ _ hN]) (by rw [T3.1]; exact Nat.mod_lt _ (own_np hN).1)) rfl (hw _ (List.mem_of_getElem? (i := 14) rfl)) (hw _ (List.mem_of_getElem? (i := 15) rfl)) (hw _ (List.mem_of_getElem? (i := 3) rfl)) (hw _ (List.mem_of_getElem? (i := 16) rfl)) (by decide) at_184 pd3 rfl (W := 0) rfl rfl (by decide) (by decide) (by decide) (by decide) rfl rfl rfl
  subst ev107
  have G107 := g107 [] rfl
  obtain ⟨vs4, evs4⟩ : ∃ y, y = (if (3 : Int32) < kk then vs3.set ((own_sig idd N + 3) % N) (Value.int (if ((3 : Int32) &&& (1 : Int32)) = (0 : Int32) then aa else bb)) else vs3) := ⟨_, rfl⟩
  rw [← evs4] at V107
  have T4 := own_Tp hN hK T3 (by decide) hk (by decide) evs4
  have G108 := G107.aload (v := (.ref a30)) (pc' := 189) at_187 rfl
  have G109 := G108.iload (v := (own_P (own_sig idd N) N 0)) (pc' := 191) at_189 rfl
  have G110 := G109.iload (v := mm) (pc' := 193) at_191 rfl
  have G111 := G110.iconst (v := (4 : Int32)) (pc' := 194) at_193
  have G112 := G111.iload (v := kk) (pc' := 196) at_194 rfl
  have G113 := G112.iload (v := aa) (pc' := 198) at_196 rfl
  have G114 := G113.iload (v := bb) (pc' := 200) at_198 rfl
  obtain ⟨v115, h115, ⟨ev115, K115, V115⟩, g115⟩ := G114.callS (argsL := [(.ref a30), (.int (own_P (own_sig idd N) N 0)), (.int mm), (.int (4 : Int32)), (.int kk), (.int aa), (.int bb)]) (rest := []) (pc' := 203) (k' := 1) (j' := 8) (cn4 l Z a0 hw a30 (own_P (own_sig idd N) N 0) mm (4 : Int32) kk aa bb h107 n0 G114.size vs4 V107 g_a30 ((own_sig idd N + 4) % N) (by rw [own_nx _ _ _ _ _ hN hm 4 (by decide) (by decide), Nat.zero_add, own_Pi _ _ hN]) (by rw [T4.1]; exact Nat.mod_lt _ (own_np hN).1)) rfl (hw _ (List.mem_of_getElem? (i := 14) rfl)) (hw _ (List.mem_of_getElem? (i := 15) rfl)) (hw _ (List.mem_of_getElem? (i := 3) rfl)) (hw _ (List.mem_of_getElem? (i := 16) rfl)) (by decide) at_200 pd3 rfl (W := 0) rfl rfl (by decide) (by decide) (by decide) (by decide) rfl rfl rfl
  subst ev115
  have G115 := g115 [] rfl
  obtain ⟨vs5, evs5⟩ : ∃ y, y = (if (4 : Int32) < kk then vs4.set ((own_sig idd N + 4) % N) (Value.int (if ((4 : Int32) &&& (1 : Int32)) = (0 : Int32) then aa else bb)) else vs4) := ⟨_, rfl⟩
  rw [← evs5] at V115
  have T5 := own_Tp hN hK T4 (by decide) hk (by decide) evs5
  have G116 := G115.aload (v := (.ref a30)) (pc' := 205) at_203 rfl
  have G117 := G116.iload (v := (own_P (own_sig idd N) N 0)) (pc' := 207) at_205 rfl
  have G118 := G117.iload (v := mm) (pc' := 209) at_207 rfl
  have G119 := G118.iconst (v := (5 : Int32)) (pc' := 210) at_209
  have G120 := G119.iload (v := kk) (pc' := 212) at_210 rfl
  have G121 := G120.iload (v := aa) (pc' := 214) at_212 rfl
  have G122 := G121.iload (v := bb) (pc' := 216) at_214 rfl
  obtain ⟨v123, h123, ⟨ev123, K123, V123⟩, g123⟩ := G122.callS (argsL := [(.ref a30), (.int (own_P (own_sig idd N) N 0)), (.int mm), (.int (5 : Int32)), (.int kk), (.int aa), (.int bb)]) (rest := []) (pc' := 219) (k' := 1) (j' := 8) (cn4 l Z a0 hw a30 (own_P (own_sig idd N) N 0) mm (5 : Int32) kk aa bb h115 n0 G122.size vs5 V115 g_a30 ((own_sig idd N + 5) % N) (by rw [own_nx _ _ _ _ _ hN hm 5 (by decide) (by decide), Nat.zero_add, own_Pi _ _ hN]) (by rw [T5.1]; exact Nat.mod_lt _ (own_np hN).1)) rfl (hw _ (List.mem_of_getElem? (i := 14) rfl)) (hw _ (List.mem_of_getElem? (i := 15) rfl)) (hw _ (List.mem_of_getElem? (i := 3) rfl)) (hw _ (List.mem_of_getElem? (i := 16) rfl)) (by decide) at_216 pd3 rfl (W := 0) rfl rfl (by decide) (by decide) (by decide) (by decide) rfl rfl rfl
  subst ev123
  have G123 := g123 [] rfl
  obtain ⟨vs6, evs6⟩ : ∃ y, y = (if (5 : Int32) < kk then vs5.set ((own_sig idd N + 5) % N) (Value.int (if ((5 : Int32) &&& (1 : Int32)) = (0 : Int32) then aa else bb)) else vs5) := ⟨_, rfl⟩
  rw [← evs6] at V123
  have T6 := own_Tp hN hK T5 (by decide) hk (by decide) evs6
  have G124 := G123.aload (v := (.ref a30)) (pc' := 221) at_219 rfl
  have G125 := G124.iload (v := (own_P (own_sig idd N) N 0)) (pc' := 223) at_221 rfl
  have G126 := G125.iload (v := mm) (pc' := 225) at_223 rfl
  have G127 := G126.bipush (v := (6 : Int32)) (pc' := 227) at_225
  have G128 := G127.iload (v := kk) (pc' := 229) at_227 rfl
  have G129 := G128.iload (v := aa) (pc' := 231) at_229 rfl
  have G130 := G129.iload (v := bb) (pc' := 233) at_231 rfl
  obtain ⟨v131, h131, ⟨ev131, K131, V131⟩, g131⟩ := G130.callS (argsL := [(.ref a30), (.int (own_P (own_sig idd N) N 0)), (.int mm), (.int (6 : Int32)), (.int kk), (.int aa), (.int bb)]) (rest := []) (pc' := 236) (k' := 1) (j' := 8) (cn4 l Z a0 hw a30 (own_P (own_sig idd N) N 0) mm (6 : Int32) kk aa bb h123 n0 G130.size vs6 V123 g_a30 ((own_sig idd N + 6) % N) (by rw [own_nx _ _ _ _ _ hN hm 6 (by decide) (by decide), Nat.zero_add, own_Pi _ _ hN]) (by rw [T6.1]; exact Nat.mod_lt _ (own_np hN).1)) rfl (hw _ (List.mem_of_getElem? (i := 14) rfl)) (hw _ (List.mem_of_getElem? (i := 15) rfl)) (hw _ (List.mem_of_getElem? (i := 3) rfl)) (hw _ (List.mem_of_getElem? (i := 16) rfl)) (by decide) at_233 pd3 rfl (W := 0) rfl rfl (by decide) (by decide) (by decide) (by decide) rfl rfl rfl
  subst ev131
  have G131 := g131 [] rfl
  obtain ⟨vs7, evs7⟩ : ∃ y, y = (if (6 : Int32) < kk then vs6.set ((own_sig idd N + 6) % N) (Value.int (if ((6 : Int32) &&& (1 : Int32)) = (0 : Int32) then aa else bb)) else vs6) := ⟨_, rfl⟩
  rw [← evs7] at V131
  have T7 := own_Tp hN hK T6 (by decide) hk (by decide) evs7
  have G132 := G131.iload (v := x4) (pc' := 238) at_236 rfl
  have G133 := G132.iconst (v := (4 : Int32)) (pc' := 239) at_238
  have G134 := G133.iushr (pc' := 240) at_239
  have G135 := G134.iconst (v := (3 : Int32)) (pc' := 241) at_240
  have G136 := G135.iand (pc' := 242) at_241
  have G137 := G136.istore (L' := #[.val (.int x0), .val (.int x1), .val (.int x2), .val (.int x3), .val (.int x4), .val (.int (x0 &&& (3 : Int32))), .val (.int len), .val (.int mm), .val (.int idd), .val (.int aa), .val (.int bb), .val (.ref a30), .val (.int (own_P (own_sig idd N) N 0)), .val (.int kk), .val (.int jj), .val (.int zh), .val (.int (((x4.toUInt32 >>> ((4 : Int32) &&& 31).toUInt32).toInt32) &&& (3 : Int32))), .unset]) (pc' := 244) at_242 rfl
  have G138 := G137.iload (v := kk) (pc' := 246) at_244 rfl
  have G139 := G138.iconst (v := (2 : Int32)) (pc' := 247) at_246
  have G140 := G139.iadd (pc' := 248) at_247
  have G141 := G140.iload (v := len) (pc' := 250) at_248 rfl
  by_cases c250_141 : len < (kk + (2 : Int32))
  · have G142 := G141.icmpY at_250 310 (Jvm.Free.XT.ii_gt_t c250_141)
    have G143 := G142.iload (v := zh) (pc' := 312) at_310 rfl
    by_cases c312_143 : zh = (0 : Int32)
    · have G144 := G143.ifY at_312 328 (Jvm.Free.XT.i0_eq_t c312_143)
      have G145 := G144.iload (v := zh) (pc' := 330) at_328 rfl
      have G146 := G145.ifY at_330 344 (Jvm.Free.XT.i0_eq_t c312_143)
      have G147 := G146.iload (v := (own_P (own_sig idd N) N 0)) (pc' := 346) at_344 rfl
      have G148 := G147.iload (v := kk) (pc' := 348) at_346 rfl
      have G149 := G148.iadd (pc' := 349) at_348
      have G150 := G149.iload (v := mm) (pc' := 351) at_349 rfl
      have G151 := G150.iand (pc' := 352) at_351
      rw [own_nx _ _ _ _ _ hN hm K hk (by omega), Nat.zero_add] at G151
      have G152 := G151.istore (L' := #[.val (.int x0), .val (.int x1), .val (.int x2), .val (.int x3), .val (.int x4), .val (.int (x0 &&& (3 : Int32))), .val (.int len), .val (.int mm), .val (.int idd), .val (.int aa), .val (.int bb), .val (.ref a30), .val (.int (own_P (own_sig idd N) N 0)), .val (.int kk), .val (.int jj), .val (.int zh), .val (.int (((x4.toUInt32 >>> ((4 : Int32) &&& 31).toUInt32).toInt32) &&& (3 : Int32))), .val (.int (own_P (own_sig idd N) N K))]) (pc' := 354) at_352 rfl
      have G153 := G152.aload (v := (.ref a30)) (pc' := 356) at_354 rfl
      have G154 := G153.iload (v := idd) (pc' := 358) at_356 rfl
      obtain ⟨v155, h155, ⟨ev155, eh155⟩, g155⟩ := G154.callS (argsL := [(.ref a30), (.int idd)]) (rest := []) (pc' := 361) (k' := 1) (j' := 8) (cn3 l Z a0 hw a30 idd h131 n0 G154.size len vs7 V131 N hN hlen (own_F 7 K aa bb) T7 K hK (fun i hi => by exact own_Fi K i aa bb idd (by omega) hK8 haa hbb) (Or.inl (own_FK K aa bb))) rfl (hw _ (List.mem_of_getElem? (i := 9) rfl)) (hw _ (List.mem_of_getElem? (i := 10) rfl)) (hw _ (List.mem_of_getElem? (i := 11) rfl)) (hw _ (List.mem_of_getElem? (i := 12) rfl)) (by decide) at_358 pd2 rfl (W := 0) rfl rfl (by decide) (by decide) (by decide) (by decide) rfl rfl rfl
      subst ev155
      rw [eh155] at g155
      have G155 := g155 [(.int (own_P (own_sig idd N) N K))] rfl
      have G156 := G155.iload (v := (own_P (own_sig idd N) N K)) (pc' := 363) at_361 rfl
      have G157 := G156.icmpN at_363 366 (Jvm.Free.XT.ii_ne_f rfl)
      have G158 := G157.iconst (v := (1 : Int32)) (pc' := 367) at_366
      have G159 := G158.goto at_367 371
      exact G159.retZ at_371 rfl (Or.inr rfl) rfl
    · have G160 := G143.ifN at_312 315 (Jvm.Free.XT.i0_eq_f c312_143)
      have G161 := G160.aload (v := (.ref a30)) (pc' := 317) at_315 rfl
      have G162 := G161.iload (v := (own_P (own_sig idd N) N 0)) (pc' := 319) at_317 rfl
      have G163 := G162.iload (v := jj) (pc' := 321) at_319 rfl
      have G164 := G163.iadd (pc' := 322) at_321
      have G165 := G164.iload (v := mm) (pc' := 324) at_322 rfl
      have G166 := G165.iand (pc' := 325) at_324
      have G167 := G166.iload (v := idd) (pc' := 327) at_325 rfl
      have hJN : J < N := Nat.lt_of_le_of_lt hJ hK
      rw [own_nx _ _ _ _ _ hN hm J hj (by omega), Nat.zero_add] at G167
      obtain ⟨h168, W168, V168, G168⟩ := G167.stI (i := ((own_sig idd N + J) % N)) (pc' := 328) V131 g_a30 (own_Pi _ _ hN) (by rw [T7.1]; exact Nat.mod_lt _ (own_np hN).1) at_327
      have T168b := own_Ts (x := idd) hN T7 hJN
      have G169 := G168.iload (v := zh) (pc' := 330) at_328 rfl
      have G170 := G169.ifN at_330 333 (Jvm.Free.XT.i0_eq_f c312_143)
      have G171 := G170.iload (v := (own_P (own_sig idd N) N 0)) (pc' := 335) at_333 rfl
      have G172 := G171.iload (v := jj) (pc' := 337) at_335 rfl
      have G173 := G172.iadd (pc' := 338) at_337
      have G174 := G173.iload (v := mm) (pc' := 340) at_338 rfl
      have G175 := G174.iand (pc' := 341) at_340
      have G176 := G175.goto at_341 352
      rw [own_nx _ _ _ _ _ hN hm J hj (by omega), Nat.zero_add] at G176
      have G177 := G176.istore (L' := #[.val (.int x0), .val (.int x1), .val (.int x2), .val (.int x3), .val (.int x4), .val (.int (x0 &&& (3 : Int32))), .val (.int len), .val (.int mm), .val (.int idd), .val (.int aa), .val (.int bb), .val (.ref a30), .val (.int (own_P (own_sig idd N) N 0)), .val (.int kk), .val (.int jj), .val (.int zh), .val (.int (((x4.toUInt32 >>> ((4 : Int32) &&& 31).toUInt32).toInt32) &&& (3 : Int32))), .val (.int (own_P (own_sig idd N) N J))]) (pc' := 354) at_352 rfl
      have G178 := G177.aload (v := (.ref a30)) (pc' := 356) at_354 rfl
      have G179 := G178.iload (v := idd) (pc' := 358) at_356 rfl
      obtain ⟨v180, h180, ⟨ev180, eh180⟩, g180⟩ := G179.callS (argsL := [(.ref a30), (.int idd)]) (rest := []) (pc' := 361) (k' := 1) (j' := 8) (cn3 l Z a0 hw a30 idd h168 n0 G179.size len (List.set vs7 (((own_sig idd N + J) % N)) (.int idd)) V168 N hN hlen (fun i => if i = J then idd else (own_F 7 K aa bb) i) T168b J hJN (fun i hi => by show ¬ (if i = J then idd else _) = (-1 : Int32) ∧ ¬ (if i = J then idd else _) = idd; rw [if_neg (by omega)]; exact own_Fi K i aa bb idd (by omega) hK8 haa hbb) (Or.inr (if_pos rfl))) rfl (hw _ (List.mem_of_getElem? (i := 9) rfl)) (hw _ (List.mem_of_getElem? (i := 10) rfl)) (hw _ (List.mem_of_getElem? (i := 11) rfl)) (hw _ (List.mem_of_getElem? (i := 12) rfl)) (by decide) at_358 pd2 rfl (W := 0) rfl rfl (by decide) (by decide) (by decide) (by decide) rfl rfl rfl
      subst ev180
      rw [eh180] at g180
      have G180 := g180 [(.int (own_P (own_sig idd N) N J))] rfl
      have G181 := G180.iload (v := (own_P (own_sig idd N) N J)) (pc' := 363) at_361 rfl
      have G182 := G181.icmpN at_363 366 (Jvm.Free.XT.ii_ne_f rfl)
      have G183 := G182.iconst (v := (1 : Int32)) (pc' := 367) at_366
      have G184 := G183.goto at_367 371
      exact G184.retZ at_371 rfl (Or.inr rfl) rfl
  · have G185 := G141.icmpN at_250 253 (Jvm.Free.XT.ii_gt_f c250_141)
    have G186 := G185.iload (v := (own_P (own_sig idd N) N 0)) (pc' := 255) at_253 rfl
    have G187 := G186.iload (v := kk) (pc' := 257) at_255 rfl
    have G188 := G187.iadd (pc' := 258) at_257
    have G189 := G188.iconst (v := (1 : Int32)) (pc' := 259) at_258
    have G190 := G189.iadd (pc' := 260) at_259
    have G191 := G190.iload (v := mm) (pc' := 262) at_260 rfl
    have G192 := G191.iand (pc' := 263) at_262
    rw [own_p2 _ K hN mm kk hm hk hK] at G192
    have hK2 : K + 1 < N := own_k2 kk len K N hN hk hlen hK c250_141
    have G193 := G192.istore (L' := #[.val (.int x0), .val (.int x1), .val (.int x2), .val (.int x3), .val (.int x4), .val (.int (x0 &&& (3 : Int32))), .val (.int len), .val (.int mm), .val (.int idd), .val (.int aa), .val (.int bb), .val (.ref a30), .val (.int (own_P (own_sig idd N) N 0)), .val (.int kk), .val (.int jj), .val (.int zh), .val (.int (((x4.toUInt32 >>> ((4 : Int32) &&& 31).toUInt32).toInt32) &&& (3 : Int32))), .val (.int (own_P (own_sig idd N) N (K + 1)))]) (pc' := 265) at_263 rfl
    have G194 := G193.iload (v := (((x4.toUInt32 >>> ((4 : Int32) &&& 31).toUInt32).toInt32) &&& (3 : Int32))) (pc' := 267) at_265 rfl
    have G195 := G194.iconst (v := (1 : Int32)) (pc' := 268) at_267
    by_cases c268_195 : (((x4.toUInt32 >>> ((4 : Int32) &&& 31).toUInt32).toInt32) &&& (3 : Int32)) = (1 : Int32)
    · have G196 := G195.icmpN at_268 271 (Jvm.Free.XT.ii_ne_f c268_195)
      have G197 := G196.aload (v := (.ref a30)) (pc' := 273) at_271 rfl
      have G198 := G197.iload (v := (own_P (own_sig idd N) N (K + 1))) (pc' := 275) at_273 rfl
      have G199 := G198.iload (v := idd) (pc' := 277) at_275 rfl
      obtain ⟨h200, W200, V200, G200⟩ := G199.stI (i := ((own_sig idd N + (K + 1)) % N)) (pc' := 278) V131 g_a30 (own_Pi _ _ hN) (by rw [T7.1]; exact Nat.mod_lt _ (own_np hN).1) at_277
      have T200a := own_Ts (x := idd) hN T7 hK2
      have G201 := G200.goto at_278 310
      have G202 := G201.iload (v := zh) (pc' := 312) at_310 rfl
      by_cases c312_202 : zh = (0 : Int32)
      · have G203 := G202.ifY at_312 328 (Jvm.Free.XT.i0_eq_t c312_202)
        have G204 := G203.iload (v := zh) (pc' := 330) at_328 rfl
        have G205 := G204.ifY at_330 344 (Jvm.Free.XT.i0_eq_t c312_202)
        have G206 := G205.iload (v := (own_P (own_sig idd N) N 0)) (pc' := 346) at_344 rfl
        have G207 := G206.iload (v := kk) (pc' := 348) at_346 rfl
        have G208 := G207.iadd (pc' := 349) at_348
        have G209 := G208.iload (v := mm) (pc' := 351) at_349 rfl
        have G210 := G209.iand (pc' := 352) at_351
        rw [own_nx _ _ _ _ _ hN hm K hk (by omega), Nat.zero_add] at G210
        have G211 := G210.istore (L' := #[.val (.int x0), .val (.int x1), .val (.int x2), .val (.int x3), .val (.int x4), .val (.int (x0 &&& (3 : Int32))), .val (.int len), .val (.int mm), .val (.int idd), .val (.int aa), .val (.int bb), .val (.ref a30), .val (.int (own_P (own_sig idd N) N 0)), .val (.int kk), .val (.int jj), .val (.int zh), .val (.int (((x4.toUInt32 >>> ((4 : Int32) &&& 31).toUInt32).toInt32) &&& (3 : Int32))), .val (.int (own_P (own_sig idd N) N K))]) (pc' := 354) at_352 rfl
        have G212 := G211.aload (v := (.ref a30)) (pc' := 356) at_354 rfl
        have G213 := G212.iload (v := idd) (pc' := 358) at_356 rfl
        obtain ⟨v214, h214, ⟨ev214, eh214⟩, g214⟩ := G213.callS (argsL := [(.ref a30), (.int idd)]) (rest := []) (pc' := 361) (k' := 1) (j' := 8) (cn3 l Z a0 hw a30 idd h200 n0 G213.size len (List.set vs7 (((own_sig idd N + (K + 1)) % N)) (.int idd)) V200 N hN hlen (fun i => if i = K + 1 then idd else (own_F 7 K aa bb) i) T200a K hK (fun i hi => by show ¬ (if i = K + 1 then _ else _) = (-1 : Int32) ∧ ¬ (if i = K + 1 then _ else _) = idd; rw [if_neg (by omega)]; exact own_Fi K i aa bb idd (by omega) hK8 haa hbb) (Or.inl ((if_neg (by omega)).trans (own_FK K aa bb)))) rfl (hw _ (List.mem_of_getElem? (i := 9) rfl)) (hw _ (List.mem_of_getElem? (i := 10) rfl)) (hw _ (List.mem_of_getElem? (i := 11) rfl)) (hw _ (List.mem_of_getElem? (i := 12) rfl)) (by decide) at_358 pd2 rfl (W := 0) rfl rfl (by decide) (by decide) (by decide) (by decide) rfl rfl rfl
        subst ev214
        rw [eh214] at g214
        have G214 := g214 [(.int (own_P (own_sig idd N) N K))] rfl
        have G215 := G214.iload (v := (own_P (own_sig idd N) N K)) (pc' := 363) at_361 rfl
        have G216 := G215.icmpN at_363 366 (Jvm.Free.XT.ii_ne_f rfl)
        have G217 := G216.iconst (v := (1 : Int32)) (pc' := 367) at_366
        have G218 := G217.goto at_367 371
        exact G218.retZ at_371 rfl (Or.inr rfl) rfl
      · have G219 := G202.ifN at_312 315 (Jvm.Free.XT.i0_eq_f c312_202)
        have G220 := G219.aload (v := (.ref a30)) (pc' := 317) at_315 rfl
        have G221 := G220.iload (v := (own_P (own_sig idd N) N 0)) (pc' := 319) at_317 rfl
        have G222 := G221.iload (v := jj) (pc' := 321) at_319 rfl
        have G223 := G222.iadd (pc' := 322) at_321
        have G224 := G223.iload (v := mm) (pc' := 324) at_322 rfl
        have G225 := G224.iand (pc' := 325) at_324
        have G226 := G225.iload (v := idd) (pc' := 327) at_325 rfl
        have hJN : J < N := Nat.lt_of_le_of_lt hJ hK
        rw [own_nx _ _ _ _ _ hN hm J hj (by omega), Nat.zero_add] at G226
        obtain ⟨h227, W227, V227, G227⟩ := G226.stI (i := ((own_sig idd N + J) % N)) (pc' := 328) V200 g_a30 (own_Pi _ _ hN) (by rw [T200a.1]; exact Nat.mod_lt _ (own_np hN).1) at_327
        have T227b := own_Ts (x := idd) hN T200a hJN
        have G228 := G227.iload (v := zh) (pc' := 330) at_328 rfl
        have G229 := G228.ifN at_330 333 (Jvm.Free.XT.i0_eq_f c312_202)
        have G230 := G229.iload (v := (own_P (own_sig idd N) N 0)) (pc' := 335) at_333 rfl
        have G231 := G230.iload (v := jj) (pc' := 337) at_335 rfl
        have G232 := G231.iadd (pc' := 338) at_337
        have G233 := G232.iload (v := mm) (pc' := 340) at_338 rfl
        have G234 := G233.iand (pc' := 341) at_340
        have G235 := G234.goto at_341 352
        rw [own_nx _ _ _ _ _ hN hm J hj (by omega), Nat.zero_add] at G235
        have G236 := G235.istore (L' := #[.val (.int x0), .val (.int x1), .val (.int x2), .val (.int x3), .val (.int x4), .val (.int (x0 &&& (3 : Int32))), .val (.int len), .val (.int mm), .val (.int idd), .val (.int aa), .val (.int bb), .val (.ref a30), .val (.int (own_P (own_sig idd N) N 0)), .val (.int kk), .val (.int jj), .val (.int zh), .val (.int (((x4.toUInt32 >>> ((4 : Int32) &&& 31).toUInt32).toInt32) &&& (3 : Int32))), .val (.int (own_P (own_sig idd N) N J))]) (pc' := 354) at_352 rfl
        have G237 := G236.aload (v := (.ref a30)) (pc' := 356) at_354 rfl
        have G238 := G237.iload (v := idd) (pc' := 358) at_356 rfl
        obtain ⟨v239, h239, ⟨ev239, eh239⟩, g239⟩ := G238.callS (argsL := [(.ref a30), (.int idd)]) (rest := []) (pc' := 361) (k' := 1) (j' := 8) (cn3 l Z a0 hw a30 idd h227 n0 G238.size len (List.set (List.set vs7 (((own_sig idd N + (K + 1)) % N)) (.int idd)) (((own_sig idd N + J) % N)) (.int idd)) V227 N hN hlen (fun i => if i = J then idd else (fun i => if i = K + 1 then idd else (own_F 7 K aa bb) i) i) T227b J hJN (fun i hi => by show ¬ (if i = J then idd else _) = (-1 : Int32) ∧ ¬ (if i = J then idd else _) = idd; rw [if_neg (by omega)]; show ¬ (if i = K + 1 then _ else _) = (-1 : Int32) ∧ ¬ (if i = K + 1 then _ else _) = idd; rw [if_neg (by omega)]; exact own_Fi K i aa bb idd (by omega) hK8 haa hbb) (Or.inr (if_pos rfl))) rfl (hw _ (List.mem_of_getElem? (i := 9) rfl)) (hw _ (List.mem_of_getElem? (i := 10) rfl)) (hw _ (List.mem_of_getElem? (i := 11) rfl)) (hw _ (List.mem_of_getElem? (i := 12) rfl)) (by decide) at_358 pd2 rfl (W := 0) rfl rfl (by decide) (by decide) (by decide) (by decide) rfl rfl rfl
        subst ev239
        rw [eh239] at g239
        have G239 := g239 [(.int (own_P (own_sig idd N) N J))] rfl
        have G240 := G239.iload (v := (own_P (own_sig idd N) N J)) (pc' := 363) at_361 rfl
        have G241 := G240.icmpN at_363 366 (Jvm.Free.XT.ii_ne_f rfl)
        have G242 := G241.iconst (v := (1 : Int32)) (pc' := 367) at_366
        have G243 := G242.goto at_367 371
        exact G243.retZ at_371 rfl (Or.inr rfl) rfl
    · have G244 := G195.icmpY at_268 281 (Jvm.Free.XT.ii_ne_t c268_195)
      have G245 := G244.iload (v := (((x4.toUInt32 >>> ((4 : Int32) &&& 31).toUInt32).toInt32) &&& (3 : Int32))) (pc' := 283) at_281 rfl
      have G246 := G245.iconst (v := (2 : Int32)) (pc' := 284) at_283
      by_cases c284_246 : (((x4.toUInt32 >>> ((4 : Int32) &&& 31).toUInt32).toInt32) &&& (3 : Int32)) = (2 : Int32)
      · have G247 := G246.icmpN at_284 287 (Jvm.Free.XT.ii_ne_f c284_246)
        have G248 := G247.aload (v := (.ref a30)) (pc' := 289) at_287 rfl
        have G249 := G248.iload (v := (own_P (own_sig idd N) N (K + 1))) (pc' := 291) at_289 rfl
        have G250 := G249.iload (v := aa) (pc' := 293) at_291 rfl
        obtain ⟨h251, W251, V251, G251⟩ := G250.stI (i := ((own_sig idd N + (K + 1)) % N)) (pc' := 294) V131 g_a30 (own_Pi _ _ hN) (by rw [T7.1]; exact Nat.mod_lt _ (own_np hN).1) at_293
        have T251a := own_Ts (x := aa) hN T7 hK2
        have G252 := G251.goto at_294 310
        have G253 := G252.iload (v := zh) (pc' := 312) at_310 rfl
        by_cases c312_253 : zh = (0 : Int32)
        · have G254 := G253.ifY at_312 328 (Jvm.Free.XT.i0_eq_t c312_253)
          have G255 := G254.iload (v := zh) (pc' := 330) at_328 rfl
          have G256 := G255.ifY at_330 344 (Jvm.Free.XT.i0_eq_t c312_253)
          have G257 := G256.iload (v := (own_P (own_sig idd N) N 0)) (pc' := 346) at_344 rfl
          have G258 := G257.iload (v := kk) (pc' := 348) at_346 rfl
          have G259 := G258.iadd (pc' := 349) at_348
          have G260 := G259.iload (v := mm) (pc' := 351) at_349 rfl
          have G261 := G260.iand (pc' := 352) at_351
          rw [own_nx _ _ _ _ _ hN hm K hk (by omega), Nat.zero_add] at G261
          have G262 := G261.istore (L' := #[.val (.int x0), .val (.int x1), .val (.int x2), .val (.int x3), .val (.int x4), .val (.int (x0 &&& (3 : Int32))), .val (.int len), .val (.int mm), .val (.int idd), .val (.int aa), .val (.int bb), .val (.ref a30), .val (.int (own_P (own_sig idd N) N 0)), .val (.int kk), .val (.int jj), .val (.int zh), .val (.int (((x4.toUInt32 >>> ((4 : Int32) &&& 31).toUInt32).toInt32) &&& (3 : Int32))), .val (.int (own_P (own_sig idd N) N K))]) (pc' := 354) at_352 rfl
          have G263 := G262.aload (v := (.ref a30)) (pc' := 356) at_354 rfl
          have G264 := G263.iload (v := idd) (pc' := 358) at_356 rfl
          obtain ⟨v265, h265, ⟨ev265, eh265⟩, g265⟩ := G264.callS (argsL := [(.ref a30), (.int idd)]) (rest := []) (pc' := 361) (k' := 1) (j' := 8) (cn3 l Z a0 hw a30 idd h251 n0 G264.size len (List.set vs7 (((own_sig idd N + (K + 1)) % N)) (.int aa)) V251 N hN hlen (fun i => if i = K + 1 then aa else (own_F 7 K aa bb) i) T251a K hK (fun i hi => by show ¬ (if i = K + 1 then _ else _) = (-1 : Int32) ∧ ¬ (if i = K + 1 then _ else _) = idd; rw [if_neg (by omega)]; exact own_Fi K i aa bb idd (by omega) hK8 haa hbb) (Or.inl ((if_neg (by omega)).trans (own_FK K aa bb)))) rfl (hw _ (List.mem_of_getElem? (i := 9) rfl)) (hw _ (List.mem_of_getElem? (i := 10) rfl)) (hw _ (List.mem_of_getElem? (i := 11) rfl)) (hw _ (List.mem_of_getElem? (i := 12) rfl)) (by decide) at_358 pd2 rfl (W := 0) rfl rfl (by decide) (by decide) (by decide) (by decide) rfl rfl rfl
          subst ev265
          rw [eh265] at g265
          have G265 := g265 [(.int (own_P (own_sig idd N) N K))] rfl
          have G266 := G265.iload (v := (own_P (own_sig idd N) N K)) (pc' := 363) at_361 rfl
          have G267 := G266.icmpN at_363 366 (Jvm.Free.XT.ii_ne_f rfl)
          have G268 := G267.iconst (v := (1 : Int32)) (pc' := 367) at_366
          have G269 := G268.goto at_367 371
          exact G269.retZ at_371 rfl (Or.inr rfl) rfl
        · have G270 := G253.ifN at_312 315 (Jvm.Free.XT.i0_eq_f c312_253)
          have G271 := G270.aload (v := (.ref a30)) (pc' := 317) at_315 rfl
          have G272 := G271.iload (v := (own_P (own_sig idd N) N 0)) (pc' := 319) at_317 rfl
          have G273 := G272.iload (v := jj) (pc' := 321) at_319 rfl
          have G274 := G273.iadd (pc' := 322) at_321
          have G275 := G274.iload (v := mm) (pc' := 324) at_322 rfl
          have G276 := G275.iand (pc' := 325) at_324
          have G277 := G276.iload (v := idd) (pc' := 327) at_325 rfl
          have hJN : J < N := Nat.lt_of_le_of_lt hJ hK
          rw [own_nx _ _ _ _ _ hN hm J hj (by omega), Nat.zero_add] at G277
          obtain ⟨h278, W278, V278, G278⟩ := G277.stI (i := ((own_sig idd N + J) % N)) (pc' := 328) V251 g_a30 (own_Pi _ _ hN) (by rw [T251a.1]; exact Nat.mod_lt _ (own_np hN).1) at_327
          have T278b := own_Ts (x := idd) hN T251a hJN
          have G279 := G278.iload (v := zh) (pc' := 330) at_328 rfl
          have G280 := G279.ifN at_330 333 (Jvm.Free.XT.i0_eq_f c312_253)
          have G281 := G280.iload (v := (own_P (own_sig idd N) N 0)) (pc' := 335) at_333 rfl
          have G282 := G281.iload (v := jj) (pc' := 337) at_335 rfl
          have G283 := G282.iadd (pc' := 338) at_337
          have G284 := G283.iload (v := mm) (pc' := 340) at_338 rfl
          have G285 := G284.iand (pc' := 341) at_340
          have G286 := G285.goto at_341 352
          rw [own_nx _ _ _ _ _ hN hm J hj (by omega), Nat.zero_add] at G286
          have G287 := G286.istore (L' := #[.val (.int x0), .val (.int x1), .val (.int x2), .val (.int x3), .val (.int x4), .val (.int (x0 &&& (3 : Int32))), .val (.int len), .val (.int mm), .val (.int idd), .val (.int aa), .val (.int bb), .val (.ref a30), .val (.int (own_P (own_sig idd N) N 0)), .val (.int kk), .val (.int jj), .val (.int zh), .val (.int (((x4.toUInt32 >>> ((4 : Int32) &&& 31).toUInt32).toInt32) &&& (3 : Int32))), .val (.int (own_P (own_sig idd N) N J))]) (pc' := 354) at_352 rfl
          have G288 := G287.aload (v := (.ref a30)) (pc' := 356) at_354 rfl
          have G289 := G288.iload (v := idd) (pc' := 358) at_356 rfl
          obtain ⟨v290, h290, ⟨ev290, eh290⟩, g290⟩ := G289.callS (argsL := [(.ref a30), (.int idd)]) (rest := []) (pc' := 361) (k' := 1) (j' := 8) (cn3 l Z a0 hw a30 idd h278 n0 G289.size len (List.set (List.set vs7 (((own_sig idd N + (K + 1)) % N)) (.int aa)) (((own_sig idd N + J) % N)) (.int idd)) V278 N hN hlen (fun i => if i = J then idd else (fun i => if i = K + 1 then aa else (own_F 7 K aa bb) i) i) T278b J hJN (fun i hi => by show ¬ (if i = J then idd else _) = (-1 : Int32) ∧ ¬ (if i = J then idd else _) = idd; rw [if_neg (by omega)]; show ¬ (if i = K + 1 then _ else _) = (-1 : Int32) ∧ ¬ (if i = K + 1 then _ else _) = idd; rw [if_neg (by omega)]; exact own_Fi K i aa bb idd (by omega) hK8 haa hbb) (Or.inr (if_pos rfl))) rfl (hw _ (List.mem_of_getElem? (i := 9) rfl)) (hw _ (List.mem_of_getElem? (i := 10) rfl)) (hw _ (List.mem_of_getElem? (i := 11) rfl)) (hw _ (List.mem_of_getElem? (i := 12) rfl)) (by decide) at_358 pd2 rfl (W := 0) rfl rfl (by decide) (by decide) (by decide) (by decide) rfl rfl rfl
          subst ev290
          rw [eh290] at g290
          have G290 := g290 [(.int (own_P (own_sig idd N) N J))] rfl
          have G291 := G290.iload (v := (own_P (own_sig idd N) N J)) (pc' := 363) at_361 rfl
          have G292 := G291.icmpN at_363 366 (Jvm.Free.XT.ii_ne_f rfl)
          have G293 := G292.iconst (v := (1 : Int32)) (pc' := 367) at_366
          have G294 := G293.goto at_367 371
          exact G294.retZ at_371 rfl (Or.inr rfl) rfl
      · have G295 := G246.icmpY at_284 297 (Jvm.Free.XT.ii_ne_t c284_246)
        have G296 := G295.iload (v := (((x4.toUInt32 >>> ((4 : Int32) &&& 31).toUInt32).toInt32) &&& (3 : Int32))) (pc' := 299) at_297 rfl
        have G297 := G296.iconst (v := (3 : Int32)) (pc' := 300) at_299
        by_cases c300_297 : (((x4.toUInt32 >>> ((4 : Int32) &&& 31).toUInt32).toInt32) &&& (3 : Int32)) = (3 : Int32)
        · have G298 := G297.icmpN at_300 303 (Jvm.Free.XT.ii_ne_f c300_297)
          have G299 := G298.aload (v := (.ref a30)) (pc' := 305) at_303 rfl
          have G300 := G299.iload (v := (own_P (own_sig idd N) N (K + 1))) (pc' := 307) at_305 rfl
          have G301 := G300.iload (v := bb) (pc' := 309) at_307 rfl
          obtain ⟨h302, W302, V302, G302⟩ := G301.stI (i := ((own_sig idd N + (K + 1)) % N)) (pc' := 310) V131 g_a30 (own_Pi _ _ hN) (by rw [T7.1]; exact Nat.mod_lt _ (own_np hN).1) at_309
          have T302a := own_Ts (x := bb) hN T7 hK2
          have G303 := G302.iload (v := zh) (pc' := 312) at_310 rfl
          by_cases c312_303 : zh = (0 : Int32)
          · have G304 := G303.ifY at_312 328 (Jvm.Free.XT.i0_eq_t c312_303)
            have G305 := G304.iload (v := zh) (pc' := 330) at_328 rfl
            have G306 := G305.ifY at_330 344 (Jvm.Free.XT.i0_eq_t c312_303)
            have G307 := G306.iload (v := (own_P (own_sig idd N) N 0)) (pc' := 346) at_344 rfl
            have G308 := G307.iload (v := kk) (pc' := 348) at_346 rfl
            have G309 := G308.iadd (pc' := 349) at_348
            have G310 := G309.iload (v := mm) (pc' := 351) at_349 rfl
            have G311 := G310.iand (pc' := 352) at_351
            rw [own_nx _ _ _ _ _ hN hm K hk (by omega), Nat.zero_add] at G311
            have G312 := G311.istore (L' := #[.val (.int x0), .val (.int x1), .val (.int x2), .val (.int x3), .val (.int x4), .val (.int (x0 &&& (3 : Int32))), .val (.int len), .val (.int mm), .val (.int idd), .val (.int aa), .val (.int bb), .val (.ref a30), .val (.int (own_P (own_sig idd N) N 0)), .val (.int kk), .val (.int jj), .val (.int zh), .val (.int (((x4.toUInt32 >>> ((4 : Int32) &&& 31).toUInt32).toInt32) &&& (3 : Int32))), .val (.int (own_P (own_sig idd N) N K))]) (pc' := 354) at_352 rfl
            have G313 := G312.aload (v := (.ref a30)) (pc' := 356) at_354 rfl
            have G314 := G313.iload (v := idd) (pc' := 358) at_356 rfl
            obtain ⟨v315, h315, ⟨ev315, eh315⟩, g315⟩ := G314.callS (argsL := [(.ref a30), (.int idd)]) (rest := []) (pc' := 361) (k' := 1) (j' := 8) (cn3 l Z a0 hw a30 idd h302 n0 G314.size len (List.set vs7 (((own_sig idd N + (K + 1)) % N)) (.int bb)) V302 N hN hlen (fun i => if i = K + 1 then bb else (own_F 7 K aa bb) i) T302a K hK (fun i hi => by show ¬ (if i = K + 1 then _ else _) = (-1 : Int32) ∧ ¬ (if i = K + 1 then _ else _) = idd; rw [if_neg (by omega)]; exact own_Fi K i aa bb idd (by omega) hK8 haa hbb) (Or.inl ((if_neg (by omega)).trans (own_FK K aa bb)))) rfl (hw _ (List.mem_of_getElem? (i := 9) rfl)) (hw _ (List.mem_of_getElem? (i := 10) rfl)) (hw _ (List.mem_of_getElem? (i := 11) rfl)) (hw _ (List.mem_of_getElem? (i := 12) rfl)) (by decide) at_358 pd2 rfl (W := 0) rfl rfl (by decide) (by decide) (by decide) (by decide) rfl rfl rfl
            subst ev315
            rw [eh315] at g315
            have G315 := g315 [(.int (own_P (own_sig idd N) N K))] rfl
            have G316 := G315.iload (v := (own_P (own_sig idd N) N K)) (pc' := 363) at_361 rfl
            have G317 := G316.icmpN at_363 366 (Jvm.Free.XT.ii_ne_f rfl)
            have G318 := G317.iconst (v := (1 : Int32)) (pc' := 367) at_366
            have G319 := G318.goto at_367 371
            exact G319.retZ at_371 rfl (Or.inr rfl) rfl
          · have G320 := G303.ifN at_312 315 (Jvm.Free.XT.i0_eq_f c312_303)
            have G321 := G320.aload (v := (.ref a30)) (pc' := 317) at_315 rfl
            have G322 := G321.iload (v := (own_P (own_sig idd N) N 0)) (pc' := 319) at_317 rfl
            have G323 := G322.iload (v := jj) (pc' := 321) at_319 rfl
            have G324 := G323.iadd (pc' := 322) at_321
            have G325 := G324.iload (v := mm) (pc' := 324) at_322 rfl
            have G326 := G325.iand (pc' := 325) at_324
            have G327 := G326.iload (v := idd) (pc' := 327) at_325 rfl
            have hJN : J < N := Nat.lt_of_le_of_lt hJ hK
            rw [own_nx _ _ _ _ _ hN hm J hj (by omega), Nat.zero_add] at G327
            obtain ⟨h328, W328, V328, G328⟩ := G327.stI (i := ((own_sig idd N + J) % N)) (pc' := 328) V302 g_a30 (own_Pi _ _ hN) (by rw [T302a.1]; exact Nat.mod_lt _ (own_np hN).1) at_327
            have T328b := own_Ts (x := idd) hN T302a hJN
            have G329 := G328.iload (v := zh) (pc' := 330) at_328 rfl
            have G330 := G329.ifN at_330 333 (Jvm.Free.XT.i0_eq_f c312_303)
            have G331 := G330.iload (v := (own_P (own_sig idd N) N 0)) (pc' := 335) at_333 rfl
            have G332 := G331.iload (v := jj) (pc' := 337) at_335 rfl
            have G333 := G332.iadd (pc' := 338) at_337
            have G334 := G333.iload (v := mm) (pc' := 340) at_338 rfl
            have G335 := G334.iand (pc' := 341) at_340
            have G336 := G335.goto at_341 352
            rw [own_nx _ _ _ _ _ hN hm J hj (by omega), Nat.zero_add] at G336
            have G337 := G336.istore (L' := #[.val (.int x0), .val (.int x1), .val (.int x2), .val (.int x3), .val (.int x4), .val (.int (x0 &&& (3 : Int32))), .val (.int len), .val (.int mm), .val (.int idd), .val (.int aa), .val (.int bb), .val (.ref a30), .val (.int (own_P (own_sig idd N) N 0)), .val (.int kk), .val (.int jj), .val (.int zh), .val (.int (((x4.toUInt32 >>> ((4 : Int32) &&& 31).toUInt32).toInt32) &&& (3 : Int32))), .val (.int (own_P (own_sig idd N) N J))]) (pc' := 354) at_352 rfl
            have G338 := G337.aload (v := (.ref a30)) (pc' := 356) at_354 rfl
            have G339 := G338.iload (v := idd) (pc' := 358) at_356 rfl
            obtain ⟨v340, h340, ⟨ev340, eh340⟩, g340⟩ := G339.callS (argsL := [(.ref a30), (.int idd)]) (rest := []) (pc' := 361) (k' := 1) (j' := 8) (cn3 l Z a0 hw a30 idd h328 n0 G339.size len (List.set (List.set vs7 (((own_sig idd N + (K + 1)) % N)) (.int bb)) (((own_sig idd N + J) % N)) (.int idd)) V328 N hN hlen (fun i => if i = J then idd else (fun i => if i = K + 1 then bb else (own_F 7 K aa bb) i) i) T328b J hJN (fun i hi => by show ¬ (if i = J then idd else _) = (-1 : Int32) ∧ ¬ (if i = J then idd else _) = idd; rw [if_neg (by omega)]; show ¬ (if i = K + 1 then _ else _) = (-1 : Int32) ∧ ¬ (if i = K + 1 then _ else _) = idd; rw [if_neg (by omega)]; exact own_Fi K i aa bb idd (by omega) hK8 haa hbb) (Or.inr (if_pos rfl))) rfl (hw _ (List.mem_of_getElem? (i := 9) rfl)) (hw _ (List.mem_of_getElem? (i := 10) rfl)) (hw _ (List.mem_of_getElem? (i := 11) rfl)) (hw _ (List.mem_of_getElem? (i := 12) rfl)) (by decide) at_358 pd2 rfl (W := 0) rfl rfl (by decide) (by decide) (by decide) (by decide) rfl rfl rfl
            subst ev340
            rw [eh340] at g340
            have G340 := g340 [(.int (own_P (own_sig idd N) N J))] rfl
            have G341 := G340.iload (v := (own_P (own_sig idd N) N J)) (pc' := 363) at_361 rfl
            have G342 := G341.icmpN at_363 366 (Jvm.Free.XT.ii_ne_f rfl)
            have G343 := G342.iconst (v := (1 : Int32)) (pc' := 367) at_366
            have G344 := G343.goto at_367 371
            exact G344.retZ at_371 rfl (Or.inr rfl) rfl
        · have G345 := G297.icmpY at_300 310 (Jvm.Free.XT.ii_ne_t c300_297)
          have G346 := G345.iload (v := zh) (pc' := 312) at_310 rfl
          by_cases c312_346 : zh = (0 : Int32)
          · have G347 := G346.ifY at_312 328 (Jvm.Free.XT.i0_eq_t c312_346)
            have G348 := G347.iload (v := zh) (pc' := 330) at_328 rfl
            have G349 := G348.ifY at_330 344 (Jvm.Free.XT.i0_eq_t c312_346)
            have G350 := G349.iload (v := (own_P (own_sig idd N) N 0)) (pc' := 346) at_344 rfl
            have G351 := G350.iload (v := kk) (pc' := 348) at_346 rfl
            have G352 := G351.iadd (pc' := 349) at_348
            have G353 := G352.iload (v := mm) (pc' := 351) at_349 rfl
            have G354 := G353.iand (pc' := 352) at_351
            rw [own_nx _ _ _ _ _ hN hm K hk (by omega), Nat.zero_add] at G354
            have G355 := G354.istore (L' := #[.val (.int x0), .val (.int x1), .val (.int x2), .val (.int x3), .val (.int x4), .val (.int (x0 &&& (3 : Int32))), .val (.int len), .val (.int mm), .val (.int idd), .val (.int aa), .val (.int bb), .val (.ref a30), .val (.int (own_P (own_sig idd N) N 0)), .val (.int kk), .val (.int jj), .val (.int zh), .val (.int (((x4.toUInt32 >>> ((4 : Int32) &&& 31).toUInt32).toInt32) &&& (3 : Int32))), .val (.int (own_P (own_sig idd N) N K))]) (pc' := 354) at_352 rfl
            have G356 := G355.aload (v := (.ref a30)) (pc' := 356) at_354 rfl
            have G357 := G356.iload (v := idd) (pc' := 358) at_356 rfl
            obtain ⟨v358, h358, ⟨ev358, eh358⟩, g358⟩ := G357.callS (argsL := [(.ref a30), (.int idd)]) (rest := []) (pc' := 361) (k' := 1) (j' := 8) (cn3 l Z a0 hw a30 idd h131 n0 G357.size len vs7 V131 N hN hlen (own_F 7 K aa bb) T7 K hK (fun i hi => by exact own_Fi K i aa bb idd (by omega) hK8 haa hbb) (Or.inl (own_FK K aa bb))) rfl (hw _ (List.mem_of_getElem? (i := 9) rfl)) (hw _ (List.mem_of_getElem? (i := 10) rfl)) (hw _ (List.mem_of_getElem? (i := 11) rfl)) (hw _ (List.mem_of_getElem? (i := 12) rfl)) (by decide) at_358 pd2 rfl (W := 0) rfl rfl (by decide) (by decide) (by decide) (by decide) rfl rfl rfl
            subst ev358
            rw [eh358] at g358
            have G358 := g358 [(.int (own_P (own_sig idd N) N K))] rfl
            have G359 := G358.iload (v := (own_P (own_sig idd N) N K)) (pc' := 363) at_361 rfl
            have G360 := G359.icmpN at_363 366 (Jvm.Free.XT.ii_ne_f rfl)
            have G361 := G360.iconst (v := (1 : Int32)) (pc' := 367) at_366
            have G362 := G361.goto at_367 371
            exact G362.retZ at_371 rfl (Or.inr rfl) rfl
          · have G363 := G346.ifN at_312 315 (Jvm.Free.XT.i0_eq_f c312_346)
            have G364 := G363.aload (v := (.ref a30)) (pc' := 317) at_315 rfl
            have G365 := G364.iload (v := (own_P (own_sig idd N) N 0)) (pc' := 319) at_317 rfl
            have G366 := G365.iload (v := jj) (pc' := 321) at_319 rfl
            have G367 := G366.iadd (pc' := 322) at_321
            have G368 := G367.iload (v := mm) (pc' := 324) at_322 rfl
            have G369 := G368.iand (pc' := 325) at_324
            have G370 := G369.iload (v := idd) (pc' := 327) at_325 rfl
            have hJN : J < N := Nat.lt_of_le_of_lt hJ hK
            rw [own_nx _ _ _ _ _ hN hm J hj (by omega), Nat.zero_add] at G370
            obtain ⟨h371, W371, V371, G371⟩ := G370.stI (i := ((own_sig idd N + J) % N)) (pc' := 328) V131 g_a30 (own_Pi _ _ hN) (by rw [T7.1]; exact Nat.mod_lt _ (own_np hN).1) at_327
            have T371b := own_Ts (x := idd) hN T7 hJN
            have G372 := G371.iload (v := zh) (pc' := 330) at_328 rfl
            have G373 := G372.ifN at_330 333 (Jvm.Free.XT.i0_eq_f c312_346)
            have G374 := G373.iload (v := (own_P (own_sig idd N) N 0)) (pc' := 335) at_333 rfl
            have G375 := G374.iload (v := jj) (pc' := 337) at_335 rfl
            have G376 := G375.iadd (pc' := 338) at_337
            have G377 := G376.iload (v := mm) (pc' := 340) at_338 rfl
            have G378 := G377.iand (pc' := 341) at_340
            have G379 := G378.goto at_341 352
            rw [own_nx _ _ _ _ _ hN hm J hj (by omega), Nat.zero_add] at G379
            have G380 := G379.istore (L' := #[.val (.int x0), .val (.int x1), .val (.int x2), .val (.int x3), .val (.int x4), .val (.int (x0 &&& (3 : Int32))), .val (.int len), .val (.int mm), .val (.int idd), .val (.int aa), .val (.int bb), .val (.ref a30), .val (.int (own_P (own_sig idd N) N 0)), .val (.int kk), .val (.int jj), .val (.int zh), .val (.int (((x4.toUInt32 >>> ((4 : Int32) &&& 31).toUInt32).toInt32) &&& (3 : Int32))), .val (.int (own_P (own_sig idd N) N J))]) (pc' := 354) at_352 rfl
            have G381 := G380.aload (v := (.ref a30)) (pc' := 356) at_354 rfl
            have G382 := G381.iload (v := idd) (pc' := 358) at_356 rfl
            obtain ⟨v383, h383, ⟨ev383, eh383⟩, g383⟩ := G382.callS (argsL := [(.ref a30), (.int idd)]) (rest := []) (pc' := 361) (k' := 1) (j' := 8) (cn3 l Z a0 hw a30 idd h371 n0 G382.size len (List.set vs7 (((own_sig idd N + J) % N)) (.int idd)) V371 N hN hlen (fun i => if i = J then idd else (own_F 7 K aa bb) i) T371b J hJN (fun i hi => by show ¬ (if i = J then idd else _) = (-1 : Int32) ∧ ¬ (if i = J then idd else _) = idd; rw [if_neg (by omega)]; exact own_Fi K i aa bb idd (by omega) hK8 haa hbb) (Or.inr (if_pos rfl))) rfl (hw _ (List.mem_of_getElem? (i := 9) rfl)) (hw _ (List.mem_of_getElem? (i := 10) rfl)) (hw _ (List.mem_of_getElem? (i := 11) rfl)) (hw _ (List.mem_of_getElem? (i := 12) rfl)) (by decide) at_358 pd2 rfl (W := 0) rfl rfl (by decide) (by decide) (by decide) (by decide) rfl rfl rfl
            subst ev383
            rw [eh383] at g383
            have G383 := g383 [(.int (own_P (own_sig idd N) N J))] rfl
            have G384 := G383.iload (v := (own_P (own_sig idd N) N J)) (pc' := 363) at_361 rfl
            have G385 := G384.icmpN at_363 366 (Jvm.Free.XT.ii_ne_f rfl)
            have G386 := G385.iconst (v := (1 : Int32)) (pc' := 367) at_366
            have G387 := G386.goto at_367 371
            exact G387.retZ at_371 rfl (Or.inr rfl) rfl
set_option maxRecDepth 65536 in
set_option maxHeartbeats 40000000 in
theorem comes_1 {Post : Tables → Env → Array Value → State → Outcome → State → Prop} (hpost : ∀ tb e args s v u, (limb_1_1.after args s (.returned v) u = true ∧ limb_1_2.after args s (.returned v) u = true) → FrameEnd s (.returned v) u (Jvm.fieldLocs frame_1_writes args s ++ Jvm.arrayLocs frame_1_arrays args s ++ Jvm.staticLocs frame_1_statics s) 16 128 → Post tb e args s (.returned v) u) :
    ArmFor flags0 classFile x code maxLocals ret World_1 tables_1 room_1 Calls_1 rest_1 Pre_1 Post := by
  intro l hfl _ _ p e ha hc hk s m args below hf hA hF happ hP
  obtain ⟨hcalls, hrest, hpre⟩ := hP
  obtain ⟨-, -, -, hnamed, -, -, -, hat⟩ := (Spec.applies_iff hf).mp happ
  obtain ⟨hg, hn⟩ := and_e (Cond.before_iff.mp (show (Jvm.Cond.and given_1 narrow_1).before args s = true from hpre))
  obtain ⟨hcount, hg0⟩ := and_e hg
  obtain ⟨ga0, hg1⟩ := and_e hg0
  obtain ⟨ga1, hg2⟩ := and_e hg1
  obtain ⟨ga2, hg3⟩ := and_e hg2
  obtain ⟨ga3, hg4⟩ := and_e hg3
  have ga4 := hg4
  obtain ⟨w0, w1, w2, w3, w4, rfl⟩ : ∃ w0 w1 w2 w3 w4 : Value, args = #[w0, w1, w2, w3, w4] := by
    have hs : args.size = 5 := by simpa [Cond.value, given_1] using hcount
    obtain ⟨L⟩ := args
    match L, hs with
    | [w0, w1, w2, w3, w4], _ => exact ⟨w0, w1, w2, w3, w4, rfl⟩
  have hw := fun d (hd : d ∈ tables_1) => atoms_spec (ws := Jvm.Cond.code x code maxLocals ret :: tables_1) hat d (List.mem_cons_of_mem _ hd)
  obtain ⟨i0, ei0⟩ := is_v ga0
  obtain rfl : w0 = (.int i0) := Option.some.inj ei0
  obtain ⟨i1, ei1⟩ := is_v ga1
  obtain rfl : w1 = (.int i1) := Option.some.inj ei1
  obtain ⟨i2, ei2⟩ := is_v ga2
  obtain rfl : w2 = (.int i2) := Option.some.inj ei2
  obtain ⟨i3, ei3⟩ := is_v ga3
  obtain rfl : w3 = (.int i3) := Option.some.inj ei3
  obtain ⟨i4, ei4⟩ := is_v ga4
  obtain rfl : w4 = (.int i4) := Option.some.inj ei4
  obtain ⟨n, o, h1, h2, h3, _, L, rfl, ⟨rfl, N⟩, hq⟩ := lawc l s _ hw i0 i1 i2 i3 i4 s.heap s.heap.size (Nat.le_refl _) p e ha hc hk s m _ below hf ((Spec.applies_iff_loose hf).mp happ).1 ⟨rfl, State.Warmed39.refl s, rfl⟩ trivial
  refine ⟨n, _, h1, h2, h3, hpost _ _ _ _ _ _ ⟨Cond.after_iff.mpr rfl, Cond.after_iff.mpr (eq_i res_at (Term.int_eval (1)) rfl)⟩ ⟨hq.1, hq.2.1, (hq.2.2.sift fun y hy => Or.inr (N y hy)).mono (by decide) (by decide)⟩⟩
theorem main_1_1 : Claimed_1_1 := comes_1 fun _ _ _ _ _ _ h hF => ⟨h.1, hF⟩
theorem main_1_2 : Claimed_1_2 := comes_1 fun _ _ _ _ _ _ h hF => ⟨h.2, hF⟩
end Jvm.Pilot.@@N@@
namespace Jvm.Pilot.@@N@@
open Jvm Jvm.ClassFile Sem Op Lib Jvm.Free Jvm.Stand Jvm.Pilot.@@N@@.Jvm.D
/-! MADE BY PROGRAM (witnessworld.py) out of the Statement's table words and the real class files: 9 classes; the members and pool entries that the words name. The judged class is class 1, her method 1. -/
namespace start1
open Jvm.ClassFile
def u (s : String) : CpInfo := .utf8 (stringToUtf16 s)
/-- a pool by its gaps: so many unusable entries, then the entry; so many at the end -/
def gap : Nat → List CpInfo → List CpInfo
  | 0, r => r
  | n + 1, r => .unusable :: gap n r
def poolList (es : List (Nat × CpInfo)) (last : Nat) : List CpInfo := es.foldr (fun e r => gap e.1 (e.2 :: r)) (gap last [])
def pool (es : List (Nat × CpInfo)) (last : Nat) : Array CpInfo := ⟨poolList es last⟩
def fileOf (pool : Array CpInfo) (this : Nat) (attrs : Array Attribute := #[]) (ms : Array MethodInfo := #[]) (fl : Nat := 33) (sup : Nat := 0) (ifs : Array Nat := #[]) (fds : Array FieldInfo := #[]) : ClassFile where
  minorVersion := 0
  majorVersion := 65
  constantPool := pool
  accessFlags := fl
  thisClass := this
  superClass := sup
  interfaces := ifs
  fields := fds
  methods := ms
  attributes := attrs
def plain (name : String) (sup : Option ClassId) : Class where
  name := name
  kind := .ordinary
  loader := none
  accessFlags := 33
  super := sup
  interfaces := #[]
  cf := none
  fields := #[]
  methods := #[]
  instanceTypes := #[]
  staticTypes := #[]
  resolved := #[]
  callSites := []
  init := .initialized
  statics := none
  mirror := none

def pool0 : Array CpInfo := pool [(5, u "<init>"), (0, u "()V"), (1, .class_ 10), (1, u "java/lang/Object")] 113

def k0m0 : Method := { name := "<init>", desc := "()V", sig := { parameters := [], returnType := none }, accessFlags := 1, code := none }
/-- java/lang/Object -/
def k0 : Class := { plain "java/lang/Object" none with
  accessFlags := 33
  interfaces := #[]
  cf := some (fileOf pool0 8 #[] #[{ accessFlags := 1, nameIndex := 5, descriptorIndex := 6, attributes := #[] }] 33 0 #[] #[])
  fields := #[]
  methods := #[k0m0]
  instanceTypes := #[]
  staticTypes := #[]
  resolved := Array.replicate 124 none
  statics := none }

def pool1 : Array CpInfo := pool [(2, .class_ 4), (1, u "java/lang/Object"), (0, u "<init>"), (0, u "()V"), (0, .integer 2147483647), (0, .methodref 9 10), (0, .class_ 11), (0, .nameAndType 12 13), (0, u "com/example/reachway/reachway/NodeSetSlotPinLaw"), (0, u "fix"), (0, u "(II)I"), (0, .methodref 9 15), (0, .nameAndType 16 17), (0, u "freeTable"), (0, u "(I)[I"), (0, .methodref 19 20), (0, .class_ 21), (0, .nameAndType 22 23), (0, u "com/example/reachway/reachway/NodeSet"), (0, u "slot"), (0, u "([II)I"), (0, .methodref 9 25), (0, .nameAndType 26 27), (0, u "put"), (0, u "([IIIIIII)V"), (2, u "law"), (0, u "(IIIII)Z")] 5

def k1m0 : Method := { name := "<init>", desc := "()V", sig := { parameters := [], returnType := none }, accessFlags := 1, code := none }
def k1c1 : Code := { maxStack := 7, maxLocals := 18, code := code, exceptionTable := #[], attributes := #[] }
def k1m1 : Method := { name := "law", desc := "(IIIII)Z", sig := { parameters := [.int, .int, .int, .int, .int], returnType := some .boolean }, accessFlags := 9, code := some k1c1 }
def k1c2 : Code := { maxStack := 2, maxLocals := 2, code := method_3_code, exceptionTable := #[], attributes := #[] }
def k1m2 : Method := { name := "fix", desc := "(II)I", sig := { parameters := [.int, .int], returnType := some .int }, accessFlags := 10, code := some k1c2 }
def k1c3 : Code := { maxStack := 4, maxLocals := 7, code := method_4_code, exceptionTable := #[], attributes := #[] }
def k1m3 : Method := { name := "put", desc := "([IIIIIII)V", sig := { parameters := [(.array .int), .int, .int, .int, .int, .int, .int], returnType := none }, accessFlags := 10, code := some k1c3 }
def k1c4 : Code := { maxStack := 4, maxLocals := 1, code := method_5_code, exceptionTable := #[], attributes := #[] }
def k1m4 : Method := { name := "freeTable", desc := "(I)[I", sig := { parameters := [.int], returnType := some (.array .int) }, accessFlags := 10, code := some k1c4 }
/-- com/example/reachway/reachway/NodeSetSlotPinLaw -/
def k1 : Class := { plain "com/example/reachway/reachway/NodeSetSlotPinLaw" (some 0) with
  accessFlags := 49
  interfaces := #[]
  cf := some (fileOf pool1 9 #[] #[{ accessFlags := 1, nameIndex := 5, descriptorIndex := 6, attributes := #[] }, { accessFlags := 9, nameIndex := 30, descriptorIndex := 31, attributes := #[] }, { accessFlags := 10, nameIndex := 12, descriptorIndex := 13, attributes := #[] }, { accessFlags := 10, nameIndex := 26, descriptorIndex := 27, attributes := #[] }, { accessFlags := 10, nameIndex := 16, descriptorIndex := 17, attributes := #[] }] 49 2 #[] #[])
  fields := #[]
  methods := #[k1m0, k1m1, k1m2, k1m3, k1m4]
  instanceTypes := #[]
  staticTypes := #[]
  resolved := Array.replicate 37 none
  statics := none }

def pool2 : Array CpInfo := pool [(2, .class_ 4), (1, u "java/lang/Object"), (3, .class_ 10), (1, u "com/example/reachway/reachway/NodeSet"), (4, u "table"), (0, u "[I"), (2, u "bound"), (0, u "I"), (2, u "bits"), (0, u "[J"), (2, u "size"), (2, u "slot"), (0, u "([II)I"), (51, .integer 2654435769), (5, u "FREE"), (2, u "SMALL_TABLE")] 37

def k2c0 : Code := { maxStack := 3, maxLocals := 5, code := prog_25_method_12_code, exceptionTable := #[], attributes := #[] }
def k2m0 : Method := { name := "slot", desc := "([II)I", sig := { parameters := [(.array .int), .int], returnType := some .int }, accessFlags := 8, code := some k2c0 }
/-- com/example/reachway/reachway/NodeSet -/
def k2 : Class := { plain "com/example/reachway/reachway/NodeSet" (some 0) with
  accessFlags := 48
  interfaces := #[]
  cf := some (fileOf pool2 8 #[] #[{ accessFlags := 8, nameIndex := 30, descriptorIndex := 31, attributes := #[] }] 48 2 #[] #[{ accessFlags := 24, nameIndex := 89, descriptorIndex := 20, attributes := #[] }, { accessFlags := 24, nameIndex := 92, descriptorIndex := 20, attributes := #[] }, { accessFlags := 18, nameIndex := 19, descriptorIndex := 20, attributes := #[] }, { accessFlags := 2, nameIndex := 15, descriptorIndex := 16, attributes := #[] }, { accessFlags := 2, nameIndex := 23, descriptorIndex := 24, attributes := #[] }, { accessFlags := 2, nameIndex := 27, descriptorIndex := 20, attributes := #[] }])
  fields := #[{ name := "FREE", type := .int, accessFlags := 24, slot := 0, constantValue := 0 }, { name := "SMALL_TABLE", type := .int, accessFlags := 24, slot := 1, constantValue := 0 }, { name := "bound", type := .int, accessFlags := 18, slot := 0, constantValue := 0 }, { name := "table", type := (.array .int), accessFlags := 2, slot := 1, constantValue := 0 }, { name := "bits", type := (.array .long), accessFlags := 2, slot := 2, constantValue := 0 }, { name := "size", type := .int, accessFlags := 2, slot := 3, constantValue := 0 }]
  methods := #[k2m0]
  instanceTypes := #[.int, (.array .int), (.array .long), .int]
  staticTypes := #[.int, .int]
  resolved := Array.replicate 130 none
  statics := none }

def pool3 : Array CpInfo := pool [(1, u "java/lang/Cloneable"), (0, .class_ 1), (0, u "java/lang/Object"), (0, .class_ 3)] 3

/-- java/lang/Cloneable -/
def k3 : Class := { plain "java/lang/Cloneable" (some 0) with
  accessFlags := 1537
  interfaces := #[]
  cf := some (fileOf pool3 2 #[] #[] 1537 4 #[] #[])
  fields := #[]
  methods := #[]
  instanceTypes := #[]
  staticTypes := #[]
  resolved := Array.replicate 8 none
  statics := none }

def pool4 : Array CpInfo := pool [(1, u "java/io/Serializable"), (0, .class_ 1), (0, u "java/lang/Object"), (0, .class_ 3)] 3

/-- java/io/Serializable -/
def k4 : Class := { plain "java/io/Serializable" (some 0) with
  accessFlags := 1537
  interfaces := #[]
  cf := some (fileOf pool4 2 #[] #[] 1537 4 #[] #[])
  fields := #[]
  methods := #[]
  instanceTypes := #[]
  staticTypes := #[]
  resolved := Array.replicate 8 none
  statics := none }

/-- the primitive byte -/
def k5 : Class := { plain "byte" none with kind := .primitive 'B', accessFlags := 0x411 }
/-- [B -/
def k6 : Class := { plain "[B" (some 0) with kind := .array 5 .byte, interfaces := #[3, 4], accessFlags := 1041 }

/-- the primitive int -/
def k7 : Class := { plain "int" none with kind := .primitive 'I', accessFlags := 0x411 }
/-- [I -/
def k8 : Class := { plain "[I" (some 0) with kind := .array 7 .int, interfaces := #[3, 4], accessFlags := 1041 }

def heap : Heap := #[]
def classes : Array Class := #[k0, k1, k2, k3, k4, k5, k6, k7, k8]
def interned : List (Array UInt16 × Addr) := []
def slotsUsed : Nat := 0
def theMethod : MethodId := ⟨1, 1⟩
def args0 : Array Value := #[.int 5, .int 6, .int 7, .int 8, .int 9]
def aboutOver (below : List Frame) : State where
  vm := { classes := classes, interned := interned.toArray }
  heap := heap
  slotsUsed := slotsUsed
  threads := #[{ frames := .invoking theMethod args0 :: below }]
def below0 : List Frame := [.native { method := ⟨0, 0⟩, args := #[] }]
def about1 : State := aboutOver below0
def p0 : Program := .bare "" "" ""
def e0 : Env := launch0.env 0 0 0
theorem w_frames : about1.frames = Frame.invoking theMethod args0 :: below0 := rfl
set_option maxRecDepth 65536 in
theorem w_args : argsFit about1.vm theMethod args0 = true := by decide +kernel
set_option maxRecDepth 65536 in
theorem w_heap : heapFits about1 = true := by decide +kernel
set_option maxRecDepth 65536 in
theorem w_runnable : about1.curStatus? = some .runnable := by decide +kernel
set_option maxRecDepth 65536 in
theorem w_alone : about1.alone = true := by decide +kernel
set_option maxRecDepth 65536 in
theorem w_named : about1.methodNamed? x = some theMethod := by decide +kernel
set_option maxRecDepth 65536 in
theorem w_hears : about1.hears theMethod below0 = true := by decide +kernel
set_option maxRecDepth 65536 in
theorem w_ripe : about1.ripe theMethod args0 below0 = true := by decide +kernel
theorem w_running : about1.status = .running := rfl
set_option maxRecDepth 65536 in
theorem w_room : about1.hasRoom e0.platform room_1 = true :=
  launch0.hasRoom_least _ room_1 (by decide +kernel) (by decide +kernel) (by decide +kernel) (by decide +kernel) (by decide +kernel) (by decide +kernel)
theorem allAtoms_all (ts : List Jvm.Cond) (a : Array Jvm.Value) (st : Jvm.State) : (allAtoms ts).before a st = ts.all (fun c => c.before a st) := by
  induction ts with
  | nil => rfl
  | cons c t ih =>
    show (Jvm.Cond.and c (allAtoms t)).before a st = _
    rw [Jvm.Cond.before_and, ih, List.all_cons]
def words1 : List Jvm.Cond := Jvm.Cond.code x code maxLocals ret :: tables_1
/-- a 'code' word, met by the world's own term for the bytes: nothing is compared byte by byte -/
theorem code_word {y : MethodName} {bytes : ByteArray} {mx : Nat} {rt : Option FieldType} {a : Array Value} {s : State} {m : MethodId} {meth : Method} {c : Code} (h1 : s.methodNamed? y = some m) (h2 : s.vm.method? m = some meth) (h3 : meth.code = some c) (h4 : c.code = bytes)
    (h5 : (c.maxLocals == mx && c.exceptionTable.isEmpty && decide (c.maxStack ≤ mostOperands) && decide (meth.sig.returnType = rt) && !meth.locks && decide (parseMethodDescriptor y.desc = some meth.sig)) = true) : (Jvm.Cond.code y bytes mx rt).before a s = true := by
  simp only [Bool.and_eq_true, beq_iff_eq, Bool.not_eq_true', decide_eq_true_eq] at h5
  obtain ⟨⟨⟨⟨⟨g1, g2⟩, g3⟩, g4⟩, g5⟩, g6⟩ := h5
  simp [Cond.before, Cond.holds, Cond.value, h1, h2, h3, h4, g1, g2, g3, g4, g5, g6]
def isCode : Jvm.Cond → Bool
  | .code _ _ _ _ => true
  | _ => false
theorem all_split {L : List Jvm.Cond} {P : Jvm.Cond → Bool} (h1 : L.all (fun c => isCode c || P c) = true) (h2 : ∀ c ∈ L.filter isCode, P c = true) : L.all P = true := by
  refine List.all_eq_true.mpr fun c hc => ?_
  have h := List.all_eq_true.mp h1 c hc
  rcases Bool.eq_false_or_eq_true (isCode c) with hi | hi
  · exact h2 c (List.mem_filter.mpr ⟨hc, hi⟩)
  · simpa [hi] using h
set_option maxRecDepth 65536 in
theorem w_c0 : (Jvm.Cond.code x code maxLocals ret).before args0 about1 = true := code_word (m := ⟨1, 1⟩) (meth := k1m1) (c := k1c1) (by decide +kernel) rfl rfl rfl (by decide +kernel)
set_option maxRecDepth 65536 in
theorem w_c1 : (Jvm.Cond.code ({ cls := "com/example/reachway/reachway/NodeSetSlotPinLaw", name := "fix", desc := "(II)I" } : Jvm.MethodName) method_3_code (2 : Nat) (Option.some Jvm.ClassFile.FieldType.int)).before args0 about1 = true := code_word (m := ⟨1, 2⟩) (meth := k1m2) (c := k1c2) (by decide +kernel) rfl rfl rfl (by decide +kernel)
set_option maxRecDepth 65536 in
theorem w_c2 : (Jvm.Cond.code ({ cls := "com/example/reachway/reachway/NodeSetSlotPinLaw", name := "freeTable", desc := "(I)[I" } : Jvm.MethodName) method_5_code (1 : Nat) (Option.some (Jvm.ClassFile.FieldType.array Jvm.ClassFile.FieldType.int))).before args0 about1 = true := code_word (m := ⟨1, 4⟩) (meth := k1m4) (c := k1c4) (by decide +kernel) rfl rfl rfl (by decide +kernel)
set_option maxRecDepth 65536 in
theorem w_c3 : (Jvm.Cond.code ({ cls := "com/example/reachway/reachway/NodeSet", name := "slot", desc := "([II)I" } : Jvm.MethodName) prog_25_method_12_code (5 : Nat) (Option.some Jvm.ClassFile.FieldType.int)).before args0 about1 = true := code_word (m := ⟨2, 0⟩) (meth := k2m0) (c := k2c0) (by decide +kernel) rfl rfl rfl (by decide +kernel)
set_option maxRecDepth 65536 in
theorem w_c4 : (Jvm.Cond.code ({ cls := "com/example/reachway/reachway/NodeSetSlotPinLaw", name := "put", desc := "([IIIIIII)V" } : Jvm.MethodName) method_4_code (7 : Nat) (Option.none : Option Jvm.ClassFile.FieldType)).before args0 about1 = true := code_word (m := ⟨1, 3⟩) (meth := k1m3) (c := k1c3) (by decide +kernel) rfl rfl rfl (by decide +kernel)
def codes1 : List Jvm.Cond := [Jvm.Cond.code x code maxLocals ret, Jvm.Cond.code ({ cls := "com/example/reachway/reachway/NodeSetSlotPinLaw", name := "fix", desc := "(II)I" } : Jvm.MethodName) method_3_code (2 : Nat) (Option.some Jvm.ClassFile.FieldType.int), Jvm.Cond.code ({ cls := "com/example/reachway/reachway/NodeSetSlotPinLaw", name := "freeTable", desc := "(I)[I" } : Jvm.MethodName) method_5_code (1 : Nat) (Option.some (Jvm.ClassFile.FieldType.array Jvm.ClassFile.FieldType.int)), Jvm.Cond.code ({ cls := "com/example/reachway/reachway/NodeSet", name := "slot", desc := "([II)I" } : Jvm.MethodName) prog_25_method_12_code (5 : Nat) (Option.some Jvm.ClassFile.FieldType.int), Jvm.Cond.code ({ cls := "com/example/reachway/reachway/NodeSetSlotPinLaw", name := "put", desc := "([IIIIIII)V" } : Jvm.MethodName) method_4_code (7 : Nat) (Option.none : Option Jvm.ClassFile.FieldType)]
set_option maxRecDepth 65536 in
theorem codes_eq : words1.filter isCode = codes1 := rfl
theorem w_codes : ∀ c ∈ words1.filter isCode, c.before args0 about1 = true := by
  rw [codes_eq]
  intro c hc
  simp only [codes1, List.mem_cons, List.not_mem_nil, or_false] at hc
  rcases hc with rfl | rfl | rfl | rfl | rfl
  · exact w_c0
  · exact w_c1
  · exact w_c2
  · exact w_c3
  · exact w_c4
set_option maxRecDepth 65536 in
theorem w_t1 : words1.all (fun c => isCode c || c.before args0 about1) = true := by decide +kernel
theorem w_tables : (allAtoms (Jvm.Cond.code x code maxLocals ret :: tables_1)).before args0 about1 = true := by
  rw [allAtoms_all]
  show words1.all (fun c => c.before args0 about1) = true
  refine all_split ?_ w_codes
  rw [w_t1]
set_option maxRecDepth 65536 in
theorem w_case : (Jvm.Cond.and given_1 narrow_1).before args0 about1 = true := by decide +kernel
theorem w_applies : (headSpec (Jvm.Cond.code x code maxLocals ret :: tables_1) room_1).applies x e0.platform about1 = true :=
  (Spec.applies_iff w_frames).mpr ⟨w_running, w_runnable, w_alone, w_named, w_hears, w_ripe, w_room, w_tables⟩
theorem atStart : AtStart classFile x code maxLocals ret World_1 tables_1 room_1 Calls_1 rest_1 Pre_1 launch0 p0 e0 about1 theMethod args0 below0 :=
  ⟨lists_1, trivial, launch0.admits_env _ _ _, launch0.least_env, fairChoices_fair.cas, fairChoices_fair.clock, w_frames, w_args, w_heap, w_applies, trivial, trivial, w_case⟩
end start1
theorem witness_1 : WitnessClaimed_1 := ⟨start1.p0, start1.e0, start1.about1, start1.theMethod, start1.args0, start1.below0, start1.atStart⟩
end Jvm.Pilot.@@N@@
