import JvmDerived
import JvmDerived.Pilot.@@N@@Statement
import JvmDerived.Pilot.@@N@@Code
set_option linter.unusedVariables false
set_option linter.unusedSimpArgs false
namespace Jvm.OwnKit
open Sem ClassFile Op Lib Jvm.Stand Jvm.Free Jvm.LawKit Jvm.RoadKit
section OwnKit
set_option maxHeartbeats 4000000
variable {p : Program} {l : Launch} {e : Env} {R : Room} {s : State} {m : MethodId} {args : Array Value} {below : List Frame} {meth : Method} {c : Code} {Z : State} {own : String} {bytes : ByteArray} {maxL : Nat} {ret : Option FieldType} {n0 : Nat} {s₀ : State} {h : Heap} {k j pc : Nat} {L : Array Slot} {S : List Value} {a0 : Array Value}
/-- where a walk stands -/
def Go (p : Program) (l : Launch) (e : Env) (R : Room) (s : State) (m : MethodId) (args : Array Value) (below : List Frame) (meth : Method) (c : Code) (Z : State) (own : String) (bytes : ByteArray) (maxL : Nat) (ret : Option FieldType) (n0 : Nat) (s₀ : State) (h : Heap) (k j pc : Nat) (L : Array Slot) (S : List Value) : Prop :=
  (p.tables.exec = Jvm.exec ∧ c.code = bytes ∧ c.maxLocals = maxL ∧ Z.Warmed39 s.vm ∧ s.vm.findClass own = some m.cls ∧ meth.sig.returnType = ret ∧ meth.locks = false ∧ n0 ≤ s.heap.size) ∧
  ∃ (T : State) (locs : List Loc), Stand p l e R s m args below meth c T locs k j ∧ T.heap = h ∧ Fr n0 locs ∧ ∀ t, Steps p.tables e below (T.setTop (mkF m pc L S)) t → Steps p.tables e below s₀ t
/-- how a walk ends -/
def Fini (p : Program) (e : Env) (below : List Frame) (s s₀ : State) (n0 kc js : Nat) (Q : Option Value → Heap → Prop) : Prop :=
  ∃ s₂ o, Steps p.tables e below s₀ s₂ ∧ s₂.status = .running ∧ Ended s₂ below o ∧ ∃ v L, o = .returned v ∧ (Q v s₂.heap ∧ Fr n0 L) ∧ FrameEnd s o s₂ L kc js
/-- a body's contract at one heap and these arguments -/
def Con (l : Launch) (y : MethodName) (bytes : ByteArray) (maxL : Nat) (ret : Option FieldType) (ws : List Cond) (rm : Room) (kc js : Nat) (Z : State) (as' : Array Value) (h0 : Heap) (n0 : Nat) (Q : Option Value → Heap → Prop) : Prop :=
  MetFree l y (head1 (Cond.code y bytes maxL ret :: ws) rm) (fun a U => a = as' ∧ Z.Warmed39 U.vm ∧ U.heap = h0) (fun _ _ _ _ _ => True) (fun _ U o U' => ∃ v L, o = .returned v ∧ (Q v U'.heap ∧ Fr n0 L) ∧ FrameEnd U o U' L kc js)
theorem Con.of {y : MethodName} {ws : List Cond} {rm : Room} {kc js : Nat} {as' : Array Value} {h0 : Heap} {L0 : Array Slot} {Q : Option Value → Heap → Prop} (hpl : plainFor y = true) (hn : n0 ≤ h0.size) (hef : ∀ m, entryFrame m as' maxL = mkF m 0 L0 [])
    (body : ∀ (p : Program) (e : Env) (s : State) (m : MethodId) (below : List Frame) (meth : Method) (c : Code) (s₀ : State), meth.name = y.name → Go p l e rm s m as' below meth c Z y.cls bytes maxL ret n0 s₀ h0 0 0 0 L0 [] → Fini p e below s s₀ n0 kc js Q) : Con l y bytes maxL ret ws rm kc js Z as' h0 n0 Q := by
  refine MetFree.of_bodySF hpl hisR ?_
  intro p e s m args below meth c s₁ Bd hml0 hP hK
  obtain ⟨rfl, hZ, hh⟩ := hP
  have hx := Bd.exec
  have X0 : Stand p l e rm s m args below meth c s₁ [] 0 0 := Stand.of_body Bd
  exact body p e s m below meth c _ (name_of_methodNamed Bd.named Bd.method).1 ⟨⟨hx, Bd.bytes, hml0, hZ, findClass_of_methodNamed Bd.named, Bd.returns, Bd.notSynchronized, by rw [hh]; exact hn⟩, s₁, [], X0, by rw [← hh, Bd.state]; rfl, Fr.nil n0, fun t k => castTop (hef m) k⟩
/-- the same contract with a weaker word -/
theorem Fini.mono {kc js : Nat} {Q Q' : Option Value → Heap → Prop} (F : Fini p e below s s₀ n0 kc js Q) (hq : ∀ v h, Q v h → Q' v h) : Fini p e below s s₀ n0 kc js Q' := by
  obtain ⟨s₂, o, a1, a2, a3, v, L, a4, ⟨a5, a6⟩, a7⟩ := F
  exact ⟨s₂, o, a1, a2, a3, v, L, a4, ⟨hq _ _ a5, a6⟩, a7⟩
theorem Go.step {pc' : Nat} {L' : Array Slot} {S' : List Value} (G : Go p l e R s m args below meth c Z own bytes maxL ret n0 s₀ h k j pc L S) (f : ∀ T locs, Stand p l e R s m args below meth c T locs k j → T.heap = h → p.tables.exec = Jvm.exec → c.code = bytes → ∀ t, Steps p.tables e below (T.setTop (mkF m pc' L' S')) t → Steps p.tables e below (T.setTop (mkF m pc L S)) t) : Go p l e R s m args below meth c Z own bytes maxL ret n0 s₀ h k j pc' L' S' := by
  obtain ⟨⟨hx, hb, r⟩, T, locs, X, eT, N, st⟩ := G
  exact ⟨⟨hx, hb, r⟩, T, locs, X, eT, N, fun t q => st t (f T locs X eT hx hb t q)⟩
theorem Go.size (G : Go p l e R s m args below meth c Z own bytes maxL ret n0 s₀ h k j pc L S) : n0 ≤ h.size := by
  obtain ⟨⟨_, _, _, _, _, _, _, hn⟩, T, locs, X, eT, N, st⟩ := G
  have q : s.heap.size ≤ T.heap.size := X.same.2.1
  rw [← eT]; exact Nat.le_trans hn q
theorem Go.iadd {x y : Int32} (G : Go p l e R s m args below meth c Z own bytes maxL ret n0 s₀ h k j pc L (.int y :: .int x :: S)) (hd : decode bytes pc = .ok (.iadd, 1))  {pc' : Nat} (hp : pc + 1 = pc' := by rfl) : Go p l e R s m args below meth c Z own bytes maxL ret n0 s₀ h k j pc' L (.int (x + y) :: S) := by
  subst hp; exact G.step fun T locs X eT hx hb t q => XS.iadd X.here hx rfl (Jvm.hb hb hd) rfl  q
theorem Go.isub {x y : Int32} (G : Go p l e R s m args below meth c Z own bytes maxL ret n0 s₀ h k j pc L (.int y :: .int x :: S)) (hd : decode bytes pc = .ok (.isub, 1))  {pc' : Nat} (hp : pc + 1 = pc' := by rfl) : Go p l e R s m args below meth c Z own bytes maxL ret n0 s₀ h k j pc' L (.int (x - y) :: S) := by
  subst hp; exact G.step fun T locs X eT hx hb t q => XS.isub X.here hx rfl (Jvm.hb hb hd) rfl  q
theorem Go.imul {x y : Int32} (G : Go p l e R s m args below meth c Z own bytes maxL ret n0 s₀ h k j pc L (.int y :: .int x :: S)) (hd : decode bytes pc = .ok (.imul, 1))  {pc' : Nat} (hp : pc + 1 = pc' := by rfl) : Go p l e R s m args below meth c Z own bytes maxL ret n0 s₀ h k j pc' L (.int (x * y) :: S) := by
  subst hp; exact G.step fun T locs X eT hx hb t q => XS.imul X.here hx rfl (Jvm.hb hb hd) rfl  q
theorem Go.iand {x y : Int32} (G : Go p l e R s m args below meth c Z own bytes maxL ret n0 s₀ h k j pc L (.int y :: .int x :: S)) (hd : decode bytes pc = .ok (.iand, 1))  {pc' : Nat} (hp : pc + 1 = pc' := by rfl) : Go p l e R s m args below meth c Z own bytes maxL ret n0 s₀ h k j pc' L (.int (x &&& y) :: S) := by
  subst hp; exact G.step fun T locs X eT hx hb t q => XS.iand X.here hx rfl (Jvm.hb hb hd) rfl  q
theorem Go.ior {x y : Int32} (G : Go p l e R s m args below meth c Z own bytes maxL ret n0 s₀ h k j pc L (.int y :: .int x :: S)) (hd : decode bytes pc = .ok (.ior, 1))  {pc' : Nat} (hp : pc + 1 = pc' := by rfl) : Go p l e R s m args below meth c Z own bytes maxL ret n0 s₀ h k j pc' L (.int (x ||| y) :: S) := by
  subst hp; exact G.step fun T locs X eT hx hb t q => XS.ior X.here hx rfl (Jvm.hb hb hd) rfl  q
theorem Go.ixor {x y : Int32} (G : Go p l e R s m args below meth c Z own bytes maxL ret n0 s₀ h k j pc L (.int y :: .int x :: S)) (hd : decode bytes pc = .ok (.ixor, 1))  {pc' : Nat} (hp : pc + 1 = pc' := by rfl) : Go p l e R s m args below meth c Z own bytes maxL ret n0 s₀ h k j pc' L (.int (x ^^^ y) :: S) := by
  subst hp; exact G.step fun T locs X eT hx hb t q => XS.ixor X.here hx rfl (Jvm.hb hb hd) rfl  q
theorem Go.ishl {x y : Int32} (G : Go p l e R s m args below meth c Z own bytes maxL ret n0 s₀ h k j pc L (.int y :: .int x :: S)) (hd : decode bytes pc = .ok (.ishl, 1))  {pc' : Nat} (hp : pc + 1 = pc' := by rfl) : Go p l e R s m args below meth c Z own bytes maxL ret n0 s₀ h k j pc' L (.int (x <<< (y &&& 31)) :: S) := by
  subst hp; exact G.step fun T locs X eT hx hb t q => XS.ishl X.here hx rfl (Jvm.hb hb hd) rfl  q
theorem Go.ishr {x y : Int32} (G : Go p l e R s m args below meth c Z own bytes maxL ret n0 s₀ h k j pc L (.int y :: .int x :: S)) (hd : decode bytes pc = .ok (.ishr, 1))  {pc' : Nat} (hp : pc + 1 = pc' := by rfl) : Go p l e R s m args below meth c Z own bytes maxL ret n0 s₀ h k j pc' L (.int (x >>> (y &&& 31)) :: S) := by
  subst hp; exact G.step fun T locs X eT hx hb t q => XS.ishr X.here hx rfl (Jvm.hb hb hd) rfl  q
theorem Go.iushr {x y : Int32} (G : Go p l e R s m args below meth c Z own bytes maxL ret n0 s₀ h k j pc L (.int y :: .int x :: S)) (hd : decode bytes pc = .ok (.iushr, 1))  {pc' : Nat} (hp : pc + 1 = pc' := by rfl) : Go p l e R s m args below meth c Z own bytes maxL ret n0 s₀ h k j pc' L (.int ((x.toUInt32 >>> (y &&& 31).toUInt32).toInt32) :: S) := by
  subst hp; exact G.step fun T locs X eT hx hb t q => XS.iushr X.here hx rfl (Jvm.hb hb hd) rfl  q
theorem Go.ladd {x y : Int64} (G : Go p l e R s m args below meth c Z own bytes maxL ret n0 s₀ h k j pc L (.long y :: .long x :: S)) (hd : decode bytes pc = .ok (.ladd, 1))  {pc' : Nat} (hp : pc + 1 = pc' := by rfl) : Go p l e R s m args below meth c Z own bytes maxL ret n0 s₀ h k j pc' L (.long (x + y) :: S) := by
  subst hp; exact G.step fun T locs X eT hx hb t q => XS.ladd X.here hx rfl (Jvm.hb hb hd) rfl  q
theorem Go.lsub {x y : Int64} (G : Go p l e R s m args below meth c Z own bytes maxL ret n0 s₀ h k j pc L (.long y :: .long x :: S)) (hd : decode bytes pc = .ok (.lsub, 1))  {pc' : Nat} (hp : pc + 1 = pc' := by rfl) : Go p l e R s m args below meth c Z own bytes maxL ret n0 s₀ h k j pc' L (.long (x - y) :: S) := by
  subst hp; exact G.step fun T locs X eT hx hb t q => XS.lsub X.here hx rfl (Jvm.hb hb hd) rfl  q
theorem Go.lmul {x y : Int64} (G : Go p l e R s m args below meth c Z own bytes maxL ret n0 s₀ h k j pc L (.long y :: .long x :: S)) (hd : decode bytes pc = .ok (.lmul, 1))  {pc' : Nat} (hp : pc + 1 = pc' := by rfl) : Go p l e R s m args below meth c Z own bytes maxL ret n0 s₀ h k j pc' L (.long (x * y) :: S) := by
  subst hp; exact G.step fun T locs X eT hx hb t q => XS.lmul X.here hx rfl (Jvm.hb hb hd) rfl  q
theorem Go.land {x y : Int64} (G : Go p l e R s m args below meth c Z own bytes maxL ret n0 s₀ h k j pc L (.long y :: .long x :: S)) (hd : decode bytes pc = .ok (.land, 1))  {pc' : Nat} (hp : pc + 1 = pc' := by rfl) : Go p l e R s m args below meth c Z own bytes maxL ret n0 s₀ h k j pc' L (.long (x &&& y) :: S) := by
  subst hp; exact G.step fun T locs X eT hx hb t q => XS.land X.here hx rfl (Jvm.hb hb hd) rfl  q
theorem Go.lor {x y : Int64} (G : Go p l e R s m args below meth c Z own bytes maxL ret n0 s₀ h k j pc L (.long y :: .long x :: S)) (hd : decode bytes pc = .ok (.lor, 1))  {pc' : Nat} (hp : pc + 1 = pc' := by rfl) : Go p l e R s m args below meth c Z own bytes maxL ret n0 s₀ h k j pc' L (.long (x ||| y) :: S) := by
  subst hp; exact G.step fun T locs X eT hx hb t q => XS.lor X.here hx rfl (Jvm.hb hb hd) rfl  q
theorem Go.lxor {x y : Int64} (G : Go p l e R s m args below meth c Z own bytes maxL ret n0 s₀ h k j pc L (.long y :: .long x :: S)) (hd : decode bytes pc = .ok (.lxor, 1))  {pc' : Nat} (hp : pc + 1 = pc' := by rfl) : Go p l e R s m args below meth c Z own bytes maxL ret n0 s₀ h k j pc' L (.long (x ^^^ y) :: S) := by
  subst hp; exact G.step fun T locs X eT hx hb t q => XS.lxor X.here hx rfl (Jvm.hb hb hd) rfl  q
theorem Go.lshl {x : Int64} {y : Int32} (G : Go p l e R s m args below meth c Z own bytes maxL ret n0 s₀ h k j pc L (.int y :: .long x :: S)) (hd : decode bytes pc = .ok (.lshl, 1))  {pc' : Nat} (hp : pc + 1 = pc' := by rfl) : Go p l e R s m args below meth c Z own bytes maxL ret n0 s₀ h k j pc' L (.long (x <<< (y &&& 0x3f).toInt64) :: S) := by
  subst hp; exact G.step fun T locs X eT hx hb t q => XS.lshl X.here hx rfl (Jvm.hb hb hd) rfl  q
theorem Go.lshr {x : Int64} {y : Int32} (G : Go p l e R s m args below meth c Z own bytes maxL ret n0 s₀ h k j pc L (.int y :: .long x :: S)) (hd : decode bytes pc = .ok (.lshr, 1))  {pc' : Nat} (hp : pc + 1 = pc' := by rfl) : Go p l e R s m args below meth c Z own bytes maxL ret n0 s₀ h k j pc' L (.long (x >>> (y &&& 0x3f).toInt64) :: S) := by
  subst hp; exact G.step fun T locs X eT hx hb t q => XS.lshr X.here hx rfl (Jvm.hb hb hd) rfl  q
theorem Go.lushr {x : Int64} {y : Int32} (G : Go p l e R s m args below meth c Z own bytes maxL ret n0 s₀ h k j pc L (.int y :: .long x :: S)) (hd : decode bytes pc = .ok (.lushr, 1))  {pc' : Nat} (hp : pc + 1 = pc' := by rfl) : Go p l e R s m args below meth c Z own bytes maxL ret n0 s₀ h k j pc' L (.long ((x.toUInt64 >>> (y &&& 0x3f).toInt64.toUInt64).toInt64) :: S) := by
  subst hp; exact G.step fun T locs X eT hx hb t q => XS.lushr X.here hx rfl (Jvm.hb hb hd) rfl  q
theorem Go.ineg {x : Int32} (G : Go p l e R s m args below meth c Z own bytes maxL ret n0 s₀ h k j pc L (.int x :: S)) (hd : decode bytes pc = .ok (.ineg, 1))  {pc' : Nat} (hp : pc + 1 = pc' := by rfl) : Go p l e R s m args below meth c Z own bytes maxL ret n0 s₀ h k j pc' L (.int (-x) :: S) := by
  subst hp; exact G.step fun T locs X eT hx hb t q => XS.ineg X.here hx rfl (Jvm.hb hb hd) rfl  q
theorem Go.lneg {x : Int64} (G : Go p l e R s m args below meth c Z own bytes maxL ret n0 s₀ h k j pc L (.long x :: S)) (hd : decode bytes pc = .ok (.lneg, 1))  {pc' : Nat} (hp : pc + 1 = pc' := by rfl) : Go p l e R s m args below meth c Z own bytes maxL ret n0 s₀ h k j pc' L (.long (-x) :: S) := by
  subst hp; exact G.step fun T locs X eT hx hb t q => XS.lneg X.here hx rfl (Jvm.hb hb hd) rfl  q
theorem Go.i2l {x : Int32} (G : Go p l e R s m args below meth c Z own bytes maxL ret n0 s₀ h k j pc L (.int x :: S)) (hd : decode bytes pc = .ok (.i2l, 1))  {pc' : Nat} (hp : pc + 1 = pc' := by rfl) : Go p l e R s m args below meth c Z own bytes maxL ret n0 s₀ h k j pc' L (.long (x.toInt64) :: S) := by
  subst hp; exact G.step fun T locs X eT hx hb t q => XS.i2l X.here hx rfl (Jvm.hb hb hd) rfl  q
theorem Go.l2i {x : Int64} (G : Go p l e R s m args below meth c Z own bytes maxL ret n0 s₀ h k j pc L (.long x :: S)) (hd : decode bytes pc = .ok (.l2i, 1))  {pc' : Nat} (hp : pc + 1 = pc' := by rfl) : Go p l e R s m args below meth c Z own bytes maxL ret n0 s₀ h k j pc' L (.int (x.toInt32) :: S) := by
  subst hp; exact G.step fun T locs X eT hx hb t q => XS.l2i X.here hx rfl (Jvm.hb hb hd) rfl  q
theorem Go.i2b {x : Int32} (G : Go p l e R s m args below meth c Z own bytes maxL ret n0 s₀ h k j pc L (.int x :: S)) (hd : decode bytes pc = .ok (.i2b, 1))  {pc' : Nat} (hp : pc + 1 = pc' := by rfl) : Go p l e R s m args below meth c Z own bytes maxL ret n0 s₀ h k j pc' L (.int (x.toInt8.toInt32) :: S) := by
  subst hp; exact G.step fun T locs X eT hx hb t q => XS.i2b X.here hx rfl (Jvm.hb hb hd) rfl  q
theorem Go.i2s {x : Int32} (G : Go p l e R s m args below meth c Z own bytes maxL ret n0 s₀ h k j pc L (.int x :: S)) (hd : decode bytes pc = .ok (.i2s, 1))  {pc' : Nat} (hp : pc + 1 = pc' := by rfl) : Go p l e R s m args below meth c Z own bytes maxL ret n0 s₀ h k j pc' L (.int (x.toInt16.toInt32) :: S) := by
  subst hp; exact G.step fun T locs X eT hx hb t q => XS.i2s X.here hx rfl (Jvm.hb hb hd) rfl  q
theorem Go.i2c {x : Int32} (G : Go p l e R s m args below meth c Z own bytes maxL ret n0 s₀ h k j pc L (.int x :: S)) (hd : decode bytes pc = .ok (.i2c, 1))  {pc' : Nat} (hp : pc + 1 = pc' := by rfl) : Go p l e R s m args below meth c Z own bytes maxL ret n0 s₀ h k j pc' L (.int (x.toUInt32.toUInt16.toUInt32.toInt32) :: S) := by
  subst hp; exact G.step fun T locs X eT hx hb t q => XS.i2c X.here hx rfl (Jvm.hb hb hd) rfl  q
theorem Go.lcmp {x y : Int64} (G : Go p l e R s m args below meth c Z own bytes maxL ret n0 s₀ h k j pc L (.long y :: .long x :: S)) (hd : decode bytes pc = .ok (.lcmp, 1))  {pc' : Nat} (hp : pc + 1 = pc' := by rfl) : Go p l e R s m args below meth c Z own bytes maxL ret n0 s₀ h k j pc' L (.int (Jvm.Free.XT.cmpL x y) :: S) := by
  subst hp; exact G.step fun T locs X eT hx hb t q => Jvm.Free.XT.lcmp X.here hx rfl (Jvm.hb hb hd) rfl  q
theorem Go.idiv {x y : Int32} (G : Go p l e R s m args below meth c Z own bytes maxL ret n0 s₀ h k j pc L (.int y :: .int x :: S)) (hd : decode bytes pc = .ok (.idiv, 1)) (hy : y ≠ 0) {pc' : Nat} (hp : pc + 1 = pc' := by rfl) : Go p l e R s m args below meth c Z own bytes maxL ret n0 s₀ h k j pc' L (.int (x / y) :: S) := by
  subst hp; exact G.step fun T locs X eT hx hb t q => XS.idiv X.here hx rfl (Jvm.hb hb hd) rfl hy q
theorem Go.irem {x y : Int32} (G : Go p l e R s m args below meth c Z own bytes maxL ret n0 s₀ h k j pc L (.int y :: .int x :: S)) (hd : decode bytes pc = .ok (.irem, 1)) (hy : y ≠ 0) {pc' : Nat} (hp : pc + 1 = pc' := by rfl) : Go p l e R s m args below meth c Z own bytes maxL ret n0 s₀ h k j pc' L (.int (x % y) :: S) := by
  subst hp; exact G.step fun T locs X eT hx hb t q => iremM X hx rfl (Jvm.hb hb hd) rfl hy q
theorem Go.lrem {x y : Int64} (G : Go p l e R s m args below meth c Z own bytes maxL ret n0 s₀ h k j pc L (.long y :: .long x :: S)) (hd : decode bytes pc = .ok (.lrem, 1)) (hy : y ≠ 0) {pc' : Nat} (hp : pc + 1 = pc' := by rfl) : Go p l e R s m args below meth c Z own bytes maxL ret n0 s₀ h k j pc' L (.long (x % y) :: S) := by
  subst hp; exact G.step fun T locs X eT hx hb t q => XS.lrem X.here hx rfl (Jvm.hb hb hd) rfl hy (by rw [lrem_mod]; exact q)
theorem Go.iconst {i : Int} (v : Int32) (G : Go p l e R s m args below meth c Z own bytes maxL ret n0 s₀ h k j pc L S) (hd : decode bytes pc = .ok (.iconst i, 1)) (hv : Int32.ofInt i = v := by decide) {pc' : Nat} (hp : pc + 1 = pc' := by rfl) : Go p l e R s m args below meth c Z own bytes maxL ret n0 s₀ h k j pc' L (.int v :: S) := by
  subst hp; exact G.step fun T locs X eT hx hb t q => Jvm.Free.XT.iconstV X.here hx rfl v (Jvm.hb hb hd) hv q
theorem Go.bipush {i : Int} (v : Int32) (G : Go p l e R s m args below meth c Z own bytes maxL ret n0 s₀ h k j pc L S) (hd : decode bytes pc = .ok (.bipush i, 2)) (hv : (Int8.ofInt i).toInt32 = v := by decide) {pc' : Nat} (hp : pc + 2 = pc' := by rfl) : Go p l e R s m args below meth c Z own bytes maxL ret n0 s₀ h k j pc' L (.int v :: S) := by
  subst hp; exact G.step fun T locs X eT hx hb t q => Jvm.Free.XT.bipushV X.here hx rfl v (Jvm.hb hb hd) hv q
theorem Go.sipush {i : Int} (v : Int32) (G : Go p l e R s m args below meth c Z own bytes maxL ret n0 s₀ h k j pc L S) (hd : decode bytes pc = .ok (.sipush i, 3)) (hv : (Int16.ofInt i).toInt32 = v := by decide) {pc' : Nat} (hp : pc + 3 = pc' := by rfl) : Go p l e R s m args below meth c Z own bytes maxL ret n0 s₀ h k j pc' L (.int v :: S) := by
  subst hp; exact G.step fun T locs X eT hx hb t q => Jvm.Free.XT.sipushV X.here hx rfl v (Jvm.hb hb hd) hv q
theorem Go.lconst {i : Fin 2} (v : Int64) (G : Go p l e R s m args below meth c Z own bytes maxL ret n0 s₀ h k j pc L S) (hd : decode bytes pc = .ok (.lconst i, 1)) (hv : Int64.ofNat i = v := by decide) {pc' : Nat} (hp : pc + 1 = pc' := by rfl) : Go p l e R s m args below meth c Z own bytes maxL ret n0 s₀ h k j pc' L (.long v :: S) := by
  subst hp; exact G.step fun T locs X eT hx hb t q => Jvm.Free.XT.lconstV X.here hx rfl v (Jvm.hb hb hd) hv q
theorem Go.aconstNull (G : Go p l e R s m args below meth c Z own bytes maxL ret n0 s₀ h k j pc L S) (hd : decode bytes pc = .ok (.aconst_null, 1)) {pc' : Nat} (hp : pc + 1 = pc' := by rfl) : Go p l e R s m args below meth c Z own bytes maxL ret n0 s₀ h k j pc' L (.null :: S) := by
  subst hp; exact G.step fun T locs X eT hx hb t q => XS.aconstNull X.here hx rfl (Jvm.hb hb hd) q
theorem Go.ldc {i : Nat} {v : Int32} (G : Go p l e R s m args below meth c Z own bytes maxL ret n0 s₀ h k j pc L S) (w : (Cond.constant own i v).before a0 Z = true) (hd : decode bytes pc = .ok (.ldc i, 2)) {pc' : Nat} (hp : pc + 2 = pc' := by rfl) : Go p l e R s m args below meth c Z own bytes maxL ret n0 s₀ h k j pc' L (.int v :: S) := by
  subst hp
  obtain ⟨⟨hx, hb, hm, hZ, ho, r⟩, T, locs, X, eT, N, st⟩ := G
  exact ⟨⟨hx, hb, hm, hZ, ho, r⟩, T, locs, X, eT, N, fun t q => st t (X.ldcInt hx ho (mvT hZ w) (g := mkF m pc L S) rfl (Jvm.hb hb hd) t q)⟩
theorem Go.ldc2 {i : Nat} {v : Int64} (G : Go p l e R s m args below meth c Z own bytes maxL ret n0 s₀ h k j pc L S) (w : (Cond.constantLong own i v).before a0 Z = true) (hd : decode bytes pc = .ok (.ldc2_w i, 3)) {pc' : Nat} (hp : pc + 3 = pc' := by rfl) : Go p l e R s m args below meth c Z own bytes maxL ret n0 s₀ h k j pc' L (.long v :: S) := by
  subst hp
  obtain ⟨⟨hx, hb, hm, hZ, ho, r⟩, T, locs, X, eT, N, st⟩ := G
  exact ⟨⟨hx, hb, hm, hZ, ho, r⟩, T, locs, X, eT, N, fun t q => st t (X.ldc2Long hx ho (mvT hZ w) (g := mkF m pc L S) rfl (Jvm.hb hb hd) t q)⟩
theorem Go.iloadN {i : Fin 4} {v : Int32} (G : Go p l e R s m args below meth c Z own bytes maxL ret n0 s₀ h k j pc L S) (hd : decode bytes pc = .ok (.iload_n i, 1)) (hl : L[i.val]? = some (.val (.int v))) {pc' : Nat} (hp : pc + 1 = pc' := by rfl) : Go p l e R s m args below meth c Z own bytes maxL ret n0 s₀ h k j pc' L (.int v :: S) := by
  subst hp; exact G.step fun T locs X eT hx hb t q => XS.iloadN X.here hx rfl (Jvm.hb hb hd) hl q
theorem Go.iload {i : Nat} {v : Int32} (G : Go p l e R s m args below meth c Z own bytes maxL ret n0 s₀ h k j pc L S) (hd : decode bytes pc = .ok (.iload i, 2)) (hl : L[i]? = some (.val (.int v))) {pc' : Nat} (hp : pc + 2 = pc' := by rfl) : Go p l e R s m args below meth c Z own bytes maxL ret n0 s₀ h k j pc' L (.int v :: S) := by
  subst hp; exact G.step fun T locs X eT hx hb t q => XS.iload X.here hx rfl (Jvm.hb hb hd) hl q
theorem Go.lloadN {i : Fin 4} {v : Int64} (G : Go p l e R s m args below meth c Z own bytes maxL ret n0 s₀ h k j pc L S) (hd : decode bytes pc = .ok (.lload_n i, 1)) (hl : L[i.val]? = some (.val (.long v))) {pc' : Nat} (hp : pc + 1 = pc' := by rfl) : Go p l e R s m args below meth c Z own bytes maxL ret n0 s₀ h k j pc' L (.long v :: S) := by
  subst hp; exact G.step fun T locs X eT hx hb t q => XS.lloadN X.here hx rfl (Jvm.hb hb hd) hl q
theorem Go.lload {i : Nat} {v : Int64} (G : Go p l e R s m args below meth c Z own bytes maxL ret n0 s₀ h k j pc L S) (hd : decode bytes pc = .ok (.lload i, 2)) (hl : L[i]? = some (.val (.long v))) {pc' : Nat} (hp : pc + 2 = pc' := by rfl) : Go p l e R s m args below meth c Z own bytes maxL ret n0 s₀ h k j pc' L (.long v :: S) := by
  subst hp; exact G.step fun T locs X eT hx hb t q => XS.lload X.here hx rfl (Jvm.hb hb hd) hl q
theorem Go.aloadN {i : Fin 4} {v : Value} (G : Go p l e R s m args below meth c Z own bytes maxL ret n0 s₀ h k j pc L S) (hd : decode bytes pc = .ok (.aload_n i, 1)) (hl : L[i.val]? = some (.val v)) (hv : v.isRef = true := by rfl) {pc' : Nat} (hp : pc + 1 = pc' := by rfl) : Go p l e R s m args below meth c Z own bytes maxL ret n0 s₀ h k j pc' L (v :: S) := by
  subst hp; exact G.step fun T locs X eT hx hb t q => XS.aloadN X.here hx rfl (Jvm.hb hb hd) hl hv q
theorem Go.aload {i : Nat} {v : Value} (G : Go p l e R s m args below meth c Z own bytes maxL ret n0 s₀ h k j pc L S) (hd : decode bytes pc = .ok (.aload i, 2)) (hl : L[i]? = some (.val v)) (hv : v.isRef = true := by rfl) {pc' : Nat} (hp : pc + 2 = pc' := by rfl) : Go p l e R s m args below meth c Z own bytes maxL ret n0 s₀ h k j pc' L (v :: S) := by
  subst hp; exact G.step fun T locs X eT hx hb t q => XS.aload X.here hx rfl (Jvm.hb hb hd) hl hv q
theorem Go.istoreN {i : Fin 4} {x : Int32} {L' : Array Slot} (G : Go p l e R s m args below meth c Z own bytes maxL ret n0 s₀ h k j pc L (.int x :: S)) (hd : decode bytes pc = .ok (.istore_n i, 1)) (hl : storeLocals L i.val (.int x) = some L') {pc' : Nat} (hp : pc + 1 = pc' := by rfl) : Go p l e R s m args below meth c Z own bytes maxL ret n0 s₀ h k j pc' L' S := by
  subst hp; exact G.step fun T locs X eT hx hb t q => XS.istoreN X.here hx rfl (Jvm.hb hb hd) rfl hl q
theorem Go.istore {i : Nat} {x : Int32} {L' : Array Slot} (G : Go p l e R s m args below meth c Z own bytes maxL ret n0 s₀ h k j pc L (.int x :: S)) (hd : decode bytes pc = .ok (.istore i, 2)) (hl : storeLocals L i (.int x) = some L') {pc' : Nat} (hp : pc + 2 = pc' := by rfl) : Go p l e R s m args below meth c Z own bytes maxL ret n0 s₀ h k j pc' L' S := by
  subst hp; exact G.step fun T locs X eT hx hb t q => XS.istore X.here hx rfl (Jvm.hb hb hd) rfl hl q
theorem Go.lstoreN {i : Fin 4} {x : Int64} {L' : Array Slot} (G : Go p l e R s m args below meth c Z own bytes maxL ret n0 s₀ h k j pc L (.long x :: S)) (hd : decode bytes pc = .ok (.lstore_n i, 1)) (hl : storeLocals L i.val (.long x) = some L') {pc' : Nat} (hp : pc + 1 = pc' := by rfl) : Go p l e R s m args below meth c Z own bytes maxL ret n0 s₀ h k j pc' L' S := by
  subst hp; exact G.step fun T locs X eT hx hb t q => XS.lstoreN X.here hx rfl (Jvm.hb hb hd) rfl hl q
theorem Go.lstore {i : Nat} {x : Int64} {L' : Array Slot} (G : Go p l e R s m args below meth c Z own bytes maxL ret n0 s₀ h k j pc L (.long x :: S)) (hd : decode bytes pc = .ok (.lstore i, 2)) (hl : storeLocals L i (.long x) = some L') {pc' : Nat} (hp : pc + 2 = pc' := by rfl) : Go p l e R s m args below meth c Z own bytes maxL ret n0 s₀ h k j pc' L' S := by
  subst hp; exact G.step fun T locs X eT hx hb t q => XS.lstore X.here hx rfl (Jvm.hb hb hd) rfl hl q
theorem Go.astoreN {i : Fin 4} {x : Value} {L' : Array Slot} (G : Go p l e R s m args below meth c Z own bytes maxL ret n0 s₀ h k j pc L (x :: S)) (hd : decode bytes pc = .ok (.astore_n i, 1)) (hl : storeLocals L i.val x = some L') (hv : x.isRef = true := by rfl) {pc' : Nat} (hp : pc + 1 = pc' := by rfl) : Go p l e R s m args below meth c Z own bytes maxL ret n0 s₀ h k j pc' L' S := by
  subst hp; exact G.step fun T locs X eT hx hb t q => XS.astoreN X.here hx rfl (Jvm.hb hb hd) rfl hv hl q
theorem Go.astore {i : Nat} {x : Value} {L' : Array Slot} (G : Go p l e R s m args below meth c Z own bytes maxL ret n0 s₀ h k j pc L (x :: S)) (hd : decode bytes pc = .ok (.astore i, 2)) (hl : storeLocals L i x = some L') (hv : x.isRef = true := by rfl) {pc' : Nat} (hp : pc + 2 = pc' := by rfl) : Go p l e R s m args below meth c Z own bytes maxL ret n0 s₀ h k j pc' L' S := by
  subst hp; exact G.step fun T locs X eT hx hb t q => XS.astore X.here hx rfl (Jvm.hb hb hd) rfl hv hl q
theorem Go.iinc {i : Nat} {cst : Int} {x : Int32} {L' : Array Slot} (v : Int32) (G : Go p l e R s m args below meth c Z own bytes maxL ret n0 s₀ h k j pc L S) (hd : decode bytes pc = .ok (.iinc i cst, 3)) (hl : L[i]? = some (.val (.int x))) (hl' : storeLocals L i (.int (x + v)) = some L') (hv : Int32.ofInt cst = v := by decide) {pc' : Nat} (hp : pc + 3 = pc' := by rfl) : Go p l e R s m args below meth c Z own bytes maxL ret n0 s₀ h k j pc' L' S := by
  subst hp; exact G.step fun T locs X eT hx hb t q => Jvm.Free.XT.iincV X.here hx rfl v (Jvm.hb hb hd) hv hl hl' q
theorem Go.dup {x : Value} (G : Go p l e R s m args below meth c Z own bytes maxL ret n0 s₀ h k j pc L (x :: S)) (hd : decode bytes pc = .ok (.dup, 1)) (hc : x.category = 1 := by rfl) {pc' : Nat} (hp : pc + 1 = pc' := by rfl) : Go p l e R s m args below meth c Z own bytes maxL ret n0 s₀ h k j pc' L (x :: x :: S) := by
  subst hp; exact G.step fun T locs X eT hx hb t q => XS.dup X.here hx rfl (Jvm.hb hb hd) rfl hc q
theorem Go.pop {x : Value} (G : Go p l e R s m args below meth c Z own bytes maxL ret n0 s₀ h k j pc L (x :: S)) (hd : decode bytes pc = .ok (.pop, 1)) (hc : x.category = 1 := by rfl) {pc' : Nat} (hp : pc + 1 = pc' := by rfl) : Go p l e R s m args below meth c Z own bytes maxL ret n0 s₀ h k j pc' L S := by
  subst hp; exact G.step fun T locs X eT hx hb t q => XS.pop X.here hx rfl (Jvm.hb hb hd) rfl hc q
theorem Go.dupX1 {x y : Value} (G : Go p l e R s m args below meth c Z own bytes maxL ret n0 s₀ h k j pc L (x :: y :: S)) (hd : decode bytes pc = .ok (.dup_x1, 1)) (hc : x.category = 1 := by rfl) (hc2 : y.category = 1 := by rfl) {pc' : Nat} (hp : pc + 1 = pc' := by rfl) : Go p l e R s m args below meth c Z own bytes maxL ret n0 s₀ h k j pc' L (x :: y :: x :: S) := by
  subst hp; exact G.step fun T locs X eT hx hb t q => XS.dupX1 X.here hx rfl (Jvm.hb hb hd) rfl hc hc2 q
theorem Go.dup2 {x y : Value} (G : Go p l e R s m args below meth c Z own bytes maxL ret n0 s₀ h k j pc L (x :: y :: S)) (hd : decode bytes pc = .ok (.dup2, 1)) (hc : x.category = 1 := by rfl) (hc2 : y.category = 1 := by rfl) {pc' : Nat} (hp : pc + 1 = pc' := by rfl) : Go p l e R s m args below meth c Z own bytes maxL ret n0 s₀ h k j pc' L (x :: y :: x :: y :: S) := by
  subst hp; exact G.step fun T locs X eT hx hb t q => Jvm.Free.XT.dup2 X.here hx rfl (Jvm.hb hb hd) rfl hc hc2 q
theorem Go.goto {o : Int} (G : Go p l e R s m args below meth c Z own bytes maxL ret n0 s₀ h k j pc L S) (hd : decode bytes pc = .ok (.goto o, 3)) (pc' : Nat) (ho : 0 ≤ (pc : Int) + o := by decide) (hp : ((pc : Int) + o).toNat = pc' := by decide) : Go p l e R s m args below meth c Z own bytes maxL ret n0 s₀ h k j pc' L S := by
  exact G.step fun T locs X eT hx hb t q => XS.goto X.here hx rfl (pc0 := pc) (pc' := pc') rfl (Jvm.hb hb hd) ho hp q
theorem Go.ifY {cd : ClassFile.Cond} {o : Int} {x : Int32} (G : Go p l e R s m args below meth c Z own bytes maxL ret n0 s₀ h k j pc L (.int x :: S)) (hd : decode bytes pc = .ok (.ifCond cd o, 3)) (pc' : Nat) (hc : ifCond.holds cd x = true) (ho : 0 ≤ (pc : Int) + o := by decide) (hp : ((pc : Int) + o).toNat = pc' := by decide) : Go p l e R s m args below meth c Z own bytes maxL ret n0 s₀ h k j pc' L S := by
  exact G.step fun T locs X eT hx hb t q => XS.ifYes X.here hx rfl (pc0 := pc) (pc' := pc') rfl (Jvm.hb hb hd) rfl hc ho hp q
theorem Go.ifN {cd : ClassFile.Cond} {o : Int} {x : Int32} (G : Go p l e R s m args below meth c Z own bytes maxL ret n0 s₀ h k j pc L (.int x :: S)) (hd : decode bytes pc = .ok (.ifCond cd o, 3)) (pc' : Nat) (hc : ifCond.holds cd x = false) (hp : pc + 3 = pc' := by rfl) : Go p l e R s m args below meth c Z own bytes maxL ret n0 s₀ h k j pc' L S := by
  subst hp; exact G.step fun T locs X eT hx hb t q => XS.ifNo X.here hx rfl (Jvm.hb hb hd) rfl hc q
theorem Go.icmpY {cd : ClassFile.Cond} {o : Int} {x y : Int32} (G : Go p l e R s m args below meth c Z own bytes maxL ret n0 s₀ h k j pc L (.int y :: .int x :: S)) (hd : decode bytes pc = .ok (.if_icmp cd o, 3)) (pc' : Nat) (hc : if_icmp.holds cd x y = true) (ho : 0 ≤ (pc : Int) + o := by decide) (hp : ((pc : Int) + o).toNat = pc' := by decide) : Go p l e R s m args below meth c Z own bytes maxL ret n0 s₀ h k j pc' L S := by
  exact G.step fun T locs X eT hx hb t q => XS.icmpYes X.here hx rfl (pc0 := pc) (pc' := pc') rfl (Jvm.hb hb hd) rfl hc ho hp q
theorem Go.icmpN {cd : ClassFile.Cond} {o : Int} {x y : Int32} (G : Go p l e R s m args below meth c Z own bytes maxL ret n0 s₀ h k j pc L (.int y :: .int x :: S)) (hd : decode bytes pc = .ok (.if_icmp cd o, 3)) (pc' : Nat) (hc : if_icmp.holds cd x y = false) (hp : pc + 3 = pc' := by rfl) : Go p l e R s m args below meth c Z own bytes maxL ret n0 s₀ h k j pc' L S := by
  subst hp; exact G.step fun T locs X eT hx hb t q => XS.icmpNo X.here hx rfl (Jvm.hb hb hd) rfl hc q
theorem Go.ifnullY {o : Int} (G : Go p l e R s m args below meth c Z own bytes maxL ret n0 s₀ h k j pc L (.null :: S)) (hd : decode bytes pc = .ok (.ifnull o, 3)) (pc' : Nat) (ho : 0 ≤ (pc : Int) + o := by decide) (hp : ((pc : Int) + o).toNat = pc' := by decide) : Go p l e R s m args below meth c Z own bytes maxL ret n0 s₀ h k j pc' L S := by
  exact G.step fun T locs X eT hx hb t q => XS.ifnullYes X.here hx rfl (pc0 := pc) (pc' := pc') rfl (Jvm.hb hb hd) rfl ho hp q
theorem Go.ifnullN {o : Int} {b : Addr} (G : Go p l e R s m args below meth c Z own bytes maxL ret n0 s₀ h k j pc L (.ref b :: S)) (hd : decode bytes pc = .ok (.ifnull o, 3)) (pc' : Nat) (hp : pc + 3 = pc' := by rfl) : Go p l e R s m args below meth c Z own bytes maxL ret n0 s₀ h k j pc' L S := by
  subst hp; exact G.step fun T locs X eT hx hb t q => XS.ifnullNo X.here hx rfl (Jvm.hb hb hd) rfl q
theorem Go.ifnonnullY {o : Int} {b : Addr} (G : Go p l e R s m args below meth c Z own bytes maxL ret n0 s₀ h k j pc L (.ref b :: S)) (hd : decode bytes pc = .ok (.ifnonnull o, 3)) (pc' : Nat) (ho : 0 ≤ (pc : Int) + o := by decide) (hp : ((pc : Int) + o).toNat = pc' := by decide) : Go p l e R s m args below meth c Z own bytes maxL ret n0 s₀ h k j pc' L S := by
  exact G.step fun T locs X eT hx hb t q => XS.ifnonnullYes X.here hx rfl (pc0 := pc) (pc' := pc') rfl (Jvm.hb hb hd) rfl ho hp q
theorem Go.ifnonnullN {o : Int} (G : Go p l e R s m args below meth c Z own bytes maxL ret n0 s₀ h k j pc L (.null :: S)) (hd : decode bytes pc = .ok (.ifnonnull o, 3)) (pc' : Nat) (hp : pc + 3 = pc' := by rfl) : Go p l e R s m args below meth c Z own bytes maxL ret n0 s₀ h k j pc' L S := by
  subst hp; exact G.step fun T locs X eT hx hb t q => XS.ifnonnullNo X.here hx rfl (Jvm.hb hb hd) rfl q
theorem Go.out {w : Value} {t : FieldType} {i : Instr} {kc js : Nat} {Q : Option Value → Heap → Prop} (G : Go p l e R s m args below meth c Z own bytes maxL ret n0 s₀ h k j pc L (w :: S)) (hr : ret = some t) (hn : narrow t w = w)
    (hi : (i = .ireturn ∧ (t = .int ∨ t = .boolean ∨ t = .byte ∨ t = .char ∨ t = .short) ∧ ∃ z, w = .int z) ∨ (i = .lreturn ∧ t = .long ∧ ∃ z, w = .long z) ∨ (i = .dreturn ∧ t = .double ∧ ∃ z, w = .double z) ∨ (i = .freturn ∧ t = .float ∧ ∃ z, w = .float z) ∨ (i = .areturn ∧ t.isReference = true ∧ w.isRef = true))
    (hd : decode bytes pc = .ok (i, 1)) (hQ : Q (some w) h) (hk : k ≤ kc) (hj : j ≤ js) : Fini p e below s s₀ n0 kc js Q := by
  obtain ⟨⟨hx, hb, hm, hZ, ho, hret, hlk, hn0⟩, T, locs, X, eT, N, st⟩ := G
  subst hr
  obtain ⟨fs, hr, hrun, hended, hW, hsame⟩ := X.leave (v := some w) (fun h => by rw [hret] at h; cases h) hlk
  exact ⟨_, _, st _ (retOut X hx hret hn hi (Jvm.hb hb hd) hr), hrun, hended, _, _, rfl, ⟨by show Q _ T.heap; rw [eT]; exact hQ, N⟩, ⟨_, rfl⟩, hW, hsame.mono hk hj⟩
theorem Go.retI {z : Int32} {kc js : Nat} {Q : Option Value → Heap → Prop} (G : Go p l e R s m args below meth c Z own bytes maxL ret n0 s₀ h k j pc L (.int z :: S)) (hd : decode bytes pc = .ok (.ireturn, 1)) (hr : ret = some .int) (hQ : Q (some (.int z)) h) (hk : k ≤ kc := by decide) (hj : j ≤ js := by decide) : Fini p e below s s₀ n0 kc js Q :=
  G.out hr rfl (Or.inl ⟨rfl, Or.inl rfl, z, rfl⟩) hd hQ hk hj
theorem Go.retS {z : Int32} {t : FieldType} {kc js : Nat} {Q : Option Value → Heap → Prop} (G : Go p l e R s m args below meth c Z own bytes maxL ret n0 s₀ h k j pc L (.int z :: S)) (hd : decode bytes pc = .ok (.ireturn, 1)) (hr : ret = some t) (ht : t = .int ∨ t = .boolean ∨ t = .byte ∨ t = .char ∨ t = .short) (hn : narrow t (.int z) = .int z) (hQ : Q (some (.int z)) h) (hk : k ≤ kc := by decide) (hj : j ≤ js := by decide) : Fini p e below s s₀ n0 kc js Q :=
  G.out hr hn (Or.inl ⟨rfl, ht, z, rfl⟩) hd hQ hk hj
theorem Go.retZ {z : Int32} {kc js : Nat} {Q : Option Value → Heap → Prop} (G : Go p l e R s m args below meth c Z own bytes maxL ret n0 s₀ h k j pc L (.int z :: S)) (hd : decode bytes pc = .ok (.ireturn, 1)) (hr : ret = some .boolean) (hn : z = 0 ∨ z = 1) (hQ : Q (some (.int z)) h) (hk : k ≤ kc := by decide) (hj : j ≤ js := by decide) : Fini p e below s s₀ n0 kc js Q :=
  G.out hr (by rcases hn with rfl | rfl <;> rfl) (Or.inl ⟨rfl, Or.inr (Or.inl rfl), z, rfl⟩) hd hQ hk hj
theorem Go.retJ {z : Int64} {kc js : Nat} {Q : Option Value → Heap → Prop} (G : Go p l e R s m args below meth c Z own bytes maxL ret n0 s₀ h k j pc L (.long z :: S)) (hd : decode bytes pc = .ok (.lreturn, 1)) (hr : ret = some .long) (hQ : Q (some (.long z)) h) (hk : k ≤ kc := by decide) (hj : j ≤ js := by decide) : Fini p e below s s₀ n0 kc js Q :=
  G.out hr rfl (Or.inr (Or.inl ⟨rfl, rfl, z, rfl⟩)) hd hQ hk hj
theorem Go.retA {a : Addr} {t : FieldType} {kc js : Nat} {Q : Option Value → Heap → Prop} (G : Go p l e R s m args below meth c Z own bytes maxL ret n0 s₀ h k j pc L (.ref a :: S)) (hd : decode bytes pc = .ok (.areturn, 1)) (hr : ret = some t) (ht : t.isReference = true) (hn : narrow t (.ref a) = .ref a) (hQ : Q (some (.ref a)) h) (hk : k ≤ kc := by decide) (hj : j ≤ js := by decide) : Fini p e below s s₀ n0 kc js Q :=
  G.out hr hn (Or.inr (Or.inr (Or.inr (Or.inr ⟨rfl, ht, rfl⟩)))) hd hQ hk hj
theorem Go.retV {kc js : Nat} {Q : Option Value → Heap → Prop} (G : Go p l e R s m args below meth c Z own bytes maxL ret n0 s₀ h k j pc L []) (hd : decode bytes pc = .ok (.return_, 1)) (hr : ret = none) (hQ : Q none h) (hk : k ≤ kc := by decide) (hj : j ≤ js := by decide) : Fini p e below s s₀ n0 kc js Q := by
  obtain ⟨⟨hx, hb, hm, hZ, ho, hret, hlk, hn0⟩, T, locs, X, eT, N, st⟩ := G
  subst hr
  obtain ⟨fs, hr, hrun, hended, hW, hsame⟩ := X.leave (v := none) (fun _ => rfl) hlk
  exact ⟨_, _, st _ (X.returnOut hx hret (Jvm.hb hb hd) hr), hrun, hended, _, _, rfl, ⟨by show Q _ T.heap; rw [eT]; exact hQ, N⟩, ⟨_, rfl⟩, hW, hsame.mono hk hj⟩
theorem Go.callS {S0 argsL rest : List Value} {y : MethodName} {bytes' : ByteArray} {maxL' : Nat} {ret' r : Option FieldType} {ps : List FieldType} {rm : Room} {index : Nat} {Q : Option Value → Heap → Prop} (G : Go p l e R s m args below meth c Z own bytes maxL ret n0 s₀ h k j pc L S0) (C : Con l y bytes' maxL' ret' [] rm rm.cells rm.slots Z argsL.toArray h n0 Q) (hS : S0 = argsL.reverse ++ rest)
    (w1 : (Cond.methodLink own index y).before a0 Z = true) (w2 : (Cond.static y).before a0 Z = true) (w3 : (Cond.initialized y.cls).before a0 Z = true) (w4 : (Cond.code y bytes' maxL' ret').before a0 Z = true) (hy : y.cls ≠ "java/lang/invoke/MethodHandle" ∧ y.cls ≠ "java/lang/invoke/VarHandle")
    (hd : decode bytes pc = .ok (.invokestatic index, 3)) (hpd : parseMethodDescriptor y.desc = some ⟨ps, r⟩) (hl : argsL.length = ps.length) {W : Nat} (hW : (rest.map fun v => v.category).sum = W) (hL : L.size = maxL) (hf : rm.frames + 1 ≤ R.frames) (hlo : W + (maxL' + 11) + rm.locals ≤ R.locals) (hc : k + rm.cells ≤ R.cells) (hs : j + rm.slots ≤ R.slots) {pc' k' j' : Nat} (hp : pc + 3 = pc') (hk' : k + rm.cells = k') (hj' : j + rm.slots = j') :
    ∃ v h', Q v h' ∧ ∀ S', v.toList ++ rest = S' → Go p l e R s m args below meth c Z own bytes maxL ret n0 s₀ h' k' j' pc' L S' := by
  subst hp hk' hj' hS
  obtain ⟨⟨hx, hb, hm, hZ, ho, hret, hlk, hn0⟩, T, locs, X, eT, N, st⟩ := G
  obtain ⟨v, _, ⟨T', L', k', n'⟩, -, X', ⟨Lc, hQ, l', y', z'⟩, st'⟩ := Jvm.LawKit.callS X hx (y := y) ho (mvT hZ w1) (mvT hZ w2) (mvT hZ w3) (mvT hZ w4) hy (backOf (W := W) (R := R) (rm := rm) (Q := fun v h L => Q v h ∧ Fr n0 L) C hZ w4 w3 hf hlo) (g := mkF m pc L (argsL.reverse ++ rest)) rfl (by rw [hm]; exact hL) (argsL := argsL) (rest := rest) (lenOf hpd hl) rfl (by show 2 * 0 + _ ≤ _; omega) (Jvm.hb hb hd) (fun _ _ => ⟨rfl, eT, hc, hs⟩)
  dsimp only [Pt.U, Pt.locs, Pt.cells, Pt.slots] at X' l' y' z' st' hQ
  subst l' y' z'
  refine ⟨v, T'.heap, hQ.1, fun S' e => ?_⟩
  subst e
  exact ⟨⟨hx, hb, hm, hZ, ho, hret, hlk, hn0⟩, T', _, X', rfl, Fr.app N hQ.2, fun t q => st t (st' t q)⟩
theorem Go.callI {S0 argsL rest : List Value} {y : MethodName} {bytes' : ByteArray} {maxL' : Nat} {r : Option FieldType} {ps : List FieldType} {rm : Room} {index : Nat} {Q : Option Value → Heap → Prop} {a : Addr} (G : Go p l e R s m args below meth c Z own bytes maxL ret n0 s₀ h k j pc L S0) (C : Con l y bytes' maxL' none [] rm rm.cells rm.slots Z (.ref a :: argsL).toArray h n0 Q) (hS : S0 = argsL.reverse ++ .ref a :: rest) (hyn : y.name = "<init>")
    (w1 : (Cond.methodLink own index y).before a0 Z = true) (w2 : (Cond.instanceMethod y).before a0 Z = true) (w3 : (Cond.initialized y.cls).before a0 Z = true) (w4 : (Cond.code y bytes' maxL' none).before a0 Z = true) (hy : y.cls ≠ "java/lang/invoke/MethodHandle" ∧ y.cls ≠ "java/lang/invoke/VarHandle")
    (hd : decode bytes pc = .ok (.invokespecial index, 3)) (hpd : parseMethodDescriptor y.desc = some ⟨ps, r⟩) (hl : argsL.length = ps.length) {W : Nat} (hW : (rest.map fun v => v.category).sum = W) (hL : L.size = maxL) (hf : rm.frames + 1 ≤ R.frames) (hlo : W + (maxL' + 11) + rm.locals ≤ R.locals) (hc : k + rm.cells ≤ R.cells) (hs : j + rm.slots ≤ R.slots) {pc' k' j' : Nat} (hp : pc + 3 = pc') (hk' : k + rm.cells = k') (hj' : j + rm.slots = j') :
    ∃ v h', Q v h' ∧ ∀ S', v.toList ++ rest = S' → Go p l e R s m args below meth c Z own bytes maxL ret n0 s₀ h' k' j' pc' L S' := by
  subst hp hk' hj' hS
  obtain ⟨⟨hx, hb, hm, hZ, ho, hret, hlk, hn0⟩, T, locs, X, eT, N, st⟩ := G
  obtain ⟨v, _, ⟨T', L', k', n'⟩, -, X', ⟨Lc, hQ, l', y', z'⟩, st'⟩ := X.specialBack hx (y := y) hyn ho (mvT hZ w1) (mvT hZ w2) (mvT hZ w4) hy (backOf (W := W) (R := R) (rm := rm) (Q := fun v h L => Q v h ∧ Fr n0 L) C hZ w4 w3 hf hlo) (g := mkF m pc L (argsL.reverse ++ .ref a :: rest)) rfl (by rw [hm]; exact hL) (Steps.refl _) (a := a) (argsL := argsL) (rest := rest) (lenOf hpd hl) rfl (by show 2 * 0 + _ ≤ _; omega) (Jvm.hb hb hd) (fun _ _ => ⟨rfl, eT, hc, hs⟩)
  dsimp only [Pt.U, Pt.locs, Pt.cells, Pt.slots] at X' l' y' z' st' hQ
  subst l' y' z'
  refine ⟨v, T'.heap, hQ.1, fun S' e => ?_⟩
  subst e
  exact ⟨⟨hx, hb, hm, hZ, ho, hret, hlk, hn0⟩, T', _, X', rfl, Fr.app N hQ.2, fun t q => st t (st'.trans q)⟩
theorem Go.callV {S0 argsL rest : List Value} {y : MethodName} {bytes' : ByteArray} {maxL' : Nat} {ret' r : Option FieldType} {ps : List FieldType} {rm : Room} {index : Nat} {Q : Option Value → Heap → Prop} {a : Addr} {K : String} (G : Go p l e R s m args below meth c Z own bytes maxL ret n0 s₀ h k j pc L S0) (C : Con l y bytes' maxL' ret' [] rm rm.cells rm.slots Z (.ref a :: argsL).toArray h n0 Q) (hS : S0 = argsL.reverse ++ .ref a :: rest) (E : Exa Z h a K)
    (w1 : (Cond.methodLink own index y).before a0 Z = true) (w1' : (Cond.declares y).before a0 Z = true) (w1'' : (Cond.selects K y y).before a0 Z = true) (w2 : (Cond.instanceMethod y).before a0 Z = true) (w3 : (Cond.initialized y.cls).before a0 Z = true) (w4 : (Cond.code y bytes' maxL' ret').before a0 Z = true) (hy : y.cls ≠ "java/lang/invoke/MethodHandle" ∧ y.cls ≠ "java/lang/invoke/VarHandle")
    (hd : decode bytes pc = .ok (.invokevirtual index, 3)) (hpd : parseMethodDescriptor y.desc = some ⟨ps, r⟩) (hl : argsL.length = ps.length) {W : Nat} (hW : (rest.map fun v => v.category).sum = W) (hL : L.size = maxL) (hf : rm.frames + 1 ≤ R.frames) (hlo : W + (maxL' + 11) + rm.locals ≤ R.locals) (hc : k + rm.cells ≤ R.cells) (hs : j + rm.slots ≤ R.slots) {pc' k' j' : Nat} (hp : pc + 3 = pc') (hk' : k + rm.cells = k') (hj' : j + rm.slots = j') :
    ∃ v h', Q v h' ∧ ∀ S', v.toList ++ rest = S' → Go p l e R s m args below meth c Z own bytes maxL ret n0 s₀ h' k' j' pc' L S' := by
  subst hp hk' hj' hS
  obtain ⟨⟨hx, hb, hm, hZ, ho, hret, hlk, hn0⟩, T, locs, X, eT, N, st⟩ := G
  obtain ⟨cq, kq, q1, q2, q3⟩ := isOf hZ eT E
  obtain ⟨v, _, ⟨T', L', k', n'⟩, -, X', ⟨Lc, hQ, l', y', z'⟩, st'⟩ := X.virtualBack hx (y := y) (z := y) ho (mvT hZ w1) (mvT hZ w1') (notFace_of_selects (args := #[]) (mvT hZ w1'')) (mvT hZ w1'') (mvT hZ w2) hy (backOf (W := W) (R := R) (rm := rm) (Q := fun v h L => Q v h ∧ Fr n0 L) C hZ w4 w3 hf hlo) q1 q3 (g := mkF m pc L (argsL.reverse ++ .ref a :: rest)) rfl (by rw [hm]; exact hL) (Steps.refl _) (argsL := argsL) (rest := rest) (lenOf hpd hl) rfl (by show 2 * 0 + _ ≤ _; omega) (Jvm.hb hb hd) (fun _ _ => ⟨rfl, eT, hc, hs⟩)
  dsimp only [Pt.U, Pt.locs, Pt.cells, Pt.slots] at X' l' y' z' st' hQ
  subst l' y' z'
  refine ⟨v, T'.heap, hQ.1, fun S' e => ?_⟩
  subst e
  exact ⟨⟨hx, hb, hm, hZ, ho, hret, hlk, hn0⟩, T', _, X', rfl, Fr.app N hQ.2, fun t q => st t (st'.trans q)⟩
theorem Go.initO {a : Addr} {index : Nat} (G : Go p l e R s m args below meth c Z own bytes maxL ret n0 s₀ h k j pc L (.ref a :: S)) (w1 : (Cond.methodLink own index Lib.objectInit).before a0 Z = true) (w2 : (Cond.instanceMethod Lib.objectInit).before a0 Z = true) (w3 : (Cond.code Lib.objectInit Jvm.LibCode.Object.Init0.code 1 none).before a0 Z = true) (hd : decode bytes pc = .ok (.invokespecial index, 3)) {W : Nat} (hW : (S.map fun v => v.category).sum = W) (hL : L.size = maxL) (hf : 1 ≤ R.frames) (hlo : W + 12 ≤ R.locals) {pc' : Nat} (hp : pc + 3 = pc' := by rfl) : Go p l e R s m args below meth c Z own bytes maxL ret n0 s₀ h k j pc' L S := by
  subst hp
  obtain ⟨⟨hx, hb, hm, hZ, ho, r⟩, T, locs, X, eT, N, st⟩ := G
  obtain ⟨T', X', e', st'⟩ := Jvm.RoadKit.initO X hx hZ ho w1 w2 w3 eT (g := mkF m pc L (.ref a :: S)) rfl (by rw [hm]; exact hL) rfl (Jvm.hb hb hd) hf (W := W) (by show 2 * 0 + _ ≤ _; omega) hlo
  exact ⟨⟨hx, hb, hm, hZ, ho, r⟩, T', locs, X', e', N, fun t q => st t (st' t q)⟩
theorem Go.newO {C : String} {index n : Nat} (G : Go p l e R s m args below meth c Z own bytes maxL ret n0 s₀ h k j pc L S) (w1 : (Cond.classLink own index C).before a0 Z = true) (w2 : (Cond.instantiable C n).before a0 Z = true) (w3 : (Cond.initialized C).before a0 Z = true) (hd : decode bytes pc = .ok (.new index, 3)) {pc' k' j' : Nat} (hp : pc + 3 = pc') (hk : k + 1 = k') (hj : j + n = j') (hc : k' ≤ R.cells) (hl : j' ≤ R.slots) :
    ∃ a h', a = h.size ∧ n0 ≤ a ∧ Ext h h' ∧ Exa Z h' a C ∧ (∀ {O nm d : String} {ty : FieldType}, Laid Z a0 C O nm d → parseFieldDescriptor d = some ty → Fld Z h' a O nm d (defaultValue ty)) ∧ Go p l e R s m args below meth c Z own bytes maxL ret n0 s₀ h' k' j' pc' L (.ref a :: S) := by
  have hsz := G.size
  subst hp hk hj
  obtain ⟨⟨hx, hb, hm, hZ, ho, r⟩, T, locs, X, eT, N, st⟩ := G
  obtain ⟨T2, h2, X2, e2, E2, A2, D2, -, st2⟩ := Jvm.RoadKit.newO X hx hZ ho w1 w2 w3 eT (g := mkF m pc L S) rfl (Jvm.hb hb hd) hc hl
  exact ⟨h.size, h2, rfl, hsz, E2, A2, D2, ⟨hx, hb, hm, hZ, ho, r⟩, T2, locs, X2, e2, N, fun t q => st t (st2 t q)⟩
theorem Go.getF {a : Addr} {R0 O n d host : String} {index : Nat} {v : Value} (G : Go p l e R s m args below meth c Z own bytes maxL ret n0 s₀ h k j pc L (.ref a :: S)) (w : (Cond.fieldLink own index R0 n d).before a0 Z = true ∨ (Cond.fieldLinkNest own index R0 n d host).before a0 Z = true) (via : Via Z R0 O n d) (F : Fld Z h a O n d v) (hd : decode bytes pc = .ok (.getfield index, 3)) {pc' : Nat} (hp : pc + 3 = pc' := by rfl) : Go p l e R s m args below meth c Z own bytes maxL ret n0 s₀ h k j pc' L (v :: S) := by
  subst hp
  obtain ⟨⟨hx, hb, hm, hZ, ho, r⟩, T, locs, X, eT, N, st⟩ := G
  obtain ⟨T', X', e', st'⟩ := Jvm.RoadKit.getF X hx hZ ho w via eT F (g := mkF m pc L (.ref a :: S)) rfl rfl (Jvm.hb hb hd)
  exact ⟨⟨hx, hb, hm, hZ, ho, r⟩, T', locs, X', e', N, fun t q => st t (st' t q)⟩
theorem Go.putF {a : Addr} {R0 O n d host C : String} {index kk : Nat} {ty : FieldType} {v old : Value} (G : Go p l e R s m args below meth c Z own bytes maxL ret n0 s₀ h k j pc L (v :: .ref a :: S)) (w : (Cond.fieldLink own index R0 n d).before a0 Z = true ∨ (Cond.fieldLinkNest own index R0 n d host).before a0 Z = true) (via : Via Z R0 O n d) (F : Fld Z h a O n d old) (E : Exa Z h a C) (ha : n0 ≤ a) (Ly : (Cond.lays C O n d).before a0 Z = true ∨ ((Cond.laysFinal C O n d).before a0 Z = true ∧ own = O ∧ meth.name = "<init>")) (wi : (Cond.instantiable C kk).before a0 Z = true) (hty : parseFieldDescriptor d = some ty) (hn : narrow ty v = v) (hf : fits ty v = true) (hd : decode bytes pc = .ok (.putfield index, 3)) {pc' : Nat} (hp : pc + 3 = pc' := by rfl) :
    ∃ h', Wr h h' a (Jvm.RoadKit.slotOf Z O n d) v ∧ Go p l e R s m args below meth c Z own bytes maxL ret n0 s₀ h' k j pc' L S := by
  subst hp
  obtain ⟨⟨hx, hb, hm, hZ, ho, r⟩, T, locs, X, eT, N, st⟩ := G
  obtain ⟨T', h', X', e', W', st'⟩ := Jvm.RoadKit.putF X hx hZ ho w via eT F E Ly wi hty hn hf (g := mkF m pc L (v :: .ref a :: S)) rfl rfl (Jvm.hb hb hd)
  exact ⟨h', W', ⟨hx, hb, hm, hZ, ho, r⟩, T', _, X', e', Fr.snoc X' N ha, fun t q => st t (st' t q)⟩
/-- an array of that kind whose places hold these values -/
def Av (Z : State) (h : Heap) (a : Addr) (ty : FieldType) (vs : List Value) : Prop := ∃ c : Cell, Arr Z h a c ty ∧ c.slots.toList = vs ∧ vs.length < 2 ^ 31 ∧ ∀ v ∈ vs, fits ty v = true
theorem Av.lt {a : Addr} {ty : FieldType} {vs : List Value} (A : Av Z h a ty vs) : a < h.size := by obtain ⟨c, A, -⟩ := A; exact A.lt
theorem Av.len {a : Addr} {ty : FieldType} {vs : List Value} (A : Av Z h a ty vs) : vs.length < 2 ^ 31 := by obtain ⟨c, _, _, q, _⟩ := A; exact q
theorem Av.fit {a : Addr} {ty : FieldType} {vs : List Value} (A : Av Z h a ty vs) : ∀ v ∈ vs, fits ty v = true := by obtain ⟨c, _, _, _, q⟩ := A; exact q
theorem Av.ext {h' : Heap} {a : Addr} {ty : FieldType} {vs : List Value} (A : Av Z h a ty vs) (E : Ext h h') : Av Z h' a ty vs := by obtain ⟨c, A, q⟩ := A; exact ⟨c, A.ext E, q⟩
theorem Av.other {h' : Heap} {a b : Addr} {sl : Nat} {v : Value} {ty : FieldType} {vs : List Value} (A : Av Z h b ty vs) (W : Wr h h' a sl v) (q : b ≠ a) : Av Z h' b ty vs := by obtain ⟨c, A, r⟩ := A; exact ⟨c, A.other W q, r⟩
theorem Av.keep {h' : Heap} {a : Addr} {ws : List Addr} {ty : FieldType} {vs : List Value} (A : Av Z h a ty vs) (K : Keep h h' ws) (q : a ∉ ws) : Av Z h' a ty vs := by obtain ⟨c, A, r⟩ := A; exact ⟨c, ⟨K.2.1 a c A.1 q, A.2⟩, r⟩
theorem Av.set {h' : Heap} {a : Addr} {i : Nat} {v : Value} {ty : FieldType} {vs : List Value} (A : Av Z h a ty vs) (W : Wr h h' a i v) (hf : fits ty v = true) : Av Z h' a ty (vs.set i v) := by
  obtain ⟨c, A, rfl, r, f⟩ := A
  exact ⟨c.setSlot i v, A.same W, by simp [Cell.setSlot], by simpa using r, fun x hx => (List.mem_or_eq_of_mem_set hx).elim (f x) fun q => q ▸ hf⟩
theorem idx_of {x : Int32} {i n : Nat} (hx : x.toInt = (i : Int)) (hi : i < n) : ¬ (x < 0 ∨ n ≤ x.toNatClampNeg) ∧ x.toNatClampNeg = i := by
  have e : x.toNatClampNeg = i := by show x.toInt.toNat = i; omega
  refine ⟨?_, e⟩
  rw [e, Int32.lt_iff_toInt_lt, hx]
  show ¬ (((i : Nat) : Int) < 0 ∨ n ≤ i)
  omega
theorem Go.newA {n : Int32} {aty : ArrayType} {ty : FieldType} {dv : Value} {N cap : Nat} (G : Go p l e R s m args below meth c Z own bytes maxL ret n0 s₀ h k j pc L (.int n :: S)) (w : (Cond.arrayClass ty).before a0 Z = true) (hd : decode bytes pc = .ok (.newarray aty, 2)) (hty : newarray.typeOf aty = ty) (hdv : defaultValue ty = dv) (hn : n.toInt = (N : Int)) (hN : N ≤ cap) (hb : cap * 8 ≤ 536870912) {pc' k' j' : Nat} (hp : pc + 2 = pc') (hk : k + 1 = k') (hj : j + cap = j') (hc : k' ≤ R.cells) (hl : j' ≤ R.slots) :
    ∃ a h', a = h.size ∧ n0 ≤ a ∧ Ext h h' ∧ Av Z h' a ty (List.replicate N dv) ∧ Go p l e R s m args below meth c Z own bytes maxL ret n0 s₀ h' k' j' pc' L (.ref a :: S) := by
  have hsz := G.size
  have e1 : n.toNatClampNeg = N := by show n.toInt.toNat = N; omega
  have e2 := n.toInt_lt
  subst hp hk hj hty hdv
  obtain ⟨⟨hx, hb', hm, hZ, ho, r⟩, T, locs, X, eT, N', st⟩ := G
  obtain ⟨T2, h2, cA, X2, e3, E2, A2, st2⟩ := Jvm.RoadKit.newP X hx hZ w eT (g := mkF m pc L (.int n :: S)) rfl (Jvm.hb hb' hd) rfl (by rw [Int32.lt_iff_toInt_lt, hn]; show ¬ ((N : Nat) : Int) < 0; omega) (cap := cap) (by rw [e1]; exact hN) hb hc hl
  exact ⟨h.size, h2, rfl, hsz, E2, ⟨_, A2, by rw [Jvm.RoadKit.newA, e1]; simp, by rw [List.length_replicate]; omega, fun v hv => by rw [List.eq_of_mem_replicate hv]; cases aty <;> rfl⟩, ⟨hx, hb', hm, hZ, ho, r⟩, T2, locs, X2, e3, N', fun t q => st t (st2 t q)⟩
theorem Go.stI {a : Addr} {x : Int32} {y : Int32} {i : Nat} {vs : List Value} (G : Go p l e R s m args below meth c Z own bytes maxL ret n0 s₀ h k j pc L (.int x :: .int y :: .ref a :: S)) (A : Av Z h a .int vs) (ha : n0 ≤ a) (hy : y.toInt = (i : Int)) (hi : i < vs.length) (hd : decode bytes pc = .ok (.iastore, 1)) {pc' : Nat} (hp : pc + 1 = pc' := by rfl) :
    ∃ h', Wr h h' a i (.int x) ∧ Av Z h' a .int (vs.set i (.int x)) ∧ Go p l e R s m args below meth c Z own bytes maxL ret n0 s₀ h' k j pc' L S := by
  have A0 := A
  obtain ⟨cl, Ar, rfl, hlen, -⟩ := A
  rw [Array.length_toList] at hi
  have ⟨i1, i2⟩ := idx_of hy hi
  subst hp
  obtain ⟨⟨hx, hb, hm, hZ, ho, r⟩, T, locs, X, eT, N, st⟩ := G
  obtain ⟨T', h', X', e', W', st'⟩ := Jvm.RoadKit.stI X hx hZ eT Ar i1 (g := mkF m pc L (.int x :: .int y :: .ref a :: S)) rfl rfl (Jvm.hb hb hd)
  have N' := Fr.snoc X' N ha
  rw [i2] at W'
  exact ⟨h', W', A0.set W' rfl, ⟨hx, hb, hm, hZ, ho, r⟩, T', _, X', e', N', fun t q => st t (st' t q)⟩
theorem Go.stJ {a : Addr} {x : Int64} {y : Int32} {i : Nat} {vs : List Value} (G : Go p l e R s m args below meth c Z own bytes maxL ret n0 s₀ h k j pc L (.long x :: .int y :: .ref a :: S)) (A : Av Z h a .long vs) (ha : n0 ≤ a) (hy : y.toInt = (i : Int)) (hi : i < vs.length) (hd : decode bytes pc = .ok (.lastore, 1)) {pc' : Nat} (hp : pc + 1 = pc' := by rfl) :
    ∃ h', Wr h h' a i (.long x) ∧ Av Z h' a .long (vs.set i (.long x)) ∧ Go p l e R s m args below meth c Z own bytes maxL ret n0 s₀ h' k j pc' L S := by
  have A0 := A
  obtain ⟨cl, Ar, rfl, hlen, -⟩ := A
  rw [Array.length_toList] at hi
  have ⟨i1, i2⟩ := idx_of hy hi
  subst hp
  obtain ⟨⟨hx, hb, hm, hZ, ho, r⟩, T, locs, X, eT, N, st⟩ := G
  obtain ⟨T', h', X', e', W', st'⟩ := Jvm.RoadKit.stJ X hx hZ eT Ar i1 (g := mkF m pc L (.long x :: .int y :: .ref a :: S)) rfl rfl (Jvm.hb hb hd)
  have N' := Fr.snoc X' N ha
  rw [i2] at W'
  exact ⟨h', W', A0.set W' rfl, ⟨hx, hb, hm, hZ, ho, r⟩, T', _, X', e', N', fun t q => st t (st' t q)⟩
theorem Go.stB {a : Addr} {x : Int32} {y : Int32} {i : Nat} {vs : List Value} (G : Go p l e R s m args below meth c Z own bytes maxL ret n0 s₀ h k j pc L (.int x :: .int y :: .ref a :: S)) (A : Av Z h a .byte vs) (ha : n0 ≤ a) (hy : y.toInt = (i : Int)) (hi : i < vs.length) (hd : decode bytes pc = .ok (.bastore, 1)) {pc' : Nat} (hp : pc + 1 = pc' := by rfl) :
    ∃ h', Wr h h' a i (.int (nar .byte x)) ∧ Av Z h' a .byte (vs.set i (.int (nar .byte x))) ∧ Go p l e R s m args below meth c Z own bytes maxL ret n0 s₀ h' k j pc' L S := by
  have A0 := A
  obtain ⟨cl, Ar, rfl, hlen, -⟩ := A
  rw [Array.length_toList] at hi
  have ⟨i1, i2⟩ := idx_of hy hi
  subst hp
  obtain ⟨⟨hx, hb, hm, hZ, ho, r⟩, T, locs, X, eT, N, st⟩ := G
  obtain ⟨T', h', X', e', W', st'⟩ := Jvm.RoadKit.stB X hx hZ eT Ar i1 (g := mkF m pc L (.int x :: .int y :: .ref a :: S)) rfl rfl (Jvm.hb hb hd)
  have N' := Fr.snoc X' N ha
  rw [i2] at W'
  exact ⟨h', W', A0.set W' (fits_nar_byte x), ⟨hx, hb, hm, hZ, ho, r⟩, T', _, X', e', N', fun t q => st t (st' t q)⟩
theorem Go.ldI {a : Addr} {v : Value} {y : Int32} {i : Nat} {vs : List Value} (G : Go p l e R s m args below meth c Z own bytes maxL ret n0 s₀ h k j pc L (.int y :: .ref a :: S)) (A : Av Z h a .int vs) (hy : y.toInt = (i : Int)) (hv : vs[i]? = some v) (hd : decode bytes pc = .ok (.iaload, 1)) {pc' : Nat} (hp : pc + 1 = pc' := by rfl) : Go p l e R s m args below meth c Z own bytes maxL ret n0 s₀ h k j pc' L (v :: S) := by
  obtain ⟨cl, Ar, rfl, hlen, -⟩ := A
  have hi : i < cl.slots.size := by rw [← Array.length_toList]; exact (List.getElem?_eq_some_iff.mp hv).1
  have ⟨i1, i2⟩ := idx_of hy hi
  rw [Array.getElem?_toList] at hv
  subst hp
  obtain ⟨⟨hx, hb, hm, hZ, ho, r⟩, T, locs, X, eT, N, st⟩ := G
  exact ⟨⟨hx, hb, hm, hZ, ho, r⟩, T, locs, X, eT, N, fun t q => st t (X.iaload hx (j := y) (v := v) (by rw [eT]; exact Ar.1) (State.isArrayOf_alike hZ.alike Ar.2.1) Ar.2.2 i1 (by rw [i2]; exact hv) (g := mkF m pc L (.int y :: .ref a :: S)) rfl rfl (Jvm.hb hb hd) t q)⟩
theorem Go.ldJ {a : Addr} {v : Value} {y : Int32} {i : Nat} {vs : List Value} (G : Go p l e R s m args below meth c Z own bytes maxL ret n0 s₀ h k j pc L (.int y :: .ref a :: S)) (A : Av Z h a .long vs) (hy : y.toInt = (i : Int)) (hv : vs[i]? = some v) (hd : decode bytes pc = .ok (.laload, 1)) {pc' : Nat} (hp : pc + 1 = pc' := by rfl) : Go p l e R s m args below meth c Z own bytes maxL ret n0 s₀ h k j pc' L (v :: S) := by
  obtain ⟨cl, Ar, rfl, hlen, -⟩ := A
  have hi : i < cl.slots.size := by rw [← Array.length_toList]; exact (List.getElem?_eq_some_iff.mp hv).1
  have ⟨i1, i2⟩ := idx_of hy hi
  rw [Array.getElem?_toList] at hv
  subst hp
  obtain ⟨⟨hx, hb, hm, hZ, ho, r⟩, T, locs, X, eT, N, st⟩ := G
  exact ⟨⟨hx, hb, hm, hZ, ho, r⟩, T, locs, X, eT, N, fun t q => st t (X.laload hx (j := y) (v := v) (by rw [eT]; exact Ar.1) (State.isArrayOf_alike hZ.alike Ar.2.1) Ar.2.2 i1 (by rw [i2]; exact hv) (g := mkF m pc L (.int y :: .ref a :: S)) rfl rfl (Jvm.hb hb hd) t q)⟩
theorem Go.ldB {a : Addr} {v : Value} {y : Int32} {i : Nat} {vs : List Value} (G : Go p l e R s m args below meth c Z own bytes maxL ret n0 s₀ h k j pc L (.int y :: .ref a :: S)) (A : Av Z h a .byte vs) (hy : y.toInt = (i : Int)) (hv : vs[i]? = some v) (hd : decode bytes pc = .ok (.baload, 1)) {pc' : Nat} (hp : pc + 1 = pc' := by rfl) : Go p l e R s m args below meth c Z own bytes maxL ret n0 s₀ h k j pc' L (v :: S) := by
  obtain ⟨cl, Ar, rfl, hlen, -⟩ := A
  have hi : i < cl.slots.size := by rw [← Array.length_toList]; exact (List.getElem?_eq_some_iff.mp hv).1
  have ⟨i1, i2⟩ := idx_of hy hi
  rw [Array.getElem?_toList] at hv
  subst hp
  obtain ⟨⟨hx, hb, hm, hZ, ho, r⟩, T, locs, X, eT, N, st⟩ := G
  exact ⟨⟨hx, hb, hm, hZ, ho, r⟩, T, locs, X, eT, N, fun t q => st t (X.baloadBytes hx (j := y) (v := v) (by rw [eT]; exact Ar.1) (State.isArrayOf_alike hZ.alike Ar.2.1) Ar.2.2 i1 (by rw [i2]; exact hv) (g := mkF m pc L (.int y :: .ref a :: S)) rfl rfl (Jvm.hb hb hd) t q)⟩
theorem Go.arrlen {a : Addr} {ty : FieldType} {vs : List Value} (v : Int32) (G : Go p l e R s m args below meth c Z own bytes maxL ret n0 s₀ h k j pc L (.ref a :: S)) (A : Av Z h a ty vs) (hv : v.toInt = (vs.length : Int)) (hd : decode bytes pc = .ok (.arraylength, 1)) {pc' : Nat} (hp : pc + 1 = pc' := by rfl) : Go p l e R s m args below meth c Z own bytes maxL ret n0 s₀ h k j pc' L (.int v :: S) := by
  obtain ⟨cl, Ar, rfl, hlen, -⟩ := A
  have e1 : cl.slots.size.toInt32 = v := by
    rw [Array.length_toList] at hlen hv
    apply Int32.toInt_inj.mp
    rw [hv]
    exact Int32.toInt_ofNat_of_lt (by omega)
  subst hp e1
  obtain ⟨⟨hx, hb, hm, hZ, ho, r⟩, T, locs, X, eT, N, st⟩ := G
  exact ⟨⟨hx, hb, hm, hZ, ho, r⟩, T, locs, X, eT, N, fun t q => st t (X.arraylength hx (by rw [eT]; exact Ar.1) (State.isArrayOf_alike hZ.alike Ar.2.1) (g := mkF m pc L (.ref a :: S)) rfl rfl (Jvm.hb hb hd) t q)⟩
end OwnKit
end Jvm.OwnKit
namespace Jvm.Pilot.@@N@@
open Jvm Jvm.ClassFile Sem Op Lib Jvm.Free Jvm.Stand Jvm.LawKit Jvm.RoadKit Bundle Jvm.OwnKit Jvm.Pilot.@@N@@.Jvm.D
theorem d1_0 : decode prog_58_method_1_code 0 = .ok (.aload_n 0, 1) := by decide +kernel
theorem d1_1 : decode prog_58_method_1_code 1 = .ok (.invokespecial 1, 3) := by decide +kernel
theorem d1_4 : decode prog_58_method_1_code 4 = .ok (.aload_n 0, 1) := by decide +kernel
theorem d1_5 : decode prog_58_method_1_code 5 = .ok (.ldc2_w 9, 3) := by decide +kernel
theorem d1_8 : decode prog_58_method_1_code 8 = .ok (.putfield 11, 3) := by decide +kernel
theorem d1_11 : decode prog_58_method_1_code 11 = .ok (.aload_n 0, 1) := by decide +kernel
theorem d1_12 : decode prog_58_method_1_code 12 = .ok (.lload_n 1, 1) := by decide +kernel
theorem d1_13 : decode prog_58_method_1_code 13 = .ok (.putfield 15, 3) := by decide +kernel
theorem d1_16 : decode prog_58_method_1_code 16 = .ok (.return_, 1) := by decide +kernel
theorem pn0 : plainName "com/example/multi_reactor/multireactor/loop/StandAsides" = true := by first | (simp [plainName, overriddenIn]; done) | decide +kernel
theorem ef1 (m : MethodId) (a : Addr) (x0 : Int64) : entryFrame m #[(.ref a), (.long x0)] 3 = mkF m 0 #[.val (.ref a), .val (.long x0), .second] [] := by first | (simp [entryFrame, mkF, argsToLocals, Value.category]; done) | rfl
def rm1 : Room := { frames := 1, cells := 0, slots := 0, locals := 12 }
set_option maxRecDepth 65536 in
set_option maxHeartbeats 40000000 in
theorem cn1 (l : Launch) (Z : State) (a0 : Array Value) (hw : ∀ d ∈ tables_1, d.before a0 Z = true) (a : Addr) (x0 : Int64) (h0 : Heap) (n0 : Nat) (hn : n0 ≤ h0.size) (E_a : Exa Z h0 a "com/example/multi_reactor/multireactor/loop/StandAsides") (F_a_pauseNanos : Fld Z h0 a "com/example/multi_reactor/multireactor/loop/StandAsides" "pauseNanos" "J" (.long (0 : Int64))) (F_a_pausedUntil : Fld Z h0 a "com/example/multi_reactor/multireactor/loop/StandAsides" "pausedUntil" "J" (.long (0 : Int64))) (F_a_watched : Fld Z h0 a "com/example/multi_reactor/multireactor/loop/StandAsides" "watched" "I" (.int (0 : Int32))) (g_a : n0 ≤ a) :
    Con l (⟨"com/example/multi_reactor/multireactor/loop/StandAsides", "<init>", "(J)V"⟩ : MethodName) prog_58_method_1_code 3 none [] rm1 rm1.cells rm1.slots Z #[(.ref a), (.long x0)] h0 n0 (fun v h => v = none ∧ Keep h0 h [a] ∧ Exa Z h a "com/example/multi_reactor/multireactor/loop/StandAsides" ∧ Fld Z h a "com/example/multi_reactor/multireactor/loop/StandAsides" "pauseNanos" "J" (.long (1000000 : Int64)) ∧ Fld Z h a "com/example/multi_reactor/multireactor/loop/StandAsides" "pausedUntil" "J" (.long x0) ∧ Fld Z h a "com/example/multi_reactor/multireactor/loop/StandAsides" "watched" "I" (.int (0 : Int32))) := by
  refine Con.of (plainFor_of_name pn0) hn (fun m => ef1 m a x0) ?_
  intro p e s m below meth c s₀ hnm G0
  have K0 : Keep h0 h0 [a] := Keep.refl _ _
  have G1 := G0.aloadN (v := (.ref a)) (pc' := 1) d1_0 rfl
  have G2 := G1.initO (pc' := 4) (hw _ (List.mem_of_getElem? (i := 6) rfl)) (hw _ (List.mem_of_getElem? (i := 7) rfl)) (hw _ (List.mem_of_getElem? (i := 8) rfl)) d1_1 (W := 0) rfl rfl (by decide) (by decide)
  have G3 := G2.aloadN (v := (.ref a)) (pc' := 5) d1_4 rfl
  have G4 := G3.ldc2 (v := (1000000 : Int64)) (pc' := 8) (hw _ (List.mem_of_getElem? (i := 9) rfl)) d1_5
  obtain ⟨h5, W5, G5⟩ := G4.putF (v := (.long (1000000 : Int64))) (pc' := 11) (host := "") (Or.inl (hw _ (List.mem_of_getElem? (i := 10) rfl))) Via.refl F_a_pauseNanos E_a g_a (Or.inl (hw _ (List.mem_of_getElem? (i := 11) rfl))) (hw _ (List.mem_of_getElem? (i := 1) rfl)) (ty := .long) (by decide) rfl rfl d1_8
  have E6 : Exa Z h5 a "com/example/multi_reactor/multireactor/loop/StandAsides" := E_a.wr W5
  have F7 : Fld Z h5 a "com/example/multi_reactor/multireactor/loop/StandAsides" "pauseNanos" "J" (.long (1000000 : Int64)) := F_a_pauseNanos.same W5
  have F8 : Fld Z h5 a "com/example/multi_reactor/multireactor/loop/StandAsides" "pausedUntil" "J" (.long (0 : Int64)) := F_a_pausedUntil.other W5 (Or.inr (slot_ne (Or.inl (hw _ (List.mem_of_getElem? (i := 13) rfl))) (Or.inl (hw _ (List.mem_of_getElem? (i := 11) rfl))) (by decide) (t := .long) (t' := .long) (by decide) (by decide)))
  have F9 : Fld Z h5 a "com/example/multi_reactor/multireactor/loop/StandAsides" "watched" "I" (.int (0 : Int32)) := F_a_watched.other W5 (Or.inr (slot_ne (Or.inl (hw _ (List.mem_of_getElem? (i := 29) rfl))) (Or.inl (hw _ (List.mem_of_getElem? (i := 11) rfl))) (by decide) (t := .int) (t' := .long) (by decide) (by decide)))
  have K10 : Keep h0 h5 [a] := K0.wr W5 (Or.inl (List.mem_of_getElem? (i := 0) rfl))
  have G11 := G5.aloadN (v := (.ref a)) (pc' := 12) d1_11 rfl
  have G12 := G11.lloadN (v := x0) (pc' := 13) d1_12 rfl
  obtain ⟨h13, W13, G13⟩ := G12.putF (v := (.long x0)) (pc' := 16) (host := "") (Or.inl (hw _ (List.mem_of_getElem? (i := 12) rfl))) Via.refl F8 E6 g_a (Or.inl (hw _ (List.mem_of_getElem? (i := 13) rfl))) (hw _ (List.mem_of_getElem? (i := 1) rfl)) (ty := .long) (by decide) rfl rfl d1_13
  have E14 : Exa Z h13 a "com/example/multi_reactor/multireactor/loop/StandAsides" := E6.wr W13
  have F15 : Fld Z h13 a "com/example/multi_reactor/multireactor/loop/StandAsides" "pauseNanos" "J" (.long (1000000 : Int64)) := F7.other W13 (Or.inr (slot_ne (Or.inl (hw _ (List.mem_of_getElem? (i := 11) rfl))) (Or.inl (hw _ (List.mem_of_getElem? (i := 13) rfl))) (by decide) (t := .long) (t' := .long) (by decide) (by decide)))
  have F16 : Fld Z h13 a "com/example/multi_reactor/multireactor/loop/StandAsides" "pausedUntil" "J" (.long x0) := F8.same W13
  have F17 : Fld Z h13 a "com/example/multi_reactor/multireactor/loop/StandAsides" "watched" "I" (.int (0 : Int32)) := F9.other W13 (Or.inr (slot_ne (Or.inl (hw _ (List.mem_of_getElem? (i := 29) rfl))) (Or.inl (hw _ (List.mem_of_getElem? (i := 13) rfl))) (by decide) (t := .int) (t' := .long) (by decide) (by decide)))
  have K18 : Keep h0 h13 [a] := K10.wr W13 (Or.inl (List.mem_of_getElem? (i := 0) rfl))
  exact G13.retV d1_16 rfl ⟨rfl, K18, E14, F15, F16, F17⟩
theorem d4_0 : decode prog_58_method_3_code 0 = .ok (.lload_n 3, 1) := by decide +kernel
theorem d4_1 : decode prog_58_method_3_code 1 = .ok (.lload_n 1, 1) := by decide +kernel
theorem d4_2 : decode prog_58_method_3_code 2 = .ok (.lsub, 1) := by decide +kernel
theorem d4_3 : decode prog_58_method_3_code 3 = .ok (.lstore 6, 2) := by decide +kernel
theorem d4_5 : decode prog_58_method_3_code 5 = .ok (.lload 6, 2) := by decide +kernel
theorem d4_7 : decode prog_58_method_3_code 7 = .ok (.ldc2_w 18, 3) := by decide +kernel
theorem d4_10 : decode prog_58_method_3_code 10 = .ok (.lcmp, 1) := by decide +kernel
theorem d4_11 : decode prog_58_method_3_code 11 = .ok (.ifCond .lt 16, 3) := by decide +kernel
theorem d4_14 : decode prog_58_method_3_code 14 = .ok (.lload 6, 2) := by decide +kernel
theorem d4_16 : decode prog_58_method_3_code 16 = .ok (.iload 5, 2) := by decide +kernel
theorem d4_18 : decode prog_58_method_3_code 18 = .ok (.i2l, 1) := by decide +kernel
theorem d4_19 : decode prog_58_method_3_code 19 = .ok (.ldc2_w 20, 3) := by decide +kernel
theorem d4_22 : decode prog_58_method_3_code 22 = .ok (.lmul, 1) := by decide +kernel
theorem d4_23 : decode prog_58_method_3_code 23 = .ok (.lcmp, 1) := by decide +kernel
theorem d4_24 : decode prog_58_method_3_code 24 = .ok (.ifCond .gt 21, 3) := by decide +kernel
theorem d4_27 : decode prog_58_method_3_code 27 = .ok (.aload_n 0, 1) := by decide +kernel
theorem d4_28 : decode prog_58_method_3_code 28 = .ok (.getfield 22, 3) := by decide +kernel
theorem d4_31 : decode prog_58_method_3_code 31 = .ok (.ifCond .le 13, 3) := by decide +kernel
theorem d4_34 : decode prog_58_method_3_code 34 = .ok (.aload_n 0, 1) := by decide +kernel
theorem d4_35 : decode prog_58_method_3_code 35 = .ok (.dup, 1) := by decide +kernel
theorem d4_36 : decode prog_58_method_3_code 36 = .ok (.getfield 22, 3) := by decide +kernel
theorem d4_39 : decode prog_58_method_3_code 39 = .ok (.iconst 1, 1) := by decide +kernel
theorem d4_40 : decode prog_58_method_3_code 40 = .ok (.isub, 1) := by decide +kernel
theorem d4_41 : decode prog_58_method_3_code 41 = .ok (.putfield 22, 3) := by decide +kernel
theorem d4_44 : decode prog_58_method_3_code 44 = .ok (.return_, 1) := by decide +kernel
theorem d4_45 : decode prog_58_method_3_code 45 = .ok (.aload_n 0, 1) := by decide +kernel
theorem d4_46 : decode prog_58_method_3_code 46 = .ok (.aload_n 0, 1) := by decide +kernel
theorem d4_47 : decode prog_58_method_3_code 47 = .ok (.getfield 22, 3) := by decide +kernel
theorem d4_50 : decode prog_58_method_3_code 50 = .ok (.ifCond .le 20, 3) := by decide +kernel
theorem d4_53 : decode prog_58_method_3_code 53 = .ok (.ldc2_w 26, 3) := by decide +kernel
theorem d4_56 : decode prog_58_method_3_code 56 = .ok (.aload_n 0, 1) := by decide +kernel
theorem d4_57 : decode prog_58_method_3_code 57 = .ok (.getfield 11, 3) := by decide +kernel
theorem d4_60 : decode prog_58_method_3_code 60 = .ok (.lmul, 1) := by decide +kernel
theorem d4_61 : decode prog_58_method_3_code 61 = .ok (.ldc2_w 28, 3) := by decide +kernel
theorem d4_64 : decode prog_58_method_3_code 64 = .ok (.invokestatic 30, 3) := by decide +kernel
theorem d4_67 : decode prog_58_method_3_code 67 = .ok (.goto 6, 3) := by decide +kernel
theorem d4_70 : decode prog_58_method_3_code 70 = .ok (.ldc2_w 9, 3) := by decide +kernel
theorem d4_73 : decode prog_58_method_3_code 73 = .ok (.putfield 11, 3) := by decide +kernel
theorem d4_76 : decode prog_58_method_3_code 76 = .ok (.aload_n 0, 1) := by decide +kernel
theorem d4_77 : decode prog_58_method_3_code 77 = .ok (.lload_n 3, 1) := by decide +kernel
theorem d4_78 : decode prog_58_method_3_code 78 = .ok (.aload_n 0, 1) := by decide +kernel
theorem d4_79 : decode prog_58_method_3_code 79 = .ok (.getfield 11, 3) := by decide +kernel
theorem d4_82 : decode prog_58_method_3_code 82 = .ok (.ladd, 1) := by decide +kernel
theorem d4_83 : decode prog_58_method_3_code 83 = .ok (.putfield 15, 3) := by decide +kernel
theorem d4_86 : decode prog_58_method_3_code 86 = .ok (.aload_n 0, 1) := by decide +kernel
theorem d4_87 : decode prog_58_method_3_code 87 = .ok (.bipush 8, 2) := by decide +kernel
theorem d4_89 : decode prog_58_method_3_code 89 = .ok (.putfield 22, 3) := by decide +kernel
theorem d4_92 : decode prog_58_method_3_code 92 = .ok (.return_, 1) := by decide +kernel
theorem ef4 (m : MethodId) (a : Addr) (x0 : Int64) (x1 : Int64) (x2 : Int32) : entryFrame m #[(.ref a), (.long x0), (.long x1), (.int x2)] 8 = mkF m 0 #[.val (.ref a), .val (.long x0), .second, .val (.long x1), .second, .val (.int x2), .unset, .unset] [] := by first | (simp [entryFrame, mkF, argsToLocals, Value.category]; done) | rfl
def rm4 : Room := { frames := 0, cells := 0, slots := 0, locals := 0 }
set_option maxRecDepth 65536 in
set_option maxHeartbeats 40000000 in
theorem cn4 (l : Launch) (Z : State) (a0 : Array Value) (hw : ∀ d ∈ tables_1, d.before a0 Z = true) (a : Addr) (x0 : Int64) (x1 : Int64) (x2 : Int32) (w0 : Int64) (w1 : Int64) (h0 : Heap) (n0 : Nat) (hn : n0 ≤ h0.size) (E_a : Exa Z h0 a "com/example/multi_reactor/multireactor/loop/StandAsides") (F_a_pauseNanos : Fld Z h0 a "com/example/multi_reactor/multireactor/loop/StandAsides" "pauseNanos" "J" (.long w0)) (F_a_pausedUntil : Fld Z h0 a "com/example/multi_reactor/multireactor/loop/StandAsides" "pausedUntil" "J" (.long w1)) (F_a_watched : Fld Z h0 a "com/example/multi_reactor/multireactor/loop/StandAsides" "watched" "I" (.int (0 : Int32))) (g_a : n0 ≤ a) (q1 : ¬ (x1 - x0) < (500000 : Int64)) (q2 : (x2.toInt64 * (250000 : Int64)) < (x1 - x0)) :
    Con l (⟨"com/example/multi_reactor/multireactor/loop/StandAsides", "took", "(JJI)V"⟩ : MethodName) prog_58_method_3_code 8 none [] rm4 rm4.cells rm4.slots Z #[(.ref a), (.long x0), (.long x1), (.int x2)] h0 n0 (fun v h => v = none ∧ Keep h0 h [a] ∧ Exa Z h a "com/example/multi_reactor/multireactor/loop/StandAsides" ∧ Fld Z h a "com/example/multi_reactor/multireactor/loop/StandAsides" "pauseNanos" "J" (.long (1000000 : Int64)) ∧ Fld Z h a "com/example/multi_reactor/multireactor/loop/StandAsides" "pausedUntil" "J" (.long (x1 + (1000000 : Int64))) ∧ Fld Z h a "com/example/multi_reactor/multireactor/loop/StandAsides" "watched" "I" (.int (8 : Int32))) := by
  refine Con.of (plainFor_of_name pn0) hn (fun m => ef4 m a x0 x1 x2) ?_
  intro p e s m below meth c s₀ hnm G0
  have K0 : Keep h0 h0 [a] := Keep.refl _ _
  have G1 := G0.lloadN (v := x1) (pc' := 1) d4_0 rfl
  have G2 := G1.lloadN (v := x0) (pc' := 2) d4_1 rfl
  have G3 := G2.lsub (pc' := 3) d4_2
  have G4 := G3.lstore (L' := #[.val (.ref a), .val (.long x0), .second, .val (.long x1), .second, .val (.int x2), .val (.long (x1 - x0)), .second]) (pc' := 5) d4_3 rfl
  have G5 := G4.lload (v := (x1 - x0)) (pc' := 7) d4_5 rfl
  have G6 := G5.ldc2 (v := (500000 : Int64)) (pc' := 10) (hw _ (List.mem_of_getElem? (i := 26) rfl)) d4_7
  have G7 := G6.lcmp (pc' := 11) d4_10
  have G8 := G7.ifN d4_11 14 (Jvm.Free.XT.ll_lt_f q1)
  have G9 := G8.lload (v := (x1 - x0)) (pc' := 16) d4_14 rfl
  have G10 := G9.iload (v := x2) (pc' := 18) d4_16 rfl
  have G11 := G10.i2l (pc' := 19) d4_18
  have G12 := G11.ldc2 (v := (250000 : Int64)) (pc' := 22) (hw _ (List.mem_of_getElem? (i := 27) rfl)) d4_19
  have G13 := G12.lmul (pc' := 23) d4_22
  have G14 := G13.lcmp (pc' := 24) d4_23
  have G15 := G14.ifY d4_24 45 (Jvm.Free.XT.ll_gt_t q2)
  have G16 := G15.aloadN (v := (.ref a)) (pc' := 46) d4_45 rfl
  have G17 := G16.aloadN (v := (.ref a)) (pc' := 47) d4_46 rfl
  have G18 := G17.getF (pc' := 50) (v := (.int (0 : Int32))) (host := "") (Or.inl (hw _ (List.mem_of_getElem? (i := 28) rfl))) Via.refl F_a_watched d4_47
  have G19 := G18.ifY d4_50 70 (Jvm.Free.XT.i0_le_t (by decide))
  have G20 := G19.ldc2 (v := (1000000 : Int64)) (pc' := 73) (hw _ (List.mem_of_getElem? (i := 9) rfl)) d4_70
  obtain ⟨h21, W21, G21⟩ := G20.putF (v := (.long (1000000 : Int64))) (pc' := 76) (host := "") (Or.inl (hw _ (List.mem_of_getElem? (i := 10) rfl))) Via.refl F_a_pauseNanos E_a g_a (Or.inl (hw _ (List.mem_of_getElem? (i := 11) rfl))) (hw _ (List.mem_of_getElem? (i := 1) rfl)) (ty := .long) (by decide) rfl rfl d4_73
  have E22 : Exa Z h21 a "com/example/multi_reactor/multireactor/loop/StandAsides" := E_a.wr W21
  have F23 : Fld Z h21 a "com/example/multi_reactor/multireactor/loop/StandAsides" "pauseNanos" "J" (.long (1000000 : Int64)) := F_a_pauseNanos.same W21
  have F24 : Fld Z h21 a "com/example/multi_reactor/multireactor/loop/StandAsides" "pausedUntil" "J" (.long w1) := F_a_pausedUntil.other W21 (Or.inr (slot_ne (Or.inl (hw _ (List.mem_of_getElem? (i := 13) rfl))) (Or.inl (hw _ (List.mem_of_getElem? (i := 11) rfl))) (by decide) (t := .long) (t' := .long) (by decide) (by decide)))
  have F25 : Fld Z h21 a "com/example/multi_reactor/multireactor/loop/StandAsides" "watched" "I" (.int (0 : Int32)) := F_a_watched.other W21 (Or.inr (slot_ne (Or.inl (hw _ (List.mem_of_getElem? (i := 29) rfl))) (Or.inl (hw _ (List.mem_of_getElem? (i := 11) rfl))) (by decide) (t := .int) (t' := .long) (by decide) (by decide)))
  have K26 : Keep h0 h21 [a] := K0.wr W21 (Or.inl (List.mem_of_getElem? (i := 0) rfl))
  have G27 := G21.aloadN (v := (.ref a)) (pc' := 77) d4_76 rfl
  have G28 := G27.lloadN (v := x1) (pc' := 78) d4_77 rfl
  have G29 := G28.aloadN (v := (.ref a)) (pc' := 79) d4_78 rfl
  have G30 := G29.getF (pc' := 82) (v := (.long (1000000 : Int64))) (host := "") (Or.inl (hw _ (List.mem_of_getElem? (i := 10) rfl))) Via.refl F23 d4_79
  have G31 := G30.ladd (pc' := 83) d4_82
  obtain ⟨h32, W32, G32⟩ := G31.putF (v := (.long (x1 + (1000000 : Int64)))) (pc' := 86) (host := "") (Or.inl (hw _ (List.mem_of_getElem? (i := 12) rfl))) Via.refl F24 E22 g_a (Or.inl (hw _ (List.mem_of_getElem? (i := 13) rfl))) (hw _ (List.mem_of_getElem? (i := 1) rfl)) (ty := .long) (by decide) rfl rfl d4_83
  have E33 : Exa Z h32 a "com/example/multi_reactor/multireactor/loop/StandAsides" := E22.wr W32
  have F34 : Fld Z h32 a "com/example/multi_reactor/multireactor/loop/StandAsides" "pauseNanos" "J" (.long (1000000 : Int64)) := F23.other W32 (Or.inr (slot_ne (Or.inl (hw _ (List.mem_of_getElem? (i := 11) rfl))) (Or.inl (hw _ (List.mem_of_getElem? (i := 13) rfl))) (by decide) (t := .long) (t' := .long) (by decide) (by decide)))
  have F35 : Fld Z h32 a "com/example/multi_reactor/multireactor/loop/StandAsides" "pausedUntil" "J" (.long (x1 + (1000000 : Int64))) := F24.same W32
  have F36 : Fld Z h32 a "com/example/multi_reactor/multireactor/loop/StandAsides" "watched" "I" (.int (0 : Int32)) := F25.other W32 (Or.inr (slot_ne (Or.inl (hw _ (List.mem_of_getElem? (i := 29) rfl))) (Or.inl (hw _ (List.mem_of_getElem? (i := 13) rfl))) (by decide) (t := .int) (t' := .long) (by decide) (by decide)))
  have K37 : Keep h0 h32 [a] := K26.wr W32 (Or.inl (List.mem_of_getElem? (i := 0) rfl))
  have G38 := G32.aloadN (v := (.ref a)) (pc' := 87) d4_86 rfl
  have G39 := G38.bipush (v := (8 : Int32)) (pc' := 89) d4_87
  obtain ⟨h40, W40, G40⟩ := G39.putF (v := (.int (8 : Int32))) (pc' := 92) (host := "") (Or.inl (hw _ (List.mem_of_getElem? (i := 28) rfl))) Via.refl F36 E33 g_a (Or.inl (hw _ (List.mem_of_getElem? (i := 29) rfl))) (hw _ (List.mem_of_getElem? (i := 1) rfl)) (ty := .int) (by decide) rfl rfl d4_89
  have E41 : Exa Z h40 a "com/example/multi_reactor/multireactor/loop/StandAsides" := E33.wr W40
  have F42 : Fld Z h40 a "com/example/multi_reactor/multireactor/loop/StandAsides" "pauseNanos" "J" (.long (1000000 : Int64)) := F34.other W40 (Or.inr (slot_ne (Or.inl (hw _ (List.mem_of_getElem? (i := 11) rfl))) (Or.inl (hw _ (List.mem_of_getElem? (i := 29) rfl))) (by decide) (t := .long) (t' := .int) (by decide) (by decide)))
  have F43 : Fld Z h40 a "com/example/multi_reactor/multireactor/loop/StandAsides" "pausedUntil" "J" (.long (x1 + (1000000 : Int64))) := F35.other W40 (Or.inr (slot_ne (Or.inl (hw _ (List.mem_of_getElem? (i := 13) rfl))) (Or.inl (hw _ (List.mem_of_getElem? (i := 29) rfl))) (by decide) (t := .long) (t' := .int) (by decide) (by decide)))
  have F44 : Fld Z h40 a "com/example/multi_reactor/multireactor/loop/StandAsides" "watched" "I" (.int (8 : Int32)) := F36.same W40
  have K45 : Keep h0 h40 [a] := K37.wr W40 (Or.inl (List.mem_of_getElem? (i := 0) rfl))
  exact G40.retV d4_92 rfl ⟨rfl, K45, E41, F42, F43, F44⟩
def fAl (x w : Int64) : Int32 := if (x - w) < (0 : Int64) then 0 else 1
theorem d3_0 : decode prog_58_method_2_code 0 = .ok (.lload_n 1, 1) := by decide +kernel
theorem d3_1 : decode prog_58_method_2_code 1 = .ok (.aload_n 0, 1) := by decide +kernel
theorem d3_2 : decode prog_58_method_2_code 2 = .ok (.getfield 15, 3) := by decide +kernel
theorem d3_5 : decode prog_58_method_2_code 5 = .ok (.lsub, 1) := by decide +kernel
theorem d3_6 : decode prog_58_method_2_code 6 = .ok (.lconst 0, 1) := by decide +kernel
theorem d3_7 : decode prog_58_method_2_code 7 = .ok (.lcmp, 1) := by decide +kernel
theorem d3_8 : decode prog_58_method_2_code 8 = .ok (.ifCond .lt 7, 3) := by decide +kernel
theorem d3_11 : decode prog_58_method_2_code 11 = .ok (.iconst 1, 1) := by decide +kernel
theorem d3_12 : decode prog_58_method_2_code 12 = .ok (.goto 4, 3) := by decide +kernel
theorem d3_15 : decode prog_58_method_2_code 15 = .ok (.iconst 0, 1) := by decide +kernel
theorem d3_16 : decode prog_58_method_2_code 16 = .ok (.ireturn, 1) := by decide +kernel
theorem ef3 (m : MethodId) (a : Addr) (x0 : Int64) : entryFrame m #[(.ref a), (.long x0)] 3 = mkF m 0 #[.val (.ref a), .val (.long x0), .second] [] := by first | (simp [entryFrame, mkF, argsToLocals, Value.category]; done) | rfl
def rm3 : Room := { frames := 0, cells := 0, slots := 0, locals := 0 }
set_option maxRecDepth 65536 in
set_option maxHeartbeats 40000000 in
theorem cn3 (l : Launch) (Z : State) (a0 : Array Value) (hw : ∀ d ∈ tables_1, d.before a0 Z = true) (a : Addr) (x0 w1 : Int64) (h0 : Heap) (n0 : Nat) (hn : n0 ≤ h0.size) (F0 : Fld Z h0 a "com/example/multi_reactor/multireactor/loop/StandAsides" "pausedUntil" "J" (.long w1)) :
    Con l (⟨"com/example/multi_reactor/multireactor/loop/StandAsides", "allowedAt", "(J)Z"⟩ : MethodName) prog_58_method_2_code 3 (some .boolean) [] rm3 rm3.cells rm3.slots Z #[.ref a, .long x0] h0 n0 (fun v h => v = some (.int (fAl x0 w1)) ∧ h = h0) := by
  refine Con.of (plainFor_of_name pn0) hn (fun m => ef3 m a x0) ?_
  intro p e s m below meth c s₀ hnm G0
  have G1 := G0.lloadN (v := x0) (pc' := 1) d3_0 rfl
  have G2 := G1.aloadN (v := (.ref a)) (pc' := 2) d3_1 rfl
  have G3 := G2.getF (pc' := 5) (v := (.long w1)) (host := "") (Or.inl (hw _ (List.mem_of_getElem? (i := 12) rfl))) Via.refl F0 d3_2
  have G4 := G3.lsub (pc' := 6) d3_5
  have G5 := G4.lconst (v := (0 : Int64)) (pc' := 7) d3_6
  have G6 := G5.lcmp (pc' := 8) d3_7
  by_cases c8_6 : (x0 - w1) < (0 : Int64)
  · have G7 := G6.ifY d3_8 15 (Jvm.Free.XT.ll_lt_t c8_6)
    have G8 := G7.iconst (v := (0 : Int32)) (pc' := 16) d3_15
    exact G8.retZ d3_16 rfl (by decide) ⟨congrArg (fun z => some (Value.int z)) (by rw [fAl, if_pos c8_6]), rfl⟩
  · have G9 := G6.ifN d3_8 11 (Jvm.Free.XT.ll_lt_f c8_6)
    have G10 := G9.iconst (v := (1 : Int32)) (pc' := 12) d3_11
    have G11 := G10.goto d3_12 16
    exact G11.retZ d3_16 rfl (by decide) ⟨congrArg (fun z => some (Value.int z)) (by rw [fAl, if_neg c8_6]), rfl⟩
theorem own_m (y : Int32) : 0 ≤ (y &&& (1048575 : Int32)).toInt ∧ (y &&& (1048575 : Int32)).toInt < 1048576 := by
  rw [c_mask y 1048575 20 (by decide) (by decide)]
  omega
theorem own_d (e : Int64) (y : Int32) : (e - (e - (500000 : Int64) - (y &&& (1048575 : Int32)).toInt64)).toInt = 500000 + (y &&& (1048575 : Int32)).toInt := by
  have m := own_m y
  have e1 := c_i2l (y &&& (1048575 : Int32))
  have e2 := c_lsub e (500000 : Int64)
  have e3 := c_lsub (e - (500000 : Int64)) (y &&& (1048575 : Int32)).toInt64
  have e4 := c_lsub e (e - (500000 : Int64) - (y &&& (1048575 : Int32)).toInt64)
  have r := rng64 (e - (e - (500000 : Int64) - (y &&& (1048575 : Int32)).toInt64))
  have k : (500000 : Int64).toInt = 500000 := rfl
  rw [e1] at e3
  rw [k] at e2
  omega
theorem own_q1 (e : Int64) (y : Int32) : ¬ (e - (e - (500000 : Int64) - (y &&& (1048575 : Int32)).toInt64)) < (500000 : Int64) := by
  have m := own_m y
  have k : (500000 : Int64).toInt = 500000 := rfl
  rw [Int64.lt_iff_toInt_lt, own_d, k]
  omega
theorem own_q2 (e : Int64) (y : Int32) : ((0 : Int32).toInt64 * (250000 : Int64)) < (e - (e - (500000 : Int64) - (y &&& (1048575 : Int32)).toInt64)) := by
  have m := own_m y
  have k : ((0 : Int32).toInt64 * (250000 : Int64)).toInt = 0 := by decide
  rw [Int64.lt_iff_toInt_lt, own_d, k]
  omega
theorem own_k (b k : Int64) : b + k - b = k := by
  apply Int64.toInt_inj.mp
  have e1 := c_ladd b k
  have e2 := c_lsub (b + k) b
  have r1 := rng64 (b + k - b)
  have r2 := rng64 k
  omega
theorem own_1 (b k : Int64) (h : ¬ k < 0) : fAl (b + k) b = 1 := by rw [fAl, own_k, if_neg h]
theorem own_0 (b k : Int64) (h : k < 0) : fAl (b + k) b = 0 := by rw [fAl, own_k, if_pos h]
theorem pn1 : plainName "com/example/multi_reactor/multireactor/loop/StandAsidesAllowedAtPinLaw" = true := by first | (simp [plainName, overriddenIn]; done) | decide +kernel
theorem ef0 (m : MethodId) (x0 : Int64) (x1 : Int64) (x2 : Int64) (x3 : Int32) (x4 : Int32) : entryFrame m #[(.long x0), (.long x1), (.long x2), (.int x3), (.int x4)] maxLocals = mkF m 0 #[.val (.long x0), .second, .val (.long x1), .second, .val (.long x2), .second, .val (.int x3), .val (.int x4), .unset, .unset, .unset, .unset, .unset, .unset] [] := by first | (simp [entryFrame, mkF, argsToLocals, Value.category, maxLocals]; done) | rfl
theorem pd0 : parseMethodDescriptor "(J)V" = some ⟨[.long], none⟩ := by decide +kernel
theorem pd1 : parseMethodDescriptor "(J)Z" = some ⟨[.long], some .boolean⟩ := by decide +kernel
theorem pd2 : parseMethodDescriptor "(JJI)V" = some ⟨[.long, .long, .int], none⟩ := by decide +kernel
set_option maxRecDepth 65536 in
set_option maxHeartbeats 40000000 in
theorem lawc (l : Launch) (Z : State) (a0 : Array Value) (hw : ∀ d ∈ tables_1, d.before a0 Z = true) (x0 : Int64) (x1 : Int64) (x2 : Int64) (x3 : Int32) (x4 : Int32) (h0 : Heap) (n0 : Nat) (hn : n0 ≤ h0.size) :
    Con l x code maxLocals ret tables_1 room_1 16 128 Z #[(.long x0), (.long x1), (.long x2), (.int x3), (.int x4)] h0 n0 (fun v _ => v = some (.int 1)) := by
  refine Con.of (plainFor_of_name pn1) hn (fun m => ef0 m x0 x1 x2 x3 x4) ?_
  intro p e s m below meth c s₀ hnm G0
  obtain ⟨a1, h1, ea1, g_a1, X1, E1, D1, G1⟩ := G0.newO (pc' := 3) (k' := 1) (j' := 3) (hw _ (List.mem_of_getElem? (i := 0) rfl)) (hw _ (List.mem_of_getElem? (i := 1) rfl)) (hw _ (List.mem_of_getElem? (i := 2) rfl)) at_0 rfl rfl rfl (by decide) (by decide)
  have F2 : Fld Z h1 a1 "com/example/multi_reactor/multireactor/loop/StandAsides" "pauseNanos" "J" (.long (0 : Int64)) := D1 (Or.inl (hw _ (List.mem_of_getElem? (i := 11) rfl))) (ty := .long) (by decide)
  have F3 : Fld Z h1 a1 "com/example/multi_reactor/multireactor/loop/StandAsides" "pausedUntil" "J" (.long (0 : Int64)) := D1 (Or.inl (hw _ (List.mem_of_getElem? (i := 13) rfl))) (ty := .long) (by decide)
  have F4 : Fld Z h1 a1 "com/example/multi_reactor/multireactor/loop/StandAsides" "watched" "I" (.int (0 : Int32)) := D1 (Or.inl (hw _ (List.mem_of_getElem? (i := 29) rfl))) (ty := .int) (by decide)
  have G5 := G1.dup (pc' := 4) at_3
  have G6 := G5.lloadN (v := x0) (pc' := 5) at_4 rfl
  obtain ⟨v7, h7, ⟨ev7, K7, F7_0, F7_1, F7_2, F7_3⟩, g7⟩ := G6.callI (argsL := [(.long x0)]) (rest := [(.ref a1)]) (pc' := 8) (k' := 1) (j' := 3) (cn1 l Z a0 hw a1 x0 h1 n0 G6.size E1 F2 F3 F4 g_a1) rfl rfl (hw _ (List.mem_of_getElem? (i := 3) rfl)) (hw _ (List.mem_of_getElem? (i := 4) rfl)) (hw _ (List.mem_of_getElem? (i := 2) rfl)) (hw _ (List.mem_of_getElem? (i := 5) rfl)) (by decide) at_5 pd0 rfl (W := 1) rfl rfl (by decide) (by decide) (by decide) (by decide) rfl rfl rfl
  subst ev7
  have G7 := g7 [(.ref a1)] rfl
  have E8 : Exa Z h7 a1 "com/example/multi_reactor/multireactor/loop/StandAsides" := E1.keep K7
  have G9 := G7.astore (L' := #[.val (.long x0), .second, .val (.long x1), .second, .val (.long x2), .second, .val (.int x3), .val (.int x4), .val (.ref a1), .unset, .unset, .unset, .unset, .unset]) (pc' := 10) at_8 rfl
  have G10 := G9.lloadN (v := x0) (pc' := 11) at_10 rfl
  have G11 := G10.lstore (L' := #[.val (.long x0), .second, .val (.long x1), .second, .val (.long x2), .second, .val (.int x3), .val (.int x4), .val (.ref a1), .val (.long x0), .second, .unset, .unset, .unset]) (pc' := 13) at_11 rfl
  have G12 := G11.iload (v := x3) (pc' := 15) at_13 rfl
  have G13 := G12.iconst (v := (1 : Int32)) (pc' := 16) at_15
  have G14 := G13.iand (pc' := 17) at_16
  by_cases c17_14 : (x3 &&& (1 : Int32)) = (0 : Int32)
  · have G15 := G14.ifY at_17 53 (Jvm.Free.XT.i0_eq_t c17_14)
    have G16 := G15.lload (v := x0) (pc' := 55) at_53 rfl
    have G17 := G16.lloadN (v := x1) (pc' := 56) at_55 rfl
    have G18 := G17.ladd (pc' := 57) at_56
    have G19 := G18.lstore (L' := #[.val (.long x0), .second, .val (.long x1), .second, .val (.long x2), .second, .val (.int x3), .val (.int x4), .val (.ref a1), .val (.long x0), .second, .val (.long (x0 + x1)), .second, .unset]) (pc' := 59) at_57 rfl
    have G20 := G19.lloadN (v := x1) (pc' := 60) at_59 rfl
    have G21 := G20.lconst (v := (0 : Int64)) (pc' := 61) at_60
    have G22 := G21.lcmp (pc' := 62) at_61
    by_cases c62_22 : x1 < (0 : Int64)
    · have G23 := G22.ifY at_62 69 (Jvm.Free.XT.ll_lt_t c62_22)
      have G24 := G23.iconst (v := (0 : Int32)) (pc' := 70) at_69
      have G25 := G24.istore (L' := #[.val (.long x0), .second, .val (.long x1), .second, .val (.long x2), .second, .val (.int x3), .val (.int x4), .val (.ref a1), .val (.long x0), .second, .val (.long (x0 + x1)), .second, .val (.int (0 : Int32))]) (pc' := 72) at_70 rfl
      have G26 := G25.aload (v := (.ref a1)) (pc' := 74) at_72 rfl
      have G27 := G26.lload (v := (x0 + x1)) (pc' := 76) at_74 rfl
      obtain ⟨v28, h28, ⟨ev28, eh28⟩, g28⟩ := G27.callV (argsL := [(.long (x0 + x1))]) (rest := []) (pc' := 79) (k' := 1) (j' := 3) (cn3 l Z a0 hw a1 (x0 + x1) x0 h7 n0 G27.size F7_2) rfl F7_0 (hw _ (List.mem_of_getElem? (i := 14) rfl)) (hw _ (List.mem_of_getElem? (i := 15) rfl)) (hw _ (List.mem_of_getElem? (i := 17) rfl)) (hw _ (List.mem_of_getElem? (i := 16) rfl)) (hw _ (List.mem_of_getElem? (i := 2) rfl)) (hw _ (List.mem_of_getElem? (i := 18) rfl)) (by decide) at_76 pd1 rfl (W := 0) rfl rfl (by decide) (by decide) (by decide) (by decide) rfl rfl rfl
      subst ev28
      rw [eh28] at g28
      have G28 := g28 [(.int (fAl (x0 + x1) x0))] rfl
      have G29 := G28.iload (v := (0 : Int32)) (pc' := 81) at_79 rfl
      have G30 := G29.icmpN at_81 84 (Jvm.Free.XT.ii_ne_f (own_0 _ _ c62_22))
      have G31 := G30.iconst (v := (1 : Int32)) (pc' := 85) at_84
      have G32 := G31.goto at_85 89
      exact G32.retZ at_89 rfl (Or.inr rfl) rfl
    · have G33 := G22.ifN at_62 65 (Jvm.Free.XT.ll_lt_f c62_22)
      have G34 := G33.iconst (v := (1 : Int32)) (pc' := 66) at_65
      have G35 := G34.goto at_66 70
      have G36 := G35.istore (L' := #[.val (.long x0), .second, .val (.long x1), .second, .val (.long x2), .second, .val (.int x3), .val (.int x4), .val (.ref a1), .val (.long x0), .second, .val (.long (x0 + x1)), .second, .val (.int (1 : Int32))]) (pc' := 72) at_70 rfl
      have G37 := G36.aload (v := (.ref a1)) (pc' := 74) at_72 rfl
      have G38 := G37.lload (v := (x0 + x1)) (pc' := 76) at_74 rfl
      obtain ⟨v39, h39, ⟨ev39, eh39⟩, g39⟩ := G38.callV (argsL := [(.long (x0 + x1))]) (rest := []) (pc' := 79) (k' := 1) (j' := 3) (cn3 l Z a0 hw a1 (x0 + x1) x0 h7 n0 G38.size F7_2) rfl F7_0 (hw _ (List.mem_of_getElem? (i := 14) rfl)) (hw _ (List.mem_of_getElem? (i := 15) rfl)) (hw _ (List.mem_of_getElem? (i := 17) rfl)) (hw _ (List.mem_of_getElem? (i := 16) rfl)) (hw _ (List.mem_of_getElem? (i := 2) rfl)) (hw _ (List.mem_of_getElem? (i := 18) rfl)) (by decide) at_76 pd1 rfl (W := 0) rfl rfl (by decide) (by decide) (by decide) (by decide) rfl rfl rfl
      subst ev39
      rw [eh39] at g39
      have G39 := g39 [(.int (fAl (x0 + x1) x0))] rfl
      have G40 := G39.iload (v := (1 : Int32)) (pc' := 81) at_79 rfl
      have G41 := G40.icmpN at_81 84 (Jvm.Free.XT.ii_ne_f (own_1 _ _ c62_22))
      have G42 := G41.iconst (v := (1 : Int32)) (pc' := 85) at_84
      have G43 := G42.goto at_85 89
      exact G43.retZ at_89 rfl (Or.inr rfl) rfl
  · have G44 := G14.ifN at_17 20 (Jvm.Free.XT.i0_eq_f c17_14)
    have G45 := G44.lload (v := x2) (pc' := 22) at_20 rfl
    have G46 := G45.ldc2 (v := (500000 : Int64)) (pc' := 25) (hw _ (List.mem_of_getElem? (i := 19) rfl)) at_22
    have G47 := G46.lsub (pc' := 26) at_25
    have G48 := G47.iload (v := x4) (pc' := 28) at_26 rfl
    have G49 := G48.ldc (v := (1048575 : Int32)) (pc' := 30) (hw _ (List.mem_of_getElem? (i := 20) rfl)) at_28
    have G50 := G49.iand (pc' := 31) at_30
    have G51 := G50.i2l (pc' := 32) at_31
    have G52 := G51.lsub (pc' := 33) at_32
    have G53 := G52.lstore (L' := #[.val (.long x0), .second, .val (.long x1), .second, .val (.long x2), .second, .val (.int x3), .val (.int x4), .val (.ref a1), .val (.long x0), .second, .val (.long ((x2 - (500000 : Int64)) - (x4 &&& (1048575 : Int32)).toInt64)), .second, .unset]) (pc' := 35) at_33 rfl
    have G54 := G53.aload (v := (.ref a1)) (pc' := 37) at_35 rfl
    have G55 := G54.lload (v := ((x2 - (500000 : Int64)) - (x4 &&& (1048575 : Int32)).toInt64)) (pc' := 39) at_37 rfl
    have G56 := G55.lload (v := x2) (pc' := 41) at_39 rfl
    have G57 := G56.iconst (v := (0 : Int32)) (pc' := 42) at_41
    obtain ⟨v58, h58, ⟨ev58, K58, F58_0, F58_1, F58_2, F58_3⟩, g58⟩ := G57.callV (argsL := [(.long ((x2 - (500000 : Int64)) - (x4 &&& (1048575 : Int32)).toInt64)), (.long x2), (.int (0 : Int32))]) (rest := []) (pc' := 45) (k' := 1) (j' := 3) (cn4 l Z a0 hw a1 ((x2 - (500000 : Int64)) - (x4 &&& (1048575 : Int32)).toInt64) x2 (0 : Int32) (1000000 : Int64) x0 h7 n0 G57.size F7_0 F7_1 F7_2 F7_3 g_a1 (own_q1 _ _) (own_q2 _ _)) rfl F7_0 (hw _ (List.mem_of_getElem? (i := 21) rfl)) (hw _ (List.mem_of_getElem? (i := 22) rfl)) (hw _ (List.mem_of_getElem? (i := 24) rfl)) (hw _ (List.mem_of_getElem? (i := 23) rfl)) (hw _ (List.mem_of_getElem? (i := 2) rfl)) (hw _ (List.mem_of_getElem? (i := 25) rfl)) (by decide) at_42 pd2 rfl (W := 0) rfl rfl (by decide) (by decide) (by decide) (by decide) rfl rfl rfl
    subst ev58
    have G58 := g58 [] rfl
    have E59 : Exa Z h58 a1 "com/example/multi_reactor/multireactor/loop/StandAsides" := F7_0.keep K58
    have G60 := G58.lload (v := x2) (pc' := 47) at_45 rfl
    have G61 := G60.ldc2 (v := (1000000 : Int64)) (pc' := 50) (hw _ (List.mem_of_getElem? (i := 30) rfl)) at_47
    have G62 := G61.ladd (pc' := 51) at_50
    have G63 := G62.lstore (L' := #[.val (.long x0), .second, .val (.long x1), .second, .val (.long x2), .second, .val (.int x3), .val (.int x4), .val (.ref a1), .val (.long (x2 + (1000000 : Int64))), .second, .val (.long ((x2 - (500000 : Int64)) - (x4 &&& (1048575 : Int32)).toInt64)), .second, .unset]) (pc' := 53) at_51 rfl
    have G64 := G63.lload (v := (x2 + (1000000 : Int64))) (pc' := 55) at_53 rfl
    have G65 := G64.lloadN (v := x1) (pc' := 56) at_55 rfl
    have G66 := G65.ladd (pc' := 57) at_56
    have G67 := G66.lstore (L' := #[.val (.long x0), .second, .val (.long x1), .second, .val (.long x2), .second, .val (.int x3), .val (.int x4), .val (.ref a1), .val (.long (x2 + (1000000 : Int64))), .second, .val (.long ((x2 + (1000000 : Int64)) + x1)), .second, .unset]) (pc' := 59) at_57 rfl
    have G68 := G67.lloadN (v := x1) (pc' := 60) at_59 rfl
    have G69 := G68.lconst (v := (0 : Int64)) (pc' := 61) at_60
    have G70 := G69.lcmp (pc' := 62) at_61
    by_cases c62_70 : x1 < (0 : Int64)
    · have G71 := G70.ifY at_62 69 (Jvm.Free.XT.ll_lt_t c62_70)
      have G72 := G71.iconst (v := (0 : Int32)) (pc' := 70) at_69
      have G73 := G72.istore (L' := #[.val (.long x0), .second, .val (.long x1), .second, .val (.long x2), .second, .val (.int x3), .val (.int x4), .val (.ref a1), .val (.long (x2 + (1000000 : Int64))), .second, .val (.long ((x2 + (1000000 : Int64)) + x1)), .second, .val (.int (0 : Int32))]) (pc' := 72) at_70 rfl
      have G74 := G73.aload (v := (.ref a1)) (pc' := 74) at_72 rfl
      have G75 := G74.lload (v := ((x2 + (1000000 : Int64)) + x1)) (pc' := 76) at_74 rfl
      obtain ⟨v76, h76, ⟨ev76, eh76⟩, g76⟩ := G75.callV (argsL := [(.long ((x2 + (1000000 : Int64)) + x1))]) (rest := []) (pc' := 79) (k' := 1) (j' := 3) (cn3 l Z a0 hw a1 ((x2 + (1000000 : Int64)) + x1) (x2 + (1000000 : Int64)) h58 n0 G75.size F58_2) rfl F58_0 (hw _ (List.mem_of_getElem? (i := 14) rfl)) (hw _ (List.mem_of_getElem? (i := 15) rfl)) (hw _ (List.mem_of_getElem? (i := 17) rfl)) (hw _ (List.mem_of_getElem? (i := 16) rfl)) (hw _ (List.mem_of_getElem? (i := 2) rfl)) (hw _ (List.mem_of_getElem? (i := 18) rfl)) (by decide) at_76 pd1 rfl (W := 0) rfl rfl (by decide) (by decide) (by decide) (by decide) rfl rfl rfl
      subst ev76
      rw [eh76] at g76
      have G76 := g76 [(.int (fAl ((x2 + (1000000 : Int64)) + x1) (x2 + (1000000 : Int64))))] rfl
      have G77 := G76.iload (v := (0 : Int32)) (pc' := 81) at_79 rfl
      have G78 := G77.icmpN at_81 84 (Jvm.Free.XT.ii_ne_f (own_0 _ _ c62_70))
      have G79 := G78.iconst (v := (1 : Int32)) (pc' := 85) at_84
      have G80 := G79.goto at_85 89
      exact G80.retZ at_89 rfl (Or.inr rfl) rfl
    · have G81 := G70.ifN at_62 65 (Jvm.Free.XT.ll_lt_f c62_70)
      have G82 := G81.iconst (v := (1 : Int32)) (pc' := 66) at_65
      have G83 := G82.goto at_66 70
      have G84 := G83.istore (L' := #[.val (.long x0), .second, .val (.long x1), .second, .val (.long x2), .second, .val (.int x3), .val (.int x4), .val (.ref a1), .val (.long (x2 + (1000000 : Int64))), .second, .val (.long ((x2 + (1000000 : Int64)) + x1)), .second, .val (.int (1 : Int32))]) (pc' := 72) at_70 rfl
      have G85 := G84.aload (v := (.ref a1)) (pc' := 74) at_72 rfl
      have G86 := G85.lload (v := ((x2 + (1000000 : Int64)) + x1)) (pc' := 76) at_74 rfl
      obtain ⟨v87, h87, ⟨ev87, eh87⟩, g87⟩ := G86.callV (argsL := [(.long ((x2 + (1000000 : Int64)) + x1))]) (rest := []) (pc' := 79) (k' := 1) (j' := 3) (cn3 l Z a0 hw a1 ((x2 + (1000000 : Int64)) + x1) (x2 + (1000000 : Int64)) h58 n0 G86.size F58_2) rfl F58_0 (hw _ (List.mem_of_getElem? (i := 14) rfl)) (hw _ (List.mem_of_getElem? (i := 15) rfl)) (hw _ (List.mem_of_getElem? (i := 17) rfl)) (hw _ (List.mem_of_getElem? (i := 16) rfl)) (hw _ (List.mem_of_getElem? (i := 2) rfl)) (hw _ (List.mem_of_getElem? (i := 18) rfl)) (by decide) at_76 pd1 rfl (W := 0) rfl rfl (by decide) (by decide) (by decide) (by decide) rfl rfl rfl
      subst ev87
      rw [eh87] at g87
      have G87 := g87 [(.int (fAl ((x2 + (1000000 : Int64)) + x1) (x2 + (1000000 : Int64))))] rfl
      have G88 := G87.iload (v := (1 : Int32)) (pc' := 81) at_79 rfl
      have G89 := G88.icmpN at_81 84 (Jvm.Free.XT.ii_ne_f (own_1 _ _ c62_70))
      have G90 := G89.iconst (v := (1 : Int32)) (pc' := 85) at_84
      have G91 := G90.goto at_85 89
      exact G91.retZ at_89 rfl (Or.inr rfl) rfl
set_option maxRecDepth 65536 in
set_option maxHeartbeats 40000000 in
theorem comes_1 {Post : Tables → Env → Array Value → State → Outcome → State → Prop} (hpost : ∀ tb e args s v u, (limb_1_1.after args s (.returned v) u = true ∧ limb_1_2.after args s (.returned v) u = true) → FrameEnd s (.returned v) u (Jvm.fieldLocs frame_1_writes args s ++ Jvm.arrayLocs frame_1_arrays args s ++ Jvm.staticLocs frame_1_statics s) 16 128 → Post tb e args s (.returned v) u) :
    ArmFor flags0 classFile x code maxLocals ret World_1 tables_1 room_1 Calls_1 rest_1 Pre_1 Post := by
  intro l hfl _ _ p e ha hc hk s m args below hf hA hF happ hP
  obtain ⟨hcalls, hrest, hpre⟩ := hP
  obtain ⟨-, -, -, hnamed, -, -, -, hat⟩ := (Spec.applies_iff hf).mp happ
  obtain ⟨hg, hn⟩ := and_e (Cond.before_iff.mp (show (Jvm.Cond.and given_1 narrow_1).before args s = true from hpre))
  obtain ⟨hcount, hg0⟩ := and_e hg
  obtain ⟨ga0, hg1⟩ := and_e hg0
  obtain ⟨ga1, hg2⟩ := and_e hg1
  obtain ⟨ga2, hg3⟩ := and_e hg2
  obtain ⟨ga3, hg4⟩ := and_e hg3
  have ga4 := hg4
  obtain ⟨w0, w1, w2, w3, w4, rfl⟩ : ∃ w0 w1 w2 w3 w4 : Value, args = #[w0, w1, w2, w3, w4] := by
    have hs : args.size = 5 := by simpa [Cond.value, given_1] using hcount
    obtain ⟨L⟩ := args
    match L, hs with
    | [w0, w1, w2, w3, w4], _ => exact ⟨w0, w1, w2, w3, w4, rfl⟩
  have hw := fun d (hd : d ∈ tables_1) => atoms_spec (ws := Jvm.Cond.code x code maxLocals ret :: tables_1) hat d (List.mem_cons_of_mem _ hd)
  obtain ⟨i0, ei0⟩ := isL_v ga0
  obtain rfl : w0 = (.long i0) := Option.some.inj ei0
  obtain ⟨i1, ei1⟩ := isL_v ga1
  obtain rfl : w1 = (.long i1) := Option.some.inj ei1
  obtain ⟨i2, ei2⟩ := isL_v ga2
  obtain rfl : w2 = (.long i2) := Option.some.inj ei2
  obtain ⟨i3, ei3⟩ := is_v ga3
  obtain rfl : w3 = (.int i3) := Option.some.inj ei3
  obtain ⟨i4, ei4⟩ := is_v ga4
  obtain rfl : w4 = (.int i4) := Option.some.inj ei4
  obtain ⟨n, o, h1, h2, h3, _, L, rfl, ⟨rfl, N⟩, hq⟩ := lawc l s _ hw i0 i1 i2 i3 i4 s.heap s.heap.size (Nat.le_refl _) p e ha hc hk s m _ below hf ((Spec.applies_iff_loose hf).mp happ).1 ⟨rfl, State.Warmed39.refl s, rfl⟩ trivial
  refine ⟨n, _, h1, h2, h3, hpost _ _ _ _ _ _ ⟨Cond.after_iff.mpr rfl, Cond.after_iff.mpr (eq_i res_at (Term.int_eval (1)) rfl)⟩ ⟨hq.1, hq.2.1, (hq.2.2.sift fun y hy => Or.inr (N y hy)).mono (by decide) (by decide)⟩⟩
theorem main_1_1 : Claimed_1_1 := comes_1 fun _ _ _ _ _ _ h hF => ⟨h.1, hF⟩
theorem main_1_2 : Claimed_1_2 := comes_1 fun _ _ _ _ _ _ h hF => ⟨h.2, hF⟩
end Jvm.Pilot.@@N@@
namespace Jvm.Pilot.@@N@@
open Jvm Jvm.ClassFile Sem Op Lib Jvm.Free Jvm.Stand Jvm.Pilot.@@N@@.Jvm.D
/-! MADE BY PROGRAM (witnessworld.py) out of the Statement's table words and the real class files: 9 classes; the members and pool entries that the words name. The judged class is class 1, her method 1. -/
namespace start1
open Jvm.ClassFile
def u (s : String) : CpInfo := .utf8 (stringToUtf16 s)
/-- a pool by its gaps: so many unusable entries, then the entry; so many at the end -/
def gap : Nat → List CpInfo → List CpInfo
  | 0, r => r
  | n + 1, r => .unusable :: gap n r
def poolList (es : List (Nat × CpInfo)) (last : Nat) : List CpInfo := es.foldr (fun e r => gap e.1 (e.2 :: r)) (gap last [])
def pool (es : List (Nat × CpInfo)) (last : Nat) : Array CpInfo := ⟨poolList es last⟩
def fileOf (pool : Array CpInfo) (this : Nat) (attrs : Array Attribute := #[]) (ms : Array MethodInfo := #[]) (fl : Nat := 33) (sup : Nat := 0) (ifs : Array Nat := #[]) (fds : Array FieldInfo := #[]) : ClassFile where
  minorVersion := 0
  majorVersion := 65
  constantPool := pool
  accessFlags := fl
  thisClass := this
  superClass := sup
  interfaces := ifs
  fields := fds
  methods := ms
  attributes := attrs
def plain (name : String) (sup : Option ClassId) : Class where
  name := name
  kind := .ordinary
  loader := none
  accessFlags := 33
  super := sup
  interfaces := #[]
  cf := none
  fields := #[]
  methods := #[]
  instanceTypes := #[]
  staticTypes := #[]
  resolved := #[]
  callSites := []
  init := .initialized
  statics := none
  mirror := none

def pool0 : Array CpInfo := pool [(5, u "<init>"), (0, u "()V"), (1, .class_ 10), (1, u "java/lang/Object")] 113

def k0c0 : Code := { maxStack := 0, maxLocals := 1, code := object_method_1_code, exceptionTable := #[], attributes := #[] }
def k0m0 : Method := { name := "<init>", desc := "()V", sig := { parameters := [], returnType := none }, accessFlags := 1, code := some k0c0 }
/-- java/lang/Object -/
def k0 : Class := { plain "java/lang/Object" none with
  accessFlags := 33
  interfaces := #[]
  cf := some (fileOf pool0 8 #[] #[{ accessFlags := 1, nameIndex := 5, descriptorIndex := 6, attributes := #[] }] 33 0 #[] #[])
  fields := #[]
  methods := #[k0m0]
  instanceTypes := #[]
  staticTypes := #[]
  resolved := Array.replicate 124 none
  statics := none }

def pool1 : Array CpInfo := pool [(2, .class_ 4), (1, u "java/lang/Object"), (0, u "<init>"), (0, u "()V"), (0, .class_ 8), (0, u "com/example/multi_reactor/multireactor/loop/StandAsides"), (0, .methodref 7 10), (0, .nameAndType 5 11), (0, u "(J)V"), (0, .long 500000), (1, .integer 1048575), (0, .methodref 7 16), (0, .nameAndType 17 18), (0, u "took"), (0, u "(JJI)V"), (0, .long 1000000), (1, .methodref 7 22), (0, .nameAndType 23 24), (0, u "allowedAt"), (0, u "(J)Z"), (0, .class_ 26), (0, u "com/example/multi_reactor/multireactor/loop/StandAsidesAllowedAtPinLaw"), (2, u "law"), (0, u "(JJJII)Z")] 3

def k1m0 : Method := { name := "<init>", desc := "()V", sig := { parameters := [], returnType := none }, accessFlags := 2, code := none }
def k1c1 : Code := { maxStack := 6, maxLocals := 14, code := code, exceptionTable := #[], attributes := #[] }
def k1m1 : Method := { name := "law", desc := "(JJJII)Z", sig := { parameters := [.long, .long, .long, .int, .int], returnType := some .boolean }, accessFlags := 9, code := some k1c1 }
/-- com/example/multi_reactor/multireactor/loop/StandAsidesAllowedAtPinLaw -/
def k1 : Class := { plain "com/example/multi_reactor/multireactor/loop/StandAsidesAllowedAtPinLaw" (some 0) with
  accessFlags := 49
  interfaces := #[]
  cf := some (fileOf pool1 25 #[] #[{ accessFlags := 2, nameIndex := 5, descriptorIndex := 6, attributes := #[] }, { accessFlags := 9, nameIndex := 29, descriptorIndex := 30, attributes := #[] }] 49 2 #[] #[])
  fields := #[]
  methods := #[k1m0, k1m1]
  instanceTypes := #[]
  staticTypes := #[]
  resolved := Array.replicate 34 none
  statics := none }

def pool2 : Array CpInfo := pool [(1, .methodref 2 3), (0, .class_ 4), (0, .nameAndType 5 6), (0, u "java/lang/Object"), (0, u "<init>"), (0, u "()V"), (0, .class_ 8), (0, u "com/example/multi_reactor/multireactor/loop/StandAsides"), (0, .long 1000000), (1, .fieldref 7 12), (0, .nameAndType 13 14), (0, u "pauseNanos"), (0, u "J"), (0, .fieldref 7 16), (0, .nameAndType 17 14), (0, u "pausedUntil"), (0, .long 500000), (1, .long 250000), (1, .fieldref 7 23), (0, .nameAndType 24 25), (0, u "watched"), (0, u "I"), (0, .long 2), (1, .long 1000000000), (7, u "COSTLY_NANOS"), (1, u "NANOS_PER_CHANNEL"), (0, u "FIRST_PAUSE_NANOS"), (0, u "MAX_PAUSE_NANOS"), (0, u "WATCHED"), (1, u "(J)V"), (2, u "allowedAt"), (0, u "(J)Z"), (1, u "took"), (0, u "(JJI)V")] 2

def k2c0 : Code := { maxStack := 3, maxLocals := 3, code := prog_58_method_1_code, exceptionTable := #[], attributes := #[] }
def k2m0 : Method := { name := "<init>", desc := "(J)V", sig := { parameters := [.long], returnType := none }, accessFlags := 0, code := some k2c0 }
def k2c1 : Code := { maxStack := 4, maxLocals := 3, code := prog_58_method_2_code, exceptionTable := #[], attributes := #[] }
def k2m1 : Method := { name := "allowedAt", desc := "(J)Z", sig := { parameters := [.long], returnType := some .boolean }, accessFlags := 0, code := some k2c1 }
def k2c2 : Code := { maxStack := 6, maxLocals := 8, code := prog_58_method_3_code, exceptionTable := #[], attributes := #[] }
def k2m2 : Method := { name := "took", desc := "(JJI)V", sig := { parameters := [.long, .long, .int], returnType := none }, accessFlags := 0, code := some k2c2 }
/-- com/example/multi_reactor/multireactor/loop/StandAsides -/
def k2 : Class := { plain "com/example/multi_reactor/multireactor/loop/StandAsides" (some 0) with
  accessFlags := 48
  interfaces := #[]
  cf := some (fileOf pool2 7 #[] #[{ accessFlags := 0, nameIndex := 5, descriptorIndex := 43, attributes := #[] }, { accessFlags := 0, nameIndex := 46, descriptorIndex := 47, attributes := #[] }, { accessFlags := 0, nameIndex := 49, descriptorIndex := 50, attributes := #[] }] 48 2 #[] #[{ accessFlags := 26, nameIndex := 36, descriptorIndex := 14, attributes := #[] }, { accessFlags := 26, nameIndex := 38, descriptorIndex := 14, attributes := #[] }, { accessFlags := 26, nameIndex := 39, descriptorIndex := 14, attributes := #[] }, { accessFlags := 26, nameIndex := 40, descriptorIndex := 14, attributes := #[] }, { accessFlags := 26, nameIndex := 41, descriptorIndex := 25, attributes := #[] }, { accessFlags := 2, nameIndex := 17, descriptorIndex := 14, attributes := #[] }, { accessFlags := 2, nameIndex := 13, descriptorIndex := 14, attributes := #[] }, { accessFlags := 2, nameIndex := 24, descriptorIndex := 25, attributes := #[] }])
  fields := #[{ name := "COSTLY_NANOS", type := .long, accessFlags := 26, slot := 0, constantValue := 0 }, { name := "NANOS_PER_CHANNEL", type := .long, accessFlags := 26, slot := 1, constantValue := 0 }, { name := "FIRST_PAUSE_NANOS", type := .long, accessFlags := 26, slot := 2, constantValue := 0 }, { name := "MAX_PAUSE_NANOS", type := .long, accessFlags := 26, slot := 3, constantValue := 0 }, { name := "WATCHED", type := .int, accessFlags := 26, slot := 4, constantValue := 0 }, { name := "pausedUntil", type := .long, accessFlags := 2, slot := 0, constantValue := 0 }, { name := "pauseNanos", type := .long, accessFlags := 2, slot := 1, constantValue := 0 }, { name := "watched", type := .int, accessFlags := 2, slot := 2, constantValue := 0 }]
  methods := #[k2m0, k2m1, k2m2]
  instanceTypes := #[.long, .long, .int]
  staticTypes := #[.long, .long, .long, .long, .int]
  resolved := Array.replicate 53 none
  statics := none }

def pool3 : Array CpInfo := pool [(1, u "java/lang/Cloneable"), (0, .class_ 1), (0, u "java/lang/Object"), (0, .class_ 3)] 3

/-- java/lang/Cloneable -/
def k3 : Class := { plain "java/lang/Cloneable" (some 0) with
  accessFlags := 1537
  interfaces := #[]
  cf := some (fileOf pool3 2 #[] #[] 1537 4 #[] #[])
  fields := #[]
  methods := #[]
  instanceTypes := #[]
  staticTypes := #[]
  resolved := Array.replicate 8 none
  statics := none }

def pool4 : Array CpInfo := pool [(1, u "java/io/Serializable"), (0, .class_ 1), (0, u "java/lang/Object"), (0, .class_ 3)] 3

/-- java/io/Serializable -/
def k4 : Class := { plain "java/io/Serializable" (some 0) with
  accessFlags := 1537
  interfaces := #[]
  cf := some (fileOf pool4 2 #[] #[] 1537 4 #[] #[])
  fields := #[]
  methods := #[]
  instanceTypes := #[]
  staticTypes := #[]
  resolved := Array.replicate 8 none
  statics := none }

/-- the primitive byte -/
def k5 : Class := { plain "byte" none with kind := .primitive 'B', accessFlags := 0x411 }
/-- [B -/
def k6 : Class := { plain "[B" (some 0) with kind := .array 5 .byte, interfaces := #[3, 4], accessFlags := 1041 }

/-- the primitive int -/
def k7 : Class := { plain "int" none with kind := .primitive 'I', accessFlags := 0x411 }
/-- [I -/
def k8 : Class := { plain "[I" (some 0) with kind := .array 7 .int, interfaces := #[3, 4], accessFlags := 1041 }

def heap : Heap := #[]
def classes : Array Class := #[k0, k1, k2, k3, k4, k5, k6, k7, k8]
def interned : List (Array UInt16 × Addr) := []
def slotsUsed : Nat := 0
def theMethod : MethodId := ⟨1, 1⟩
def args0 : Array Value := #[.long 5, .long 6, .long 7, .int 1, .int 3]
def aboutOver (below : List Frame) : State where
  vm := { classes := classes, interned := interned.toArray }
  heap := heap
  slotsUsed := slotsUsed
  threads := #[{ frames := .invoking theMethod args0 :: below }]
def below0 : List Frame := [.native { method := ⟨0, 0⟩, args := #[] }]
def about1 : State := aboutOver below0
def p0 : Program := .bare "" "" ""
def e0 : Env := launch0.env 0 0 0
theorem w_frames : about1.frames = Frame.invoking theMethod args0 :: below0 := rfl
set_option maxRecDepth 65536 in
theorem w_args : argsFit about1.vm theMethod args0 = true := by decide +kernel
set_option maxRecDepth 65536 in
theorem w_heap : heapFits about1 = true := by decide +kernel
set_option maxRecDepth 65536 in
theorem w_runnable : about1.curStatus? = some .runnable := by decide +kernel
set_option maxRecDepth 65536 in
theorem w_alone : about1.alone = true := by decide +kernel
set_option maxRecDepth 65536 in
theorem w_named : about1.methodNamed? x = some theMethod := by decide +kernel
set_option maxRecDepth 65536 in
theorem w_hears : about1.hears theMethod below0 = true := by decide +kernel
set_option maxRecDepth 65536 in
theorem w_ripe : about1.ripe theMethod args0 below0 = true := by decide +kernel
theorem w_running : about1.status = .running := rfl
set_option maxRecDepth 65536 in
theorem w_room : about1.hasRoom e0.platform room_1 = true :=
  launch0.hasRoom_least _ room_1 (by decide +kernel) (by decide +kernel) (by decide +kernel) (by decide +kernel) (by decide +kernel) (by decide +kernel)
theorem allAtoms_all (ts : List Jvm.Cond) (a : Array Jvm.Value) (st : Jvm.State) : (allAtoms ts).before a st = ts.all (fun c => c.before a st) := by
  induction ts with
  | nil => rfl
  | cons c t ih =>
    show (Jvm.Cond.and c (allAtoms t)).before a st = _
    rw [Jvm.Cond.before_and, ih, List.all_cons]
def words1 : List Jvm.Cond := Jvm.Cond.code x code maxLocals ret :: tables_1
/-- a 'code' word, met by the world's own term for the bytes: nothing is compared byte by byte -/
theorem code_word {y : MethodName} {bytes : ByteArray} {mx : Nat} {rt : Option FieldType} {a : Array Value} {s : State} {m : MethodId} {meth : Method} {c : Code} (h1 : s.methodNamed? y = some m) (h2 : s.vm.method? m = some meth) (h3 : meth.code = some c) (h4 : c.code = bytes)
    (h5 : (c.maxLocals == mx && c.exceptionTable.isEmpty && decide (c.maxStack ≤ mostOperands) && decide (meth.sig.returnType = rt) && !meth.locks && decide (parseMethodDescriptor y.desc = some meth.sig)) = true) : (Jvm.Cond.code y bytes mx rt).before a s = true := by
  simp only [Bool.and_eq_true, beq_iff_eq, Bool.not_eq_true', decide_eq_true_eq] at h5
  obtain ⟨⟨⟨⟨⟨g1, g2⟩, g3⟩, g4⟩, g5⟩, g6⟩ := h5
  simp [Cond.before, Cond.holds, Cond.value, h1, h2, h3, h4, g1, g2, g3, g4, g5, g6]
def isCode : Jvm.Cond → Bool
  | .code _ _ _ _ => true
  | _ => false
theorem all_split {L : List Jvm.Cond} {P : Jvm.Cond → Bool} (h1 : L.all (fun c => isCode c || P c) = true) (h2 : ∀ c ∈ L.filter isCode, P c = true) : L.all P = true := by
  refine List.all_eq_true.mpr fun c hc => ?_
  have h := List.all_eq_true.mp h1 c hc
  rcases Bool.eq_false_or_eq_true (isCode c) with hi | hi
  · exact h2 c (List.mem_filter.mpr ⟨hc, hi⟩)
  · simpa [hi] using h
set_option maxRecDepth 65536 in
theorem w_c0 : (Jvm.Cond.code x code maxLocals ret).before args0 about1 = true := code_word (m := ⟨1, 1⟩) (meth := k1m1) (c := k1c1) (by decide +kernel) rfl rfl rfl (by decide +kernel)
set_option maxRecDepth 65536 in
theorem w_c1 : (Jvm.Cond.code ({ cls := "com/example/multi_reactor/multireactor/loop/StandAsides", name := "<init>", desc := "(J)V" } : Jvm.MethodName) prog_58_method_1_code (3 : Nat) (Option.none : Option Jvm.ClassFile.FieldType)).before args0 about1 = true := code_word (m := ⟨2, 0⟩) (meth := k2m0) (c := k2c0) (by decide +kernel) rfl rfl rfl (by decide +kernel)
set_option maxRecDepth 65536 in
theorem w_c2 : (Jvm.Cond.code ({ cls := "java/lang/Object", name := "<init>", desc := "()V" } : Jvm.MethodName) object_method_1_code (1 : Nat) (Option.none : Option Jvm.ClassFile.FieldType)).before args0 about1 = true := code_word (m := ⟨0, 0⟩) (meth := k0m0) (c := k0c0) (by decide +kernel) rfl rfl rfl (by decide +kernel)
set_option maxRecDepth 65536 in
theorem w_c3 : (Jvm.Cond.code ({ cls := "com/example/multi_reactor/multireactor/loop/StandAsides", name := "allowedAt", desc := "(J)Z" } : Jvm.MethodName) prog_58_method_2_code (3 : Nat) (Option.some Jvm.ClassFile.FieldType.boolean)).before args0 about1 = true := code_word (m := ⟨2, 1⟩) (meth := k2m1) (c := k2c1) (by decide +kernel) rfl rfl rfl (by decide +kernel)
set_option maxRecDepth 65536 in
theorem w_c4 : (Jvm.Cond.code ({ cls := "com/example/multi_reactor/multireactor/loop/StandAsides", name := "took", desc := "(JJI)V" } : Jvm.MethodName) prog_58_method_3_code (8 : Nat) (Option.none : Option Jvm.ClassFile.FieldType)).before args0 about1 = true := code_word (m := ⟨2, 2⟩) (meth := k2m2) (c := k2c2) (by decide +kernel) rfl rfl rfl (by decide +kernel)
def codes1 : List Jvm.Cond := [Jvm.Cond.code x code maxLocals ret, Jvm.Cond.code ({ cls := "com/example/multi_reactor/multireactor/loop/StandAsides", name := "<init>", desc := "(J)V" } : Jvm.MethodName) prog_58_method_1_code (3 : Nat) (Option.none : Option Jvm.ClassFile.FieldType), Jvm.Cond.code ({ cls := "java/lang/Object", name := "<init>", desc := "()V" } : Jvm.MethodName) object_method_1_code (1 : Nat) (Option.none : Option Jvm.ClassFile.FieldType), Jvm.Cond.code ({ cls := "com/example/multi_reactor/multireactor/loop/StandAsides", name := "allowedAt", desc := "(J)Z" } : Jvm.MethodName) prog_58_method_2_code (3 : Nat) (Option.some Jvm.ClassFile.FieldType.boolean), Jvm.Cond.code ({ cls := "com/example/multi_reactor/multireactor/loop/StandAsides", name := "took", desc := "(JJI)V" } : Jvm.MethodName) prog_58_method_3_code (8 : Nat) (Option.none : Option Jvm.ClassFile.FieldType)]
set_option maxRecDepth 65536 in
theorem codes_eq : words1.filter isCode = codes1 := rfl
theorem w_codes : ∀ c ∈ words1.filter isCode, c.before args0 about1 = true := by
  rw [codes_eq]
  intro c hc
  simp only [codes1, List.mem_cons, List.not_mem_nil, or_false] at hc
  rcases hc with rfl | rfl | rfl | rfl | rfl
  · exact w_c0
  · exact w_c1
  · exact w_c2
  · exact w_c3
  · exact w_c4
set_option maxRecDepth 65536 in
theorem w_t1 : (words1.take 24).all (fun c => isCode c || c.before args0 about1) = true := by decide +kernel
set_option maxRecDepth 65536 in
theorem w_t2 : (words1.drop 24).all (fun c => isCode c || c.before args0 about1) = true := by decide +kernel
theorem w_tables : (allAtoms (Jvm.Cond.code x code maxLocals ret :: tables_1)).before args0 about1 = true := by
  rw [allAtoms_all]
  show words1.all (fun c => c.before args0 about1) = true
  refine all_split ?_ w_codes
  rw [← List.take_append_drop 24 words1, List.all_append, w_t1, w_t2]
  rfl
set_option maxRecDepth 65536 in
theorem w_case : (Jvm.Cond.and given_1 narrow_1).before args0 about1 = true := by decide +kernel
theorem w_applies : (headSpec (Jvm.Cond.code x code maxLocals ret :: tables_1) room_1).applies x e0.platform about1 = true :=
  (Spec.applies_iff w_frames).mpr ⟨w_running, w_runnable, w_alone, w_named, w_hears, w_ripe, w_room, w_tables⟩
theorem atStart : AtStart classFile x code maxLocals ret World_1 tables_1 room_1 Calls_1 rest_1 Pre_1 launch0 p0 e0 about1 theMethod args0 below0 :=
  ⟨lists_1, trivial, launch0.admits_env _ _ _, launch0.least_env, fairChoices_fair.cas, fairChoices_fair.clock, w_frames, w_args, w_heap, w_applies, trivial, trivial, w_case⟩
end start1
theorem witness_1 : WitnessClaimed_1 := ⟨start1.p0, start1.e0, start1.about1, start1.theMethod, start1.args0, start1.below0, start1.atStart⟩
end Jvm.Pilot.@@N@@
