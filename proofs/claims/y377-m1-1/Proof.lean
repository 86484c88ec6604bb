import JvmDerived
import JvmDerived.Pilot.@@N@@Statement
import JvmDerived.Pilot.@@N@@Code
set_option linter.unusedVariables false
set_option linter.unusedSimpArgs false
namespace Jvm.OwnKit
open Sem ClassFile Op Lib Jvm.Stand Jvm.Free Jvm.LawKit Jvm.RoadKit
section OwnKit
set_option maxHeartbeats 4000000
variable {p : Program} {l : Launch} {e : Env} {R : Room} {s : State} {m : MethodId} {args : Array Value} {below : List Frame} {meth : Method} {c : Code} {Z : State} {own : String} {bytes : ByteArray} {maxL : Nat} {ret : Option FieldType} {n0 : Nat} {s₀ : State} {h : Heap} {k j pc : Nat} {L : Array Slot} {S : List Value} {a0 : Array Value}
/-- where a walk stands -/
def Go (p : Program) (l : Launch) (e : Env) (R : Room) (s : State) (m : MethodId) (args : Array Value) (below : List Frame) (meth : Method) (c : Code) (Z : State) (own : String) (bytes : ByteArray) (maxL : Nat) (ret : Option FieldType) (n0 : Nat) (s₀ : State) (h : Heap) (k j pc : Nat) (L : Array Slot) (S : List Value) : Prop :=
  (p.tables.exec = Jvm.exec ∧ c.code = bytes ∧ c.maxLocals = maxL ∧ Z.Warmed39 s.vm ∧ s.vm.findClass own = some m.cls ∧ meth.sig.returnType = ret ∧ meth.locks = false ∧ n0 ≤ s.heap.size) ∧
  ∃ (T : State) (locs : List Loc), Stand p l e R s m args below meth c T locs k j ∧ T.heap = h ∧ Fr n0 locs ∧ ∀ t, Steps p.tables e below (T.setTop (mkF m pc L S)) t → Steps p.tables e below s₀ t
/-- how a walk ends -/
def Fini (p : Program) (e : Env) (below : List Frame) (s s₀ : State) (n0 kc js : Nat) (Q : Option Value → Heap → Prop) : Prop :=
  ∃ s₂ o, Steps p.tables e below s₀ s₂ ∧ s₂.status = .running ∧ Ended s₂ below o ∧ ∃ v L, o = .returned v ∧ (Q v s₂.heap ∧ Fr n0 L) ∧ FrameEnd s o s₂ L kc js
/-- a body's contract at one heap and these arguments -/
def Con (l : Launch) (y : MethodName) (bytes : ByteArray) (maxL : Nat) (ret : Option FieldType) (ws : List Cond) (rm : Room) (kc js : Nat) (Z : State) (as' : Array Value) (h0 : Heap) (n0 : Nat) (Q : Option Value → Heap → Prop) : Prop :=
  MetFree l y (head1 (Cond.code y bytes maxL ret :: ws) rm) (fun a U => a = as' ∧ Z.Warmed39 U.vm ∧ U.heap = h0) (fun _ _ _ _ _ => True) (fun _ U o U' => ∃ v L, o = .returned v ∧ (Q v U'.heap ∧ Fr n0 L) ∧ FrameEnd U o U' L kc js)
theorem Con.of {y : MethodName} {ws : List Cond} {rm : Room} {kc js : Nat} {as' : Array Value} {h0 : Heap} {L0 : Array Slot} {Q : Option Value → Heap → Prop} (hpl : plainFor y = true) (hn : n0 ≤ h0.size) (hef : ∀ m, entryFrame m as' maxL = mkF m 0 L0 [])
    (body : ∀ (p : Program) (e : Env) (s : State) (m : MethodId) (below : List Frame) (meth : Method) (c : Code) (s₀ : State), meth.name = y.name → Go p l e rm s m as' below meth c Z y.cls bytes maxL ret n0 s₀ h0 0 0 0 L0 [] → Fini p e below s s₀ n0 kc js Q) : Con l y bytes maxL ret ws rm kc js Z as' h0 n0 Q := by
  refine MetFree.of_bodySF hpl hisR ?_
  intro p e s m args below meth c s₁ Bd hml0 hP hK
  obtain ⟨rfl, hZ, hh⟩ := hP
  have hx := Bd.exec
  have X0 : Stand p l e rm s m args below meth c s₁ [] 0 0 := Stand.of_body Bd
  exact body p e s m below meth c _ (name_of_methodNamed Bd.named Bd.method).1 ⟨⟨hx, Bd.bytes, hml0, hZ, findClass_of_methodNamed Bd.named, Bd.returns, Bd.notSynchronized, by rw [hh]; exact hn⟩, s₁, [], X0, by rw [← hh, Bd.state]; rfl, Fr.nil n0, fun t k => castTop (hef m) k⟩
/-- the same contract with a weaker word -/
theorem Fini.mono {kc js : Nat} {Q Q' : Option Value → Heap → Prop} (F : Fini p e below s s₀ n0 kc js Q) (hq : ∀ v h, Q v h → Q' v h) : Fini p e below s s₀ n0 kc js Q' := by
  obtain ⟨s₂, o, a1, a2, a3, v, L, a4, ⟨a5, a6⟩, a7⟩ := F
  exact ⟨s₂, o, a1, a2, a3, v, L, a4, ⟨hq _ _ a5, a6⟩, a7⟩
theorem Go.step {pc' : Nat} {L' : Array Slot} {S' : List Value} (G : Go p l e R s m args below meth c Z own bytes maxL ret n0 s₀ h k j pc L S) (f : ∀ T locs, Stand p l e R s m args below meth c T locs k j → T.heap = h → p.tables.exec = Jvm.exec → c.code = bytes → ∀ t, Steps p.tables e below (T.setTop (mkF m pc' L' S')) t → Steps p.tables e below (T.setTop (mkF m pc L S)) t) : Go p l e R s m args below meth c Z own bytes maxL ret n0 s₀ h k j pc' L' S' := by
  obtain ⟨⟨hx, hb, r⟩, T, locs, X, eT, N, st⟩ := G
  exact ⟨⟨hx, hb, r⟩, T, locs, X, eT, N, fun t q => st t (f T locs X eT hx hb t q)⟩
theorem Go.size (G : Go p l e R s m args below meth c Z own bytes maxL ret n0 s₀ h k j pc L S) : n0 ≤ h.size := by
  obtain ⟨⟨_, _, _, _, _, _, _, hn⟩, T, locs, X, eT, N, st⟩ := G
  have q : s.heap.size ≤ T.heap.size := X.same.2.1
  rw [← eT]; exact Nat.le_trans hn q
theorem Go.iadd {x y : Int32} (G : Go p l e R s m args below meth c Z own bytes maxL ret n0 s₀ h k j pc L (.int y :: .int x :: S)) (hd : decode bytes pc = .ok (.iadd, 1))  {pc' : Nat} (hp : pc + 1 = pc' := by rfl) : Go p l e R s m args below meth c Z own bytes maxL ret n0 s₀ h k j pc' L (.int (x + y) :: S) := by
  subst hp; exact G.step fun T locs X eT hx hb t q => XS.iadd X.here hx rfl (Jvm.hb hb hd) rfl  q
theorem Go.isub {x y : Int32} (G : Go p l e R s m args below meth c Z own bytes maxL ret n0 s₀ h k j pc L (.int y :: .int x :: S)) (hd : decode bytes pc = .ok (.isub, 1))  {pc' : Nat} (hp : pc + 1 = pc' := by rfl) : Go p l e R s m args below meth c Z own bytes maxL ret n0 s₀ h k j pc' L (.int (x - y) :: S) := by
  subst hp; exact G.step fun T locs X eT hx hb t q => XS.isub X.here hx rfl (Jvm.hb hb hd) rfl  q
theorem Go.imul {x y : Int32} (G : Go p l e R s m args below meth c Z own bytes maxL ret n0 s₀ h k j pc L (.int y :: .int x :: S)) (hd : decode bytes pc = .ok (.imul, 1))  {pc' : Nat} (hp : pc + 1 = pc' := by rfl) : Go p l e R s m args below meth c Z own bytes maxL ret n0 s₀ h k j pc' L (.int (x * y) :: S) := by
  subst hp; exact G.step fun T locs X eT hx hb t q => XS.imul X.here hx rfl (Jvm.hb hb hd) rfl  q
theorem Go.iand {x y : Int32} (G : Go p l e R s m args below meth c Z own bytes maxL ret n0 s₀ h k j pc L (.int y :: .int x :: S)) (hd : decode bytes pc = .ok (.iand, 1))  {pc' : Nat} (hp : pc + 1 = pc' := by rfl) : Go p l e R s m args below meth c Z own bytes maxL ret n0 s₀ h k j pc' L (.int (x &&& y) :: S) := by
  subst hp; exact G.step fun T locs X eT hx hb t q => XS.iand X.here hx rfl (Jvm.hb hb hd) rfl  q
theorem Go.ior {x y : Int32} (G : Go p l e R s m args below meth c Z own bytes maxL ret n0 s₀ h k j pc L (.int y :: .int x :: S)) (hd : decode bytes pc = .ok (.ior, 1))  {pc' : Nat} (hp : pc + 1 = pc' := by rfl) : Go p l e R s m args below meth c Z own bytes maxL ret n0 s₀ h k j pc' L (.int (x ||| y) :: S) := by
  subst hp; exact G.step fun T locs X eT hx hb t q => XS.ior X.here hx rfl (Jvm.hb hb hd) rfl  q
theorem Go.ixor {x y : Int32} (G : Go p l e R s m args below meth c Z own bytes maxL ret n0 s₀ h k j pc L (.int y :: .int x :: S)) (hd : decode bytes pc = .ok (.ixor, 1))  {pc' : Nat} (hp : pc + 1 = pc' := by rfl) : Go p l e R s m args below meth c Z own bytes maxL ret n0 s₀ h k j pc' L (.int (x ^^^ y) :: S) := by
  subst hp; exact G.step fun T locs X eT hx hb t q => XS.ixor X.here hx rfl (Jvm.hb hb hd) rfl  q
theorem Go.ishl {x y : Int32} (G : Go p l e R s m args below meth c Z own bytes maxL ret n0 s₀ h k j pc L (.int y :: .int x :: S)) (hd : decode bytes pc = .ok (.ishl, 1))  {pc' : Nat} (hp : pc + 1 = pc' := by rfl) : Go p l e R s m args below meth c Z own bytes maxL ret n0 s₀ h k j pc' L (.int (x <<< (y &&& 31)) :: S) := by
  subst hp; exact G.step fun T locs X eT hx hb t q => XS.ishl X.here hx rfl (Jvm.hb hb hd) rfl  q
theorem Go.ishr {x y : Int32} (G : Go p l e R s m args below meth c Z own bytes maxL ret n0 s₀ h k j pc L (.int y :: .int x :: S)) (hd : decode bytes pc = .ok (.ishr, 1))  {pc' : Nat} (hp : pc + 1 = pc' := by rfl) : Go p l e R s m args below meth c Z own bytes maxL ret n0 s₀ h k j pc' L (.int (x >>> (y &&& 31)) :: S) := by
  subst hp; exact G.step fun T locs X eT hx hb t q => XS.ishr X.here hx rfl (Jvm.hb hb hd) rfl  q
theorem Go.iushr {x y : Int32} (G : Go p l e R s m args below meth c Z own bytes maxL ret n0 s₀ h k j pc L (.int y :: .int x :: S)) (hd : decode bytes pc = .ok (.iushr, 1))  {pc' : Nat} (hp : pc + 1 = pc' := by rfl) : Go p l e R s m args below meth c Z own bytes maxL ret n0 s₀ h k j pc' L (.int ((x.toUInt32 >>> (y &&& 31).toUInt32).toInt32) :: S) := by
  subst hp; exact G.step fun T locs X eT hx hb t q => XS.iushr X.here hx rfl (Jvm.hb hb hd) rfl  q
theorem Go.ladd {x y : Int64} (G : Go p l e R s m args below meth c Z own bytes maxL ret n0 s₀ h k j pc L (.long y :: .long x :: S)) (hd : decode bytes pc = .ok (.ladd, 1))  {pc' : Nat} (hp : pc + 1 = pc' := by rfl) : Go p l e R s m args below meth c Z own bytes maxL ret n0 s₀ h k j pc' L (.long (x + y) :: S) := by
  subst hp; exact G.step fun T locs X eT hx hb t q => XS.ladd X.here hx rfl (Jvm.hb hb hd) rfl  q
theorem Go.lsub {x y : Int64} (G : Go p l e R s m args below meth c Z own bytes maxL ret n0 s₀ h k j pc L (.long y :: .long x :: S)) (hd : decode bytes pc = .ok (.lsub, 1))  {pc' : Nat} (hp : pc + 1 = pc' := by rfl) : Go p l e R s m args below meth c Z own bytes maxL ret n0 s₀ h k j pc' L (.long (x - y) :: S) := by
  subst hp; exact G.step fun T locs X eT hx hb t q => XS.lsub X.here hx rfl (Jvm.hb hb hd) rfl  q
theorem Go.lmul {x y : Int64} (G : Go p l e R s m args below meth c Z own bytes maxL ret n0 s₀ h k j pc L (.long y :: .long x :: S)) (hd : decode bytes pc = .ok (.lmul, 1))  {pc' : Nat} (hp : pc + 1 = pc' := by rfl) : Go p l e R s m args below meth c Z own bytes maxL ret n0 s₀ h k j pc' L (.long (x * y) :: S) := by
  subst hp; exact G.step fun T locs X eT hx hb t q => XS.lmul X.here hx rfl (Jvm.hb hb hd) rfl  q
theorem Go.land {x y : Int64} (G : Go p l e R s m args below meth c Z own bytes maxL ret n0 s₀ h k j pc L (.long y :: .long x :: S)) (hd : decode bytes pc = .ok (.land, 1))  {pc' : Nat} (hp : pc + 1 = pc' := by rfl) : Go p l e R s m args below meth c Z own bytes maxL ret n0 s₀ h k j pc' L (.long (x &&& y) :: S) := by
  subst hp; exact G.step fun T locs X eT hx hb t q => XS.land X.here hx rfl (Jvm.hb hb hd) rfl  q
theorem Go.lor {x y : Int64} (G : Go p l e R s m args below meth c Z own bytes maxL ret n0 s₀ h k j pc L (.long y :: .long x :: S)) (hd : decode bytes pc = .ok (.lor, 1))  {pc' : Nat} (hp : pc + 1 = pc' := by rfl) : Go p l e R s m args below meth c Z own bytes maxL ret n0 s₀ h k j pc' L (.long (x ||| y) :: S) := by
  subst hp; exact G.step fun T locs X eT hx hb t q => XS.lor X.here hx rfl (Jvm.hb hb hd) rfl  q
theorem Go.lxor {x y : Int64} (G : Go p l e R s m args below meth c Z own bytes maxL ret n0 s₀ h k j pc L (.long y :: .long x :: S)) (hd : decode bytes pc = .ok (.lxor, 1))  {pc' : Nat} (hp : pc + 1 = pc' := by rfl) : Go p l e R s m args below meth c Z own bytes maxL ret n0 s₀ h k j pc' L (.long (x ^^^ y) :: S) := by
  subst hp; exact G.step fun T locs X eT hx hb t q => XS.lxor X.here hx rfl (Jvm.hb hb hd) rfl  q
theorem Go.lshl {x : Int64} {y : Int32} (G : Go p l e R s m args below meth c Z own bytes maxL ret n0 s₀ h k j pc L (.int y :: .long x :: S)) (hd : decode bytes pc = .ok (.lshl, 1))  {pc' : Nat} (hp : pc + 1 = pc' := by rfl) : Go p l e R s m args below meth c Z own bytes maxL ret n0 s₀ h k j pc' L (.long (x <<< (y &&& 0x3f).toInt64) :: S) := by
  subst hp; exact G.step fun T locs X eT hx hb t q => XS.lshl X.here hx rfl (Jvm.hb hb hd) rfl  q
theorem Go.lshr {x : Int64} {y : Int32} (G : Go p l e R s m args below meth c Z own bytes maxL ret n0 s₀ h k j pc L (.int y :: .long x :: S)) (hd : decode bytes pc = .ok (.lshr, 1))  {pc' : Nat} (hp : pc + 1 = pc' := by rfl) : Go p l e R s m args below meth c Z own bytes maxL ret n0 s₀ h k j pc' L (.long (x >>> (y &&& 0x3f).toInt64) :: S) := by
  subst hp; exact G.step fun T locs X eT hx hb t q => XS.lshr X.here hx rfl (Jvm.hb hb hd) rfl  q
theorem Go.lushr {x : Int64} {y : Int32} (G : Go p l e R s m args below meth c Z own bytes maxL ret n0 s₀ h k j pc L (.int y :: .long x :: S)) (hd : decode bytes pc = .ok (.lushr, 1))  {pc' : Nat} (hp : pc + 1 = pc' := by rfl) : Go p l e R s m args below meth c Z own bytes maxL ret n0 s₀ h k j pc' L (.long ((x.toUInt64 >>> (y &&& 0x3f).toInt64.toUInt64).toInt64) :: S) := by
  subst hp; exact G.step fun T locs X eT hx hb t q => XS.lushr X.here hx rfl (Jvm.hb hb hd) rfl  q
theorem Go.ineg {x : Int32} (G : Go p l e R s m args below meth c Z own bytes maxL ret n0 s₀ h k j pc L (.int x :: S)) (hd : decode bytes pc = .ok (.ineg, 1))  {pc' : Nat} (hp : pc + 1 = pc' := by rfl) : Go p l e R s m args below meth c Z own bytes maxL ret n0 s₀ h k j pc' L (.int (-x) :: S) := by
  subst hp; exact G.step fun T locs X eT hx hb t q => XS.ineg X.here hx rfl (Jvm.hb hb hd) rfl  q
theorem Go.lneg {x : Int64} (G : Go p l e R s m args below meth c Z own bytes maxL ret n0 s₀ h k j pc L (.long x :: S)) (hd : decode bytes pc = .ok (.lneg, 1))  {pc' : Nat} (hp : pc + 1 = pc' := by rfl) : Go p l e R s m args below meth c Z own bytes maxL ret n0 s₀ h k j pc' L (.long (-x) :: S) := by
  subst hp; exact G.step fun T locs X eT hx hb t q => XS.lneg X.here hx rfl (Jvm.hb hb hd) rfl  q
theorem Go.i2l {x : Int32} (G : Go p l e R s m args below meth c Z own bytes maxL ret n0 s₀ h k j pc L (.int x :: S)) (hd : decode bytes pc = .ok (.i2l, 1))  {pc' : Nat} (hp : pc + 1 = pc' := by rfl) : Go p l e R s m args below meth c Z own bytes maxL ret n0 s₀ h k j pc' L (.long (x.toInt64) :: S) := by
  subst hp; exact G.step fun T locs X eT hx hb t q => XS.i2l X.here hx rfl (Jvm.hb hb hd) rfl  q
theorem Go.l2i {x : Int64} (G : Go p l e R s m args below meth c Z own bytes maxL ret n0 s₀ h k j pc L (.long x :: S)) (hd : decode bytes pc = .ok (.l2i, 1))  {pc' : Nat} (hp : pc + 1 = pc' := by rfl) : Go p l e R s m args below meth c Z own bytes maxL ret n0 s₀ h k j pc' L (.int (x.toInt32) :: S) := by
  subst hp; exact G.step fun T locs X eT hx hb t q => XS.l2i X.here hx rfl (Jvm.hb hb hd) rfl  q
theorem Go.i2b {x : Int32} (G : Go p l e R s m args below meth c Z own bytes maxL ret n0 s₀ h k j pc L (.int x :: S)) (hd : decode bytes pc = .ok (.i2b, 1))  {pc' : Nat} (hp : pc + 1 = pc' := by rfl) : Go p l e R s m args below meth c Z own bytes maxL ret n0 s₀ h k j pc' L (.int (x.toInt8.toInt32) :: S) := by
  subst hp; exact G.step fun T locs X eT hx hb t q => XS.i2b X.here hx rfl (Jvm.hb hb hd) rfl  q
theorem Go.i2s {x : Int32} (G : Go p l e R s m args below meth c Z own bytes maxL ret n0 s₀ h k j pc L (.int x :: S)) (hd : decode bytes pc = .ok (.i2s, 1))  {pc' : Nat} (hp : pc + 1 = pc' := by rfl) : Go p l e R s m args below meth c Z own bytes maxL ret n0 s₀ h k j pc' L (.int (x.toInt16.toInt32) :: S) := by
  subst hp; exact G.step fun T locs X eT hx hb t q => XS.i2s X.here hx rfl (Jvm.hb hb hd) rfl  q
theorem Go.i2c {x : Int32} (G : Go p l e R s m args below meth c Z own bytes maxL ret n0 s₀ h k j pc L (.int x :: S)) (hd : decode bytes pc = .ok (.i2c, 1))  {pc' : Nat} (hp : pc + 1 = pc' := by rfl) : Go p l e R s m args below meth c Z own bytes maxL ret n0 s₀ h k j pc' L (.int (x.toUInt32.toUInt16.toUInt32.toInt32) :: S) := by
  subst hp; exact G.step fun T locs X eT hx hb t q => XS.i2c X.here hx rfl (Jvm.hb hb hd) rfl  q
theorem Go.lcmp {x y : Int64} (G : Go p l e R s m args below meth c Z own bytes maxL ret n0 s₀ h k j pc L (.long y :: .long x :: S)) (hd : decode bytes pc = .ok (.lcmp, 1))  {pc' : Nat} (hp : pc + 1 = pc' := by rfl) : Go p l e R s m args below meth c Z own bytes maxL ret n0 s₀ h k j pc' L (.int (Jvm.Free.XT.cmpL x y) :: S) := by
  subst hp; exact G.step fun T locs X eT hx hb t q => Jvm.Free.XT.lcmp X.here hx rfl (Jvm.hb hb hd) rfl  q
theorem Go.idiv {x y : Int32} (G : Go p l e R s m args below meth c Z own bytes maxL ret n0 s₀ h k j pc L (.int y :: .int x :: S)) (hd : decode bytes pc = .ok (.idiv, 1)) (hy : y ≠ 0) {pc' : Nat} (hp : pc + 1 = pc' := by rfl) : Go p l e R s m args below meth c Z own bytes maxL ret n0 s₀ h k j pc' L (.int (x / y) :: S) := by
  subst hp; exact G.step fun T locs X eT hx hb t q => XS.idiv X.here hx rfl (Jvm.hb hb hd) rfl hy q
theorem Go.irem {x y : Int32} (G : Go p l e R s m args below meth c Z own bytes maxL ret n0 s₀ h k j pc L (.int y :: .int x :: S)) (hd : decode bytes pc = .ok (.irem, 1)) (hy : y ≠ 0) {pc' : Nat} (hp : pc + 1 = pc' := by rfl) : Go p l e R s m args below meth c Z own bytes maxL ret n0 s₀ h k j pc' L (.int (x % y) :: S) := by
  subst hp; exact G.step fun T locs X eT hx hb t q => iremM X hx rfl (Jvm.hb hb hd) rfl hy q
theorem Go.lrem {x y : Int64} (G : Go p l e R s m args below meth c Z own bytes maxL ret n0 s₀ h k j pc L (.long y :: .long x :: S)) (hd : decode bytes pc = .ok (.lrem, 1)) (hy : y ≠ 0) {pc' : Nat} (hp : pc + 1 = pc' := by rfl) : Go p l e R s m args below meth c Z own bytes maxL ret n0 s₀ h k j pc' L (.long (x % y) :: S) := by
  subst hp; exact G.step fun T locs X eT hx hb t q => XS.lrem X.here hx rfl (Jvm.hb hb hd) rfl hy (by rw [lrem_mod]; exact q)
theorem Go.iconst {i : Int} (v : Int32) (G : Go p l e R s m args below meth c Z own bytes maxL ret n0 s₀ h k j pc L S) (hd : decode bytes pc = .ok (.iconst i, 1)) (hv : Int32.ofInt i = v := by decide) {pc' : Nat} (hp : pc + 1 = pc' := by rfl) : Go p l e R s m args below meth c Z own bytes maxL ret n0 s₀ h k j pc' L (.int v :: S) := by
  subst hp; exact G.step fun T locs X eT hx hb t q => Jvm.Free.XT.iconstV X.here hx rfl v (Jvm.hb hb hd) hv q
theorem Go.bipush {i : Int} (v : Int32) (G : Go p l e R s m args below meth c Z own bytes maxL ret n0 s₀ h k j pc L S) (hd : decode bytes pc = .ok (.bipush i, 2)) (hv : (Int8.ofInt i).toInt32 = v := by decide) {pc' : Nat} (hp : pc + 2 = pc' := by rfl) : Go p l e R s m args below meth c Z own bytes maxL ret n0 s₀ h k j pc' L (.int v :: S) := by
  subst hp; exact G.step fun T locs X eT hx hb t q => Jvm.Free.XT.bipushV X.here hx rfl v (Jvm.hb hb hd) hv q
theorem Go.sipush {i : Int} (v : Int32) (G : Go p l e R s m args below meth c Z own bytes maxL ret n0 s₀ h k j pc L S) (hd : decode bytes pc = .ok (.sipush i, 3)) (hv : (Int16.ofInt i).toInt32 = v := by decide) {pc' : Nat} (hp : pc + 3 = pc' := by rfl) : Go p l e R s m args below meth c Z own bytes maxL ret n0 s₀ h k j pc' L (.int v :: S) := by
  subst hp; exact G.step fun T locs X eT hx hb t q => Jvm.Free.XT.sipushV X.here hx rfl v (Jvm.hb hb hd) hv q
theorem Go.lconst {i : Fin 2} (v : Int64) (G : Go p l e R s m args below meth c Z own bytes maxL ret n0 s₀ h k j pc L S) (hd : decode bytes pc = .ok (.lconst i, 1)) (hv : Int64.ofNat i = v := by decide) {pc' : Nat} (hp : pc + 1 = pc' := by rfl) : Go p l e R s m args below meth c Z own bytes maxL ret n0 s₀ h k j pc' L (.long v :: S) := by
  subst hp; exact G.step fun T locs X eT hx hb t q => Jvm.Free.XT.lconstV X.here hx rfl v (Jvm.hb hb hd) hv q
theorem Go.aconstNull (G : Go p l e R s m args below meth c Z own bytes maxL ret n0 s₀ h k j pc L S) (hd : decode bytes pc = .ok (.aconst_null, 1)) {pc' : Nat} (hp : pc + 1 = pc' := by rfl) : Go p l e R s m args below meth c Z own bytes maxL ret n0 s₀ h k j pc' L (.null :: S) := by
  subst hp; exact G.step fun T locs X eT hx hb t q => XS.aconstNull X.here hx rfl (Jvm.hb hb hd) q
theorem Go.ldc {i : Nat} {v : Int32} (G : Go p l e R s m args below meth c Z own bytes maxL ret n0 s₀ h k j pc L S) (w : (Cond.constant own i v).before a0 Z = true) (hd : decode bytes pc = .ok (.ldc i, 2)) {pc' : Nat} (hp : pc + 2 = pc' := by rfl) : Go p l e R s m args below meth c Z own bytes maxL ret n0 s₀ h k j pc' L (.int v :: S) := by
  subst hp
  obtain ⟨⟨hx, hb, hm, hZ, ho, r⟩, T, locs, X, eT, N, st⟩ := G
  exact ⟨⟨hx, hb, hm, hZ, ho, r⟩, T, locs, X, eT, N, fun t q => st t (X.ldcInt hx ho (mvT hZ w) (g := mkF m pc L S) rfl (Jvm.hb hb hd) t q)⟩
theorem Go.ldc2 {i : Nat} {v : Int64} (G : Go p l e R s m args below meth c Z own bytes maxL ret n0 s₀ h k j pc L S) (w : (Cond.constantLong own i v).before a0 Z = true) (hd : decode bytes pc = .ok (.ldc2_w i, 3)) {pc' : Nat} (hp : pc + 3 = pc' := by rfl) : Go p l e R s m args below meth c Z own bytes maxL ret n0 s₀ h k j pc' L (.long v :: S) := by
  subst hp
  obtain ⟨⟨hx, hb, hm, hZ, ho, r⟩, T, locs, X, eT, N, st⟩ := G
  exact ⟨⟨hx, hb, hm, hZ, ho, r⟩, T, locs, X, eT, N, fun t q => st t (X.ldc2Long hx ho (mvT hZ w) (g := mkF m pc L S) rfl (Jvm.hb hb hd) t q)⟩
theorem Go.iloadN {i : Fin 4} {v : Int32} (G : Go p l e R s m args below meth c Z own bytes maxL ret n0 s₀ h k j pc L S) (hd : decode bytes pc = .ok (.iload_n i, 1)) (hl : L[i.val]? = some (.val (.int v))) {pc' : Nat} (hp : pc + 1 = pc' := by rfl) : Go p l e R s m args below meth c Z own bytes maxL ret n0 s₀ h k j pc' L (.int v :: S) := by
  subst hp; exact G.step fun T locs X eT hx hb t q => XS.iloadN X.here hx rfl (Jvm.hb hb hd) hl q
theorem Go.iload {i : Nat} {v : Int32} (G : Go p l e R s m args below meth c Z own bytes maxL ret n0 s₀ h k j pc L S) (hd : decode bytes pc = .ok (.iload i, 2)) (hl : L[i]? = some (.val (.int v))) {pc' : Nat} (hp : pc + 2 = pc' := by rfl) : Go p l e R s m args below meth c Z own bytes maxL ret n0 s₀ h k j pc' L (.int v :: S) := by
  subst hp; exact G.step fun T locs X eT hx hb t q => XS.iload X.here hx rfl (Jvm.hb hb hd) hl q
theorem Go.lloadN {i : Fin 4} {v : Int64} (G : Go p l e R s m args below meth c Z own bytes maxL ret n0 s₀ h k j pc L S) (hd : decode bytes pc = .ok (.lload_n i, 1)) (hl : L[i.val]? = some (.val (.long v))) {pc' : Nat} (hp : pc + 1 = pc' := by rfl) : Go p l e R s m args below meth c Z own bytes maxL ret n0 s₀ h k j pc' L (.long v :: S) := by
  subst hp; exact G.step fun T locs X eT hx hb t q => XS.lloadN X.here hx rfl (Jvm.hb hb hd) hl q
theorem Go.lload {i : Nat} {v : Int64} (G : Go p l e R s m args below meth c Z own bytes maxL ret n0 s₀ h k j pc L S) (hd : decode bytes pc = .ok (.lload i, 2)) (hl : L[i]? = some (.val (.long v))) {pc' : Nat} (hp : pc + 2 = pc' := by rfl) : Go p l e R s m args below meth c Z own bytes maxL ret n0 s₀ h k j pc' L (.long v :: S) := by
  subst hp; exact G.step fun T locs X eT hx hb t q => XS.lload X.here hx rfl (Jvm.hb hb hd) hl q
theorem Go.aloadN {i : Fin 4} {v : Value} (G : Go p l e R s m args below meth c Z own bytes maxL ret n0 s₀ h k j pc L S) (hd : decode bytes pc = .ok (.aload_n i, 1)) (hl : L[i.val]? = some (.val v)) (hv : v.isRef = true := by rfl) {pc' : Nat} (hp : pc + 1 = pc' := by rfl) : Go p l e R s m args below meth c Z own bytes maxL ret n0 s₀ h k j pc' L (v :: S) := by
  subst hp; exact G.step fun T locs X eT hx hb t q => XS.aloadN X.here hx rfl (Jvm.hb hb hd) hl hv q
theorem Go.aload {i : Nat} {v : Value} (G : Go p l e R s m args below meth c Z own bytes maxL ret n0 s₀ h k j pc L S) (hd : decode bytes pc = .ok (.aload i, 2)) (hl : L[i]? = some (.val v)) (hv : v.isRef = true := by rfl) {pc' : Nat} (hp : pc + 2 = pc' := by rfl) : Go p l e R s m args below meth c Z own bytes maxL ret n0 s₀ h k j pc' L (v :: S) := by
  subst hp; exact G.step fun T locs X eT hx hb t q => XS.aload X.here hx rfl (Jvm.hb hb hd) hl hv q
theorem Go.istoreN {i : Fin 4} {x : Int32} {L' : Array Slot} (G : Go p l e R s m args below meth c Z own bytes maxL ret n0 s₀ h k j pc L (.int x :: S)) (hd : decode bytes pc = .ok (.istore_n i, 1)) (hl : storeLocals L i.val (.int x) = some L') {pc' : Nat} (hp : pc + 1 = pc' := by rfl) : Go p l e R s m args below meth c Z own bytes maxL ret n0 s₀ h k j pc' L' S := by
  subst hp; exact G.step fun T locs X eT hx hb t q => XS.istoreN X.here hx rfl (Jvm.hb hb hd) rfl hl q
theorem Go.istore {i : Nat} {x : Int32} {L' : Array Slot} (G : Go p l e R s m args below meth c Z own bytes maxL ret n0 s₀ h k j pc L (.int x :: S)) (hd : decode bytes pc = .ok (.istore i, 2)) (hl : storeLocals L i (.int x) = some L') {pc' : Nat} (hp : pc + 2 = pc' := by rfl) : Go p l e R s m args below meth c Z own bytes maxL ret n0 s₀ h k j pc' L' S := by
  subst hp; exact G.step fun T locs X eT hx hb t q => XS.istore X.here hx rfl (Jvm.hb hb hd) rfl hl q
theorem Go.lstoreN {i : Fin 4} {x : Int64} {L' : Array Slot} (G : Go p l e R s m args below meth c Z own bytes maxL ret n0 s₀ h k j pc L (.long x :: S)) (hd : decode bytes pc = .ok (.lstore_n i, 1)) (hl : storeLocals L i.val (.long x) = some L') {pc' : Nat} (hp : pc + 1 = pc' := by rfl) : Go p l e R s m args below meth c Z own bytes maxL ret n0 s₀ h k j pc' L' S := by
  subst hp; exact G.step fun T locs X eT hx hb t q => XS.lstoreN X.here hx rfl (Jvm.hb hb hd) rfl hl q
theorem Go.lstore {i : Nat} {x : Int64} {L' : Array Slot} (G : Go p l e R s m args below meth c Z own bytes maxL ret n0 s₀ h k j pc L (.long x :: S)) (hd : decode bytes pc = .ok (.lstore i, 2)) (hl : storeLocals L i (.long x) = some L') {pc' : Nat} (hp : pc + 2 = pc' := by rfl) : Go p l e R s m args below meth c Z own bytes maxL ret n0 s₀ h k j pc' L' S := by
  subst hp; exact G.step fun T locs X eT hx hb t q => XS.lstore X.here hx rfl (Jvm.hb hb hd) rfl hl q
theorem Go.astoreN {i : Fin 4} {x : Value} {L' : Array Slot} (G : Go p l e R s m args below meth c Z own bytes maxL ret n0 s₀ h k j pc L (x :: S)) (hd : decode bytes pc = .ok (.astore_n i, 1)) (hl : storeLocals L i.val x = some L') (hv : x.isRef = true := by rfl) {pc' : Nat} (hp : pc + 1 = pc' := by rfl) : Go p l e R s m args below meth c Z own bytes maxL ret n0 s₀ h k j pc' L' S := by
  subst hp; exact G.step fun T locs X eT hx hb t q => XS.astoreN X.here hx rfl (Jvm.hb hb hd) rfl hv hl q
theorem Go.astore {i : Nat} {x : Value} {L' : Array Slot} (G : Go p l e R s m args below meth c Z own bytes maxL ret n0 s₀ h k j pc L (x :: S)) (hd : decode bytes pc = .ok (.astore i, 2)) (hl : storeLocals L i x = some L') (hv : x.isRef = true := by rfl) {pc' : Nat} (hp : pc + 2 = pc' := by rfl) : Go p l e R s m args below meth c Z own bytes maxL ret n0 s₀ h k j pc' L' S := by
  subst hp; exact G.step fun T locs X eT hx hb t q => XS.astore X.here hx rfl (Jvm.hb hb hd) rfl hv hl q
theorem Go.iinc {i : Nat} {cst : Int} {x : Int32} {L' : Array Slot} (v : Int32) (G : Go p l e R s m args below meth c Z own bytes maxL ret n0 s₀ h k j pc L S) (hd : decode bytes pc = .ok (.iinc i cst, 3)) (hl : L[i]? = some (.val (.int x))) (hl' : storeLocals L i (.int (x + v)) = some L') (hv : Int32.ofInt cst = v := by decide) {pc' : Nat} (hp : pc + 3 = pc' := by rfl) : Go p l e R s m args below meth c Z own bytes maxL ret n0 s₀ h k j pc' L' S := by
  subst hp; exact G.step fun T locs X eT hx hb t q => Jvm.Free.XT.iincV X.here hx rfl v (Jvm.hb hb hd) hv hl hl' q
theorem Go.dup {x : Value} (G : Go p l e R s m args below meth c Z own bytes maxL ret n0 s₀ h k j pc L (x :: S)) (hd : decode bytes pc = .ok (.dup, 1)) (hc : x.category = 1 := by rfl) {pc' : Nat} (hp : pc + 1 = pc' := by rfl) : Go p l e R s m args below meth c Z own bytes maxL ret n0 s₀ h k j pc' L (x :: x :: S) := by
  subst hp; exact G.step fun T locs X eT hx hb t q => XS.dup X.here hx rfl (Jvm.hb hb hd) rfl hc q
theorem Go.pop {x : Value} (G : Go p l e R s m args below meth c Z own bytes maxL ret n0 s₀ h k j pc L (x :: S)) (hd : decode bytes pc = .ok (.pop, 1)) (hc : x.category = 1 := by rfl) {pc' : Nat} (hp : pc + 1 = pc' := by rfl) : Go p l e R s m args below meth c Z own bytes maxL ret n0 s₀ h k j pc' L S := by
  subst hp; exact G.step fun T locs X eT hx hb t q => XS.pop X.here hx rfl (Jvm.hb hb hd) rfl hc q
theorem Go.dupX1 {x y : Value} (G : Go p l e R s m args below meth c Z own bytes maxL ret n0 s₀ h k j pc L (x :: y :: S)) (hd : decode bytes pc = .ok (.dup_x1, 1)) (hc : x.category = 1 := by rfl) (hc2 : y.category = 1 := by rfl) {pc' : Nat} (hp : pc + 1 = pc' := by rfl) : Go p l e R s m args below meth c Z own bytes maxL ret n0 s₀ h k j pc' L (x :: y :: x :: S) := by
  subst hp; exact G.step fun T locs X eT hx hb t q => XS.dupX1 X.here hx rfl (Jvm.hb hb hd) rfl hc hc2 q
theorem Go.dup2 {x y : Value} (G : Go p l e R s m args below meth c Z own bytes maxL ret n0 s₀ h k j pc L (x :: y :: S)) (hd : decode bytes pc = .ok (.dup2, 1)) (hc : x.category = 1 := by rfl) (hc2 : y.category = 1 := by rfl) {pc' : Nat} (hp : pc + 1 = pc' := by rfl) : Go p l e R s m args below meth c Z own bytes maxL ret n0 s₀ h k j pc' L (x :: y :: x :: y :: S) := by
  subst hp; exact G.step fun T locs X eT hx hb t q => Jvm.Free.XT.dup2 X.here hx rfl (Jvm.hb hb hd) rfl hc hc2 q
theorem Go.goto {o : Int} (G : Go p l e R s m args below meth c Z own bytes maxL ret n0 s₀ h k j pc L S) (hd : decode bytes pc = .ok (.goto o, 3)) (pc' : Nat) (ho : 0 ≤ (pc : Int) + o := by decide) (hp : ((pc : Int) + o).toNat = pc' := by decide) : Go p l e R s m args below meth c Z own bytes maxL ret n0 s₀ h k j pc' L S := by
  exact G.step fun T locs X eT hx hb t q => XS.goto X.here hx rfl (pc0 := pc) (pc' := pc') rfl (Jvm.hb hb hd) ho hp q
theorem Go.ifY {cd : ClassFile.Cond} {o : Int} {x : Int32} (G : Go p l e R s m args below meth c Z own bytes maxL ret n0 s₀ h k j pc L (.int x :: S)) (hd : decode bytes pc = .ok (.ifCond cd o, 3)) (pc' : Nat) (hc : ifCond.holds cd x = true) (ho : 0 ≤ (pc : Int) + o := by decide) (hp : ((pc : Int) + o).toNat = pc' := by decide) : Go p l e R s m args below meth c Z own bytes maxL ret n0 s₀ h k j pc' L S := by
  exact G.step fun T locs X eT hx hb t q => XS.ifYes X.here hx rfl (pc0 := pc) (pc' := pc') rfl (Jvm.hb hb hd) rfl hc ho hp q
theorem Go.ifN {cd : ClassFile.Cond} {o : Int} {x : Int32} (G : Go p l e R s m args below meth c Z own bytes maxL ret n0 s₀ h k j pc L (.int x :: S)) (hd : decode bytes pc = .ok (.ifCond cd o, 3)) (pc' : Nat) (hc : ifCond.holds cd x = false) (hp : pc + 3 = pc' := by rfl) : Go p l e R s m args below meth c Z own bytes maxL ret n0 s₀ h k j pc' L S := by
  subst hp; exact G.step fun T locs X eT hx hb t q => XS.ifNo X.here hx rfl (Jvm.hb hb hd) rfl hc q
theorem Go.icmpY {cd : ClassFile.Cond} {o : Int} {x y : Int32} (G : Go p l e R s m args below meth c Z own bytes maxL ret n0 s₀ h k j pc L (.int y :: .int x :: S)) (hd : decode bytes pc = .ok (.if_icmp cd o, 3)) (pc' : Nat) (hc : if_icmp.holds cd x y = true) (ho : 0 ≤ (pc : Int) + o := by decide) (hp : ((pc : Int) + o).toNat = pc' := by decide) : Go p l e R s m args below meth c Z own bytes maxL ret n0 s₀ h k j pc' L S := by
  exact G.step fun T locs X eT hx hb t q => XS.icmpYes X.here hx rfl (pc0 := pc) (pc' := pc') rfl (Jvm.hb hb hd) rfl hc ho hp q
theorem Go.icmpN {cd : ClassFile.Cond} {o : Int} {x y : Int32} (G : Go p l e R s m args below meth c Z own bytes maxL ret n0 s₀ h k j pc L (.int y :: .int x :: S)) (hd : decode bytes pc = .ok (.if_icmp cd o, 3)) (pc' : Nat) (hc : if_icmp.holds cd x y = false) (hp : pc + 3 = pc' := by rfl) : Go p l e R s m args below meth c Z own bytes maxL ret n0 s₀ h k j pc' L S := by
  subst hp; exact G.step fun T locs X eT hx hb t q => XS.icmpNo X.here hx rfl (Jvm.hb hb hd) rfl hc q
theorem Go.ifnullY {o : Int} (G : Go p l e R s m args below meth c Z own bytes maxL ret n0 s₀ h k j pc L (.null :: S)) (hd : decode bytes pc = .ok (.ifnull o, 3)) (pc' : Nat) (ho : 0 ≤ (pc : Int) + o := by decide) (hp : ((pc : Int) + o).toNat = pc' := by decide) : Go p l e R s m args below meth c Z own bytes maxL ret n0 s₀ h k j pc' L S := by
  exact G.step fun T locs X eT hx hb t q => XS.ifnullYes X.here hx rfl (pc0 := pc) (pc' := pc') rfl (Jvm.hb hb hd) rfl ho hp q
theorem Go.ifnullN {o : Int} {b : Addr} (G : Go p l e R s m args below meth c Z own bytes maxL ret n0 s₀ h k j pc L (.ref b :: S)) (hd : decode bytes pc = .ok (.ifnull o, 3)) (pc' : Nat) (hp : pc + 3 = pc' := by rfl) : Go p l e R s m args below meth c Z own bytes maxL ret n0 s₀ h k j pc' L S := by
  subst hp; exact G.step fun T locs X eT hx hb t q => XS.ifnullNo X.here hx rfl (Jvm.hb hb hd) rfl q
theorem Go.ifnonnullY {o : Int} {b : Addr} (G : Go p l e R s m args below meth c Z own bytes maxL ret n0 s₀ h k j pc L (.ref b :: S)) (hd : decode bytes pc = .ok (.ifnonnull o, 3)) (pc' : Nat) (ho : 0 ≤ (pc : Int) + o := by decide) (hp : ((pc : Int) + o).toNat = pc' := by decide) : Go p l e R s m args below meth c Z own bytes maxL ret n0 s₀ h k j pc' L S := by
  exact G.step fun T locs X eT hx hb t q => XS.ifnonnullYes X.here hx rfl (pc0 := pc) (pc' := pc') rfl (Jvm.hb hb hd) rfl ho hp q
theorem Go.ifnonnullN {o : Int} (G : Go p l e R s m args below meth c Z own bytes maxL ret n0 s₀ h k j pc L (.null :: S)) (hd : decode bytes pc = .ok (.ifnonnull o, 3)) (pc' : Nat) (hp : pc + 3 = pc' := by rfl) : Go p l e R s m args below meth c Z own bytes maxL ret n0 s₀ h k j pc' L S := by
  subst hp; exact G.step fun T locs X eT hx hb t q => XS.ifnonnullNo X.here hx rfl (Jvm.hb hb hd) rfl q
theorem Go.out {w : Value} {t : FieldType} {i : Instr} {kc js : Nat} {Q : Option Value → Heap → Prop} (G : Go p l e R s m args below meth c Z own bytes maxL ret n0 s₀ h k j pc L (w :: S)) (hr : ret = some t) (hn : narrow t w = w)
    (hi : (i = .ireturn ∧ (t = .int ∨ t = .boolean ∨ t = .byte ∨ t = .char ∨ t = .short) ∧ ∃ z, w = .int z) ∨ (i = .lreturn ∧ t = .long ∧ ∃ z, w = .long z) ∨ (i = .dreturn ∧ t = .double ∧ ∃ z, w = .double z) ∨ (i = .freturn ∧ t = .float ∧ ∃ z, w = .float z) ∨ (i = .areturn ∧ t.isReference = true ∧ w.isRef = true))
    (hd : decode bytes pc = .ok (i, 1)) (hQ : Q (some w) h) (hk : k ≤ kc) (hj : j ≤ js) : Fini p e below s s₀ n0 kc js Q := by
  obtain ⟨⟨hx, hb, hm, hZ, ho, hret, hlk, hn0⟩, T, locs, X, eT, N, st⟩ := G
  subst hr
  obtain ⟨fs, hr, hrun, hended, hW, hsame⟩ := X.leave (v := some w) (fun h => by rw [hret] at h; cases h) hlk
  exact ⟨_, _, st _ (retOut X hx hret hn hi (Jvm.hb hb hd) hr), hrun, hended, _, _, rfl, ⟨by show Q _ T.heap; rw [eT]; exact hQ, N⟩, ⟨_, rfl⟩, hW, hsame.mono hk hj⟩
theorem Go.retI {z : Int32} {kc js : Nat} {Q : Option Value → Heap → Prop} (G : Go p l e R s m args below meth c Z own bytes maxL ret n0 s₀ h k j pc L (.int z :: S)) (hd : decode bytes pc = .ok (.ireturn, 1)) (hr : ret = some .int) (hQ : Q (some (.int z)) h) (hk : k ≤ kc := by decide) (hj : j ≤ js := by decide) : Fini p e below s s₀ n0 kc js Q :=
  G.out hr rfl (Or.inl ⟨rfl, Or.inl rfl, z, rfl⟩) hd hQ hk hj
theorem Go.retS {z : Int32} {t : FieldType} {kc js : Nat} {Q : Option Value → Heap → Prop} (G : Go p l e R s m args below meth c Z own bytes maxL ret n0 s₀ h k j pc L (.int z :: S)) (hd : decode bytes pc = .ok (.ireturn, 1)) (hr : ret = some t) (ht : t = .int ∨ t = .boolean ∨ t = .byte ∨ t = .char ∨ t = .short) (hn : narrow t (.int z) = .int z) (hQ : Q (some (.int z)) h) (hk : k ≤ kc := by decide) (hj : j ≤ js := by decide) : Fini p e below s s₀ n0 kc js Q :=
  G.out hr hn (Or.inl ⟨rfl, ht, z, rfl⟩) hd hQ hk hj
theorem Go.retZ {z : Int32} {kc js : Nat} {Q : Option Value → Heap → Prop} (G : Go p l e R s m args below meth c Z own bytes maxL ret n0 s₀ h k j pc L (.int z :: S)) (hd : decode bytes pc = .ok (.ireturn, 1)) (hr : ret = some .boolean) (hn : z = 0 ∨ z = 1) (hQ : Q (some (.int z)) h) (hk : k ≤ kc := by decide) (hj : j ≤ js := by decide) : Fini p e below s s₀ n0 kc js Q :=
  G.out hr (by rcases hn with rfl | rfl <;> rfl) (Or.inl ⟨rfl, Or.inr (Or.inl rfl), z, rfl⟩) hd hQ hk hj
theorem Go.retJ {z : Int64} {kc js : Nat} {Q : Option Value → Heap → Prop} (G : Go p l e R s m args below meth c Z own bytes maxL ret n0 s₀ h k j pc L (.long z :: S)) (hd : decode bytes pc = .ok (.lreturn, 1)) (hr : ret = some .long) (hQ : Q (some (.long z)) h) (hk : k ≤ kc := by decide) (hj : j ≤ js := by decide) : Fini p e below s s₀ n0 kc js Q :=
  G.out hr rfl (Or.inr (Or.inl ⟨rfl, rfl, z, rfl⟩)) hd hQ hk hj
theorem Go.retA {a : Addr} {t : FieldType} {kc js : Nat} {Q : Option Value → Heap → Prop} (G : Go p l e R s m args below meth c Z own bytes maxL ret n0 s₀ h k j pc L (.ref a :: S)) (hd : decode bytes pc = .ok (.areturn, 1)) (hr : ret = some t) (ht : t.isReference = true) (hn : narrow t (.ref a) = .ref a) (hQ : Q (some (.ref a)) h) (hk : k ≤ kc := by decide) (hj : j ≤ js := by decide) : Fini p e below s s₀ n0 kc js Q :=
  G.out hr hn (Or.inr (Or.inr (Or.inr (Or.inr ⟨rfl, ht, rfl⟩)))) hd hQ hk hj
theorem Go.retV {kc js : Nat} {Q : Option Value → Heap → Prop} (G : Go p l e R s m args below meth c Z own bytes maxL ret n0 s₀ h k j pc L []) (hd : decode bytes pc = .ok (.return_, 1)) (hr : ret = none) (hQ : Q none h) (hk : k ≤ kc := by decide) (hj : j ≤ js := by decide) : Fini p e below s s₀ n0 kc js Q := by
  obtain ⟨⟨hx, hb, hm, hZ, ho, hret, hlk, hn0⟩, T, locs, X, eT, N, st⟩ := G
  subst hr
  obtain ⟨fs, hr, hrun, hended, hW, hsame⟩ := X.leave (v := none) (fun _ => rfl) hlk
  exact ⟨_, _, st _ (X.returnOut hx hret (Jvm.hb hb hd) hr), hrun, hended, _, _, rfl, ⟨by show Q _ T.heap; rw [eT]; exact hQ, N⟩, ⟨_, rfl⟩, hW, hsame.mono hk hj⟩
theorem Go.callS {S0 argsL rest : List Value} {y : MethodName} {bytes' : ByteArray} {maxL' : Nat} {ret' r : Option FieldType} {ps : List FieldType} {rm : Room} {index : Nat} {Q : Option Value → Heap → Prop} (G : Go p l e R s m args below meth c Z own bytes maxL ret n0 s₀ h k j pc L S0) (C : Con l y bytes' maxL' ret' [] rm rm.cells rm.slots Z argsL.toArray h n0 Q) (hS : S0 = argsL.reverse ++ rest)
    (w1 : (Cond.methodLink own index y).before a0 Z = true) (w2 : (Cond.static y).before a0 Z = true) (w3 : (Cond.initialized y.cls).before a0 Z = true) (w4 : (Cond.code y bytes' maxL' ret').before a0 Z = true) (hy : y.cls ≠ "java/lang/invoke/MethodHandle" ∧ y.cls ≠ "java/lang/invoke/VarHandle")
    (hd : decode bytes pc = .ok (.invokestatic index, 3)) (hpd : parseMethodDescriptor y.desc = some ⟨ps, r⟩) (hl : argsL.length = ps.length) {W : Nat} (hW : (rest.map fun v => v.category).sum = W) (hL : L.size = maxL) (hf : rm.frames + 1 ≤ R.frames) (hlo : W + (maxL' + 11) + rm.locals ≤ R.locals) (hc : k + rm.cells ≤ R.cells) (hs : j + rm.slots ≤ R.slots) {pc' k' j' : Nat} (hp : pc + 3 = pc') (hk' : k + rm.cells = k') (hj' : j + rm.slots = j') :
    ∃ v h', Q v h' ∧ ∀ S', v.toList ++ rest = S' → Go p l e R s m args below meth c Z own bytes maxL ret n0 s₀ h' k' j' pc' L S' := by
  subst hp hk' hj' hS
  obtain ⟨⟨hx, hb, hm, hZ, ho, hret, hlk, hn0⟩, T, locs, X, eT, N, st⟩ := G
  obtain ⟨v, _, ⟨T', L', k', n'⟩, -, X', ⟨Lc, hQ, l', y', z'⟩, st'⟩ := Jvm.LawKit.callS X hx (y := y) ho (mvT hZ w1) (mvT hZ w2) (mvT hZ w3) (mvT hZ w4) hy (backOf (W := W) (R := R) (rm := rm) (Q := fun v h L => Q v h ∧ Fr n0 L) C hZ w4 w3 hf hlo) (g := mkF m pc L (argsL.reverse ++ rest)) rfl (by rw [hm]; exact hL) (argsL := argsL) (rest := rest) (lenOf hpd hl) rfl (by show 2 * 0 + _ ≤ _; omega) (Jvm.hb hb hd) (fun _ _ => ⟨rfl, eT, hc, hs⟩)
  dsimp only [Pt.U, Pt.locs, Pt.cells, Pt.slots] at X' l' y' z' st' hQ
  subst l' y' z'
  refine ⟨v, T'.heap, hQ.1, fun S' e => ?_⟩
  subst e
  exact ⟨⟨hx, hb, hm, hZ, ho, hret, hlk, hn0⟩, T', _, X', rfl, Fr.app N hQ.2, fun t q => st t (st' t q)⟩
theorem Go.callI {S0 argsL rest : List Value} {y : MethodName} {bytes' : ByteArray} {maxL' : Nat} {r : Option FieldType} {ps : List FieldType} {rm : Room} {index : Nat} {Q : Option Value → Heap → Prop} {a : Addr} (G : Go p l e R s m args below meth c Z own bytes maxL ret n0 s₀ h k j pc L S0) (C : Con l y bytes' maxL' none [] rm rm.cells rm.slots Z (.ref a :: argsL).toArray h n0 Q) (hS : S0 = argsL.reverse ++ .ref a :: rest) (hyn : y.name = "<init>")
    (w1 : (Cond.methodLink own index y).before a0 Z = true) (w2 : (Cond.instanceMethod y).before a0 Z = true) (w3 : (Cond.initialized y.cls).before a0 Z = true) (w4 : (Cond.code y bytes' maxL' none).before a0 Z = true) (hy : y.cls ≠ "java/lang/invoke/MethodHandle" ∧ y.cls ≠ "java/lang/invoke/VarHandle")
    (hd : decode bytes pc = .ok (.invokespecial index, 3)) (hpd : parseMethodDescriptor y.desc = some ⟨ps, r⟩) (hl : argsL.length = ps.length) {W : Nat} (hW : (rest.map fun v => v.category).sum = W) (hL : L.size = maxL) (hf : rm.frames + 1 ≤ R.frames) (hlo : W + (maxL' + 11) + rm.locals ≤ R.locals) (hc : k + rm.cells ≤ R.cells) (hs : j + rm.slots ≤ R.slots) {pc' k' j' : Nat} (hp : pc + 3 = pc') (hk' : k + rm.cells = k') (hj' : j + rm.slots = j') :
    ∃ v h', Q v h' ∧ ∀ S', v.toList ++ rest = S' → Go p l e R s m args below meth c Z own bytes maxL ret n0 s₀ h' k' j' pc' L S' := by
  subst hp hk' hj' hS
  obtain ⟨⟨hx, hb, hm, hZ, ho, hret, hlk, hn0⟩, T, locs, X, eT, N, st⟩ := G
  obtain ⟨v, _, ⟨T', L', k', n'⟩, -, X', ⟨Lc, hQ, l', y', z'⟩, st'⟩ := X.specialBack hx (y := y) hyn ho (mvT hZ w1) (mvT hZ w2) (mvT hZ w4) hy (backOf (W := W) (R := R) (rm := rm) (Q := fun v h L => Q v h ∧ Fr n0 L) C hZ w4 w3 hf hlo) (g := mkF m pc L (argsL.reverse ++ .ref a :: rest)) rfl (by rw [hm]; exact hL) (Steps.refl _) (a := a) (argsL := argsL) (rest := rest) (lenOf hpd hl) rfl (by show 2 * 0 + _ ≤ _; omega) (Jvm.hb hb hd) (fun _ _ => ⟨rfl, eT, hc, hs⟩)
  dsimp only [Pt.U, Pt.locs, Pt.cells, Pt.slots] at X' l' y' z' st' hQ
  subst l' y' z'
  refine ⟨v, T'.heap, hQ.1, fun S' e => ?_⟩
  subst e
  exact ⟨⟨hx, hb, hm, hZ, ho, hret, hlk, hn0⟩, T', _, X', rfl, Fr.app N hQ.2, fun t q => st t (st'.trans q)⟩
theorem Go.callV {S0 argsL rest : List Value} {y : MethodName} {bytes' : ByteArray} {maxL' : Nat} {ret' r : Option FieldType} {ps : List FieldType} {rm : Room} {index : Nat} {Q : Option Value → Heap → Prop} {a : Addr} {K : String} (G : Go p l e R s m args below meth c Z own bytes maxL ret n0 s₀ h k j pc L S0) (C : Con l y bytes' maxL' ret' [] rm rm.cells rm.slots Z (.ref a :: argsL).toArray h n0 Q) (hS : S0 = argsL.reverse ++ .ref a :: rest) (E : Exa Z h a K)
    (w1 : (Cond.methodLink own index y).before a0 Z = true) (w1' : (Cond.declares y).before a0 Z = true) (w1'' : (Cond.selects K y y).before a0 Z = true) (w2 : (Cond.instanceMethod y).before a0 Z = true) (w3 : (Cond.initialized y.cls).before a0 Z = true) (w4 : (Cond.code y bytes' maxL' ret').before a0 Z = true) (hy : y.cls ≠ "java/lang/invoke/MethodHandle" ∧ y.cls ≠ "java/lang/invoke/VarHandle")
    (hd : decode bytes pc = .ok (.invokevirtual index, 3)) (hpd : parseMethodDescriptor y.desc = some ⟨ps, r⟩) (hl : argsL.length = ps.length) {W : Nat} (hW : (rest.map fun v => v.category).sum = W) (hL : L.size = maxL) (hf : rm.frames + 1 ≤ R.frames) (hlo : W + (maxL' + 11) + rm.locals ≤ R.locals) (hc : k + rm.cells ≤ R.cells) (hs : j + rm.slots ≤ R.slots) {pc' k' j' : Nat} (hp : pc + 3 = pc') (hk' : k + rm.cells = k') (hj' : j + rm.slots = j') :
    ∃ v h', Q v h' ∧ ∀ S', v.toList ++ rest = S' → Go p l e R s m args below meth c Z own bytes maxL ret n0 s₀ h' k' j' pc' L S' := by
  subst hp hk' hj' hS
  obtain ⟨⟨hx, hb, hm, hZ, ho, hret, hlk, hn0⟩, T, locs, X, eT, N, st⟩ := G
  obtain ⟨cq, kq, q1, q2, q3⟩ := isOf hZ eT E
  obtain ⟨v, _, ⟨T', L', k', n'⟩, -, X', ⟨Lc, hQ, l', y', z'⟩, st'⟩ := X.virtualBack hx (y := y) (z := y) ho (mvT hZ w1) (mvT hZ w1') (notFace_of_selects (args := #[]) (mvT hZ w1'')) (mvT hZ w1'') (mvT hZ w2) hy (backOf (W := W) (R := R) (rm := rm) (Q := fun v h L => Q v h ∧ Fr n0 L) C hZ w4 w3 hf hlo) q1 q3 (g := mkF m pc L (argsL.reverse ++ .ref a :: rest)) rfl (by rw [hm]; exact hL) (Steps.refl _) (argsL := argsL) (rest := rest) (lenOf hpd hl) rfl (by show 2 * 0 + _ ≤ _; omega) (Jvm.hb hb hd) (fun _ _ => ⟨rfl, eT, hc, hs⟩)
  dsimp only [Pt.U, Pt.locs, Pt.cells, Pt.slots] at X' l' y' z' st' hQ
  subst l' y' z'
  refine ⟨v, T'.heap, hQ.1, fun S' e => ?_⟩
  subst e
  exact ⟨⟨hx, hb, hm, hZ, ho, hret, hlk, hn0⟩, T', _, X', rfl, Fr.app N hQ.2, fun t q => st t (st'.trans q)⟩
theorem Go.initO {a : Addr} {index : Nat} (G : Go p l e R s m args below meth c Z own bytes maxL ret n0 s₀ h k j pc L (.ref a :: S)) (w1 : (Cond.methodLink own index Lib.objectInit).before a0 Z = true) (w2 : (Cond.instanceMethod Lib.objectInit).before a0 Z = true) (w3 : (Cond.code Lib.objectInit Jvm.LibCode.Object.Init0.code 1 none).before a0 Z = true) (hd : decode bytes pc = .ok (.invokespecial index, 3)) {W : Nat} (hW : (S.map fun v => v.category).sum = W) (hL : L.size = maxL) (hf : 1 ≤ R.frames) (hlo : W + 12 ≤ R.locals) {pc' : Nat} (hp : pc + 3 = pc' := by rfl) : Go p l e R s m args below meth c Z own bytes maxL ret n0 s₀ h k j pc' L S := by
  subst hp
  obtain ⟨⟨hx, hb, hm, hZ, ho, r⟩, T, locs, X, eT, N, st⟩ := G
  obtain ⟨T', X', e', st'⟩ := Jvm.RoadKit.initO X hx hZ ho w1 w2 w3 eT (g := mkF m pc L (.ref a :: S)) rfl (by rw [hm]; exact hL) rfl (Jvm.hb hb hd) hf (W := W) (by show 2 * 0 + _ ≤ _; omega) hlo
  exact ⟨⟨hx, hb, hm, hZ, ho, r⟩, T', locs, X', e', N, fun t q => st t (st' t q)⟩
theorem Go.newO {C : String} {index n : Nat} (G : Go p l e R s m args below meth c Z own bytes maxL ret n0 s₀ h k j pc L S) (w1 : (Cond.classLink own index C).before a0 Z = true) (w2 : (Cond.instantiable C n).before a0 Z = true) (w3 : (Cond.initialized C).before a0 Z = true) (hd : decode bytes pc = .ok (.new index, 3)) {pc' k' j' : Nat} (hp : pc + 3 = pc') (hk : k + 1 = k') (hj : j + n = j') (hc : k' ≤ R.cells) (hl : j' ≤ R.slots) :
    ∃ a h', a = h.size ∧ n0 ≤ a ∧ Ext h h' ∧ Exa Z h' a C ∧ (∀ {O nm d : String} {ty : FieldType}, Laid Z a0 C O nm d → parseFieldDescriptor d = some ty → Fld Z h' a O nm d (defaultValue ty)) ∧ Go p l e R s m args below meth c Z own bytes maxL ret n0 s₀ h' k' j' pc' L (.ref a :: S) := by
  have hsz := G.size
  subst hp hk hj
  obtain ⟨⟨hx, hb, hm, hZ, ho, r⟩, T, locs, X, eT, N, st⟩ := G
  obtain ⟨T2, h2, X2, e2, E2, A2, D2, -, st2⟩ := Jvm.RoadKit.newO X hx hZ ho w1 w2 w3 eT (g := mkF m pc L S) rfl (Jvm.hb hb hd) hc hl
  exact ⟨h.size, h2, rfl, hsz, E2, A2, D2, ⟨hx, hb, hm, hZ, ho, r⟩, T2, locs, X2, e2, N, fun t q => st t (st2 t q)⟩
theorem Go.getF {a : Addr} {R0 O n d host : String} {index : Nat} {v : Value} (G : Go p l e R s m args below meth c Z own bytes maxL ret n0 s₀ h k j pc L (.ref a :: S)) (w : (Cond.fieldLink own index R0 n d).before a0 Z = true ∨ (Cond.fieldLinkNest own index R0 n d host).before a0 Z = true) (via : Via Z R0 O n d) (F : Fld Z h a O n d v) (hd : decode bytes pc = .ok (.getfield index, 3)) {pc' : Nat} (hp : pc + 3 = pc' := by rfl) : Go p l e R s m args below meth c Z own bytes maxL ret n0 s₀ h k j pc' L (v :: S) := by
  subst hp
  obtain ⟨⟨hx, hb, hm, hZ, ho, r⟩, T, locs, X, eT, N, st⟩ := G
  obtain ⟨T', X', e', st'⟩ := Jvm.RoadKit.getF X hx hZ ho w via eT F (g := mkF m pc L (.ref a :: S)) rfl rfl (Jvm.hb hb hd)
  exact ⟨⟨hx, hb, hm, hZ, ho, r⟩, T', locs, X', e', N, fun t q => st t (st' t q)⟩
theorem Go.putF {a : Addr} {R0 O n d host C : String} {index kk : Nat} {ty : FieldType} {v old : Value} (G : Go p l e R s m args below meth c Z own bytes maxL ret n0 s₀ h k j pc L (v :: .ref a :: S)) (w : (Cond.fieldLink own index R0 n d).before a0 Z = true ∨ (Cond.fieldLinkNest own index R0 n d host).before a0 Z = true) (via : Via Z R0 O n d) (F : Fld Z h a O n d old) (E : Exa Z h a C) (ha : n0 ≤ a) (Ly : (Cond.lays C O n d).before a0 Z = true ∨ ((Cond.laysFinal C O n d).before a0 Z = true ∧ own = O ∧ meth.name = "<init>")) (wi : (Cond.instantiable C kk).before a0 Z = true) (hty : parseFieldDescriptor d = some ty) (hn : narrow ty v = v) (hf : fits ty v = true) (hd : decode bytes pc = .ok (.putfield index, 3)) {pc' : Nat} (hp : pc + 3 = pc' := by rfl) :
    ∃ h', Wr h h' a (Jvm.RoadKit.slotOf Z O n d) v ∧ Go p l e R s m args below meth c Z own bytes maxL ret n0 s₀ h' k j pc' L S := by
  subst hp
  obtain ⟨⟨hx, hb, hm, hZ, ho, r⟩, T, locs, X, eT, N, st⟩ := G
  obtain ⟨T', h', X', e', W', st'⟩ := Jvm.RoadKit.putF X hx hZ ho w via eT F E Ly wi hty hn hf (g := mkF m pc L (v :: .ref a :: S)) rfl rfl (Jvm.hb hb hd)
  exact ⟨h', W', ⟨hx, hb, hm, hZ, ho, r⟩, T', _, X', e', Fr.snoc X' N ha, fun t q => st t (st' t q)⟩
/-- an array of that kind whose places hold these values -/
def Av (Z : State) (h : Heap) (a : Addr) (ty : FieldType) (vs : List Value) : Prop := ∃ c : Cell, Arr Z h a c ty ∧ c.slots.toList = vs ∧ vs.length < 2 ^ 31 ∧ ∀ v ∈ vs, fits ty v = true
theorem Av.lt {a : Addr} {ty : FieldType} {vs : List Value} (A : Av Z h a ty vs) : a < h.size := by obtain ⟨c, A, -⟩ := A; exact A.lt
theorem Av.len {a : Addr} {ty : FieldType} {vs : List Value} (A : Av Z h a ty vs) : vs.length < 2 ^ 31 := by obtain ⟨c, _, _, q, _⟩ := A; exact q
theorem Av.fit {a : Addr} {ty : FieldType} {vs : List Value} (A : Av Z h a ty vs) : ∀ v ∈ vs, fits ty v = true := by obtain ⟨c, _, _, _, q⟩ := A; exact q
theorem Av.ext {h' : Heap} {a : Addr} {ty : FieldType} {vs : List Value} (A : Av Z h a ty vs) (E : Ext h h') : Av Z h' a ty vs := by obtain ⟨c, A, q⟩ := A; exact ⟨c, A.ext E, q⟩
theorem Av.other {h' : Heap} {a b : Addr} {sl : Nat} {v : Value} {ty : FieldType} {vs : List Value} (A : Av Z h b ty vs) (W : Wr h h' a sl v) (q : b ≠ a) : Av Z h' b ty vs := by obtain ⟨c, A, r⟩ := A; exact ⟨c, A.other W q, r⟩
theorem Av.keep {h' : Heap} {a : Addr} {ws : List Addr} {ty : FieldType} {vs : List Value} (A : Av Z h a ty vs) (K : Keep h h' ws) (q : a ∉ ws) : Av Z h' a ty vs := by obtain ⟨c, A, r⟩ := A; exact ⟨c, ⟨K.2.1 a c A.1 q, A.2⟩, r⟩
theorem Av.set {h' : Heap} {a : Addr} {i : Nat} {v : Value} {ty : FieldType} {vs : List Value} (A : Av Z h a ty vs) (W : Wr h h' a i v) (hf : fits ty v = true) : Av Z h' a ty (vs.set i v) := by
  obtain ⟨c, A, rfl, r, f⟩ := A
  exact ⟨c.setSlot i v, A.same W, by simp [Cell.setSlot], by simpa using r, fun x hx => (List.mem_or_eq_of_mem_set hx).elim (f x) fun q => q ▸ hf⟩
theorem idx_of {x : Int32} {i n : Nat} (hx : x.toInt = (i : Int)) (hi : i < n) : ¬ (x < 0 ∨ n ≤ x.toNatClampNeg) ∧ x.toNatClampNeg = i := by
  have e : x.toNatClampNeg = i := by show x.toInt.toNat = i; omega
  refine ⟨?_, e⟩
  rw [e, Int32.lt_iff_toInt_lt, hx]
  show ¬ (((i : Nat) : Int) < 0 ∨ n ≤ i)
  omega
theorem Go.newA {n : Int32} {aty : ArrayType} {ty : FieldType} {dv : Value} {N cap : Nat} (G : Go p l e R s m args below meth c Z own bytes maxL ret n0 s₀ h k j pc L (.int n :: S)) (w : (Cond.arrayClass ty).before a0 Z = true) (hd : decode bytes pc = .ok (.newarray aty, 2)) (hty : newarray.typeOf aty = ty) (hdv : defaultValue ty = dv) (hn : n.toInt = (N : Int)) (hN : N ≤ cap) (hb : cap * 8 ≤ 536870912) {pc' k' j' : Nat} (hp : pc + 2 = pc') (hk : k + 1 = k') (hj : j + cap = j') (hc : k' ≤ R.cells) (hl : j' ≤ R.slots) :
    ∃ a h', a = h.size ∧ n0 ≤ a ∧ Ext h h' ∧ Av Z h' a ty (List.replicate N dv) ∧ Go p l e R s m args below meth c Z own bytes maxL ret n0 s₀ h' k' j' pc' L (.ref a :: S) := by
  have hsz := G.size
  have e1 : n.toNatClampNeg = N := by show n.toInt.toNat = N; omega
  have e2 := n.toInt_lt
  subst hp hk hj hty hdv
  obtain ⟨⟨hx, hb', hm, hZ, ho, r⟩, T, locs, X, eT, N', st⟩ := G
  obtain ⟨T2, h2, cA, X2, e3, E2, A2, st2⟩ := Jvm.RoadKit.newP X hx hZ w eT (g := mkF m pc L (.int n :: S)) rfl (Jvm.hb hb' hd) rfl (by rw [Int32.lt_iff_toInt_lt, hn]; show ¬ ((N : Nat) : Int) < 0; omega) (cap := cap) (by rw [e1]; exact hN) hb hc hl
  exact ⟨h.size, h2, rfl, hsz, E2, ⟨_, A2, by rw [Jvm.RoadKit.newA, e1]; simp, by rw [List.length_replicate]; omega, fun v hv => by rw [List.eq_of_mem_replicate hv]; cases aty <;> rfl⟩, ⟨hx, hb', hm, hZ, ho, r⟩, T2, locs, X2, e3, N', fun t q => st t (st2 t q)⟩
theorem Go.stI {a : Addr} {x : Int32} {y : Int32} {i : Nat} {vs : List Value} (G : Go p l e R s m args below meth c Z own bytes maxL ret n0 s₀ h k j pc L (.int x :: .int y :: .ref a :: S)) (A : Av Z h a .int vs) (ha : n0 ≤ a) (hy : y.toInt = (i : Int)) (hi : i < vs.length) (hd : decode bytes pc = .ok (.iastore, 1)) {pc' : Nat} (hp : pc + 1 = pc' := by rfl) :
    ∃ h', Wr h h' a i (.int x) ∧ Av Z h' a .int (vs.set i (.int x)) ∧ Go p l e R s m args below meth c Z own bytes maxL ret n0 s₀ h' k j pc' L S := by
  have A0 := A
  obtain ⟨cl, Ar, rfl, hlen, -⟩ := A
  rw [Array.length_toList] at hi
  have ⟨i1, i2⟩ := idx_of hy hi
  subst hp
  obtain ⟨⟨hx, hb, hm, hZ, ho, r⟩, T, locs, X, eT, N, st⟩ := G
  obtain ⟨T', h', X', e', W', st'⟩ := Jvm.RoadKit.stI X hx hZ eT Ar i1 (g := mkF m pc L (.int x :: .int y :: .ref a :: S)) rfl rfl (Jvm.hb hb hd)
  have N' := Fr.snoc X' N ha
  rw [i2] at W'
  exact ⟨h', W', A0.set W' rfl, ⟨hx, hb, hm, hZ, ho, r⟩, T', _, X', e', N', fun t q => st t (st' t q)⟩
theorem Go.stJ {a : Addr} {x : Int64} {y : Int32} {i : Nat} {vs : List Value} (G : Go p l e R s m args below meth c Z own bytes maxL ret n0 s₀ h k j pc L (.long x :: .int y :: .ref a :: S)) (A : Av Z h a .long vs) (ha : n0 ≤ a) (hy : y.toInt = (i : Int)) (hi : i < vs.length) (hd : decode bytes pc = .ok (.lastore, 1)) {pc' : Nat} (hp : pc + 1 = pc' := by rfl) :
    ∃ h', Wr h h' a i (.long x) ∧ Av Z h' a .long (vs.set i (.long x)) ∧ Go p l e R s m args below meth c Z own bytes maxL ret n0 s₀ h' k j pc' L S := by
  have A0 := A
  obtain ⟨cl, Ar, rfl, hlen, -⟩ := A
  rw [Array.length_toList] at hi
  have ⟨i1, i2⟩ := idx_of hy hi
  subst hp
  obtain ⟨⟨hx, hb, hm, hZ, ho, r⟩, T, locs, X, eT, N, st⟩ := G
  obtain ⟨T', h', X', e', W', st'⟩ := Jvm.RoadKit.stJ X hx hZ eT Ar i1 (g := mkF m pc L (.long x :: .int y :: .ref a :: S)) rfl rfl (Jvm.hb hb hd)
  have N' := Fr.snoc X' N ha
  rw [i2] at W'
  exact ⟨h', W', A0.set W' rfl, ⟨hx, hb, hm, hZ, ho, r⟩, T', _, X', e', N', fun t q => st t (st' t q)⟩
theorem Go.stB {a : Addr} {x : Int32} {y : Int32} {i : Nat} {vs : List Value} (G : Go p l e R s m args below meth c Z own bytes maxL ret n0 s₀ h k j pc L (.int x :: .int y :: .ref a :: S)) (A : Av Z h a .byte vs) (ha : n0 ≤ a) (hy : y.toInt = (i : Int)) (hi : i < vs.length) (hd : decode bytes pc = .ok (.bastore, 1)) {pc' : Nat} (hp : pc + 1 = pc' := by rfl) :
    ∃ h', Wr h h' a i (.int (nar .byte x)) ∧ Av Z h' a .byte (vs.set i (.int (nar .byte x))) ∧ Go p l e R s m args below meth c Z own bytes maxL ret n0 s₀ h' k j pc' L S := by
  have A0 := A
  obtain ⟨cl, Ar, rfl, hlen, -⟩ := A
  rw [Array.length_toList] at hi
  have ⟨i1, i2⟩ := idx_of hy hi
  subst hp
  obtain ⟨⟨hx, hb, hm, hZ, ho, r⟩, T, locs, X, eT, N, st⟩ := G
  obtain ⟨T', h', X', e', W', st'⟩ := Jvm.RoadKit.stB X hx hZ eT Ar i1 (g := mkF m pc L (.int x :: .int y :: .ref a :: S)) rfl rfl (Jvm.hb hb hd)
  have N' := Fr.snoc X' N ha
  rw [i2] at W'
  exact ⟨h', W', A0.set W' (fits_nar_byte x), ⟨hx, hb, hm, hZ, ho, r⟩, T', _, X', e', N', fun t q => st t (st' t q)⟩
theorem Go.ldI {a : Addr} {v : Value} {y : Int32} {i : Nat} {vs : List Value} (G : Go p l e R s m args below meth c Z own bytes maxL ret n0 s₀ h k j pc L (.int y :: .ref a :: S)) (A : Av Z h a .int vs) (hy : y.toInt = (i : Int)) (hv : vs[i]? = some v) (hd : decode bytes pc = .ok (.iaload, 1)) {pc' : Nat} (hp : pc + 1 = pc' := by rfl) : Go p l e R s m args below meth c Z own bytes maxL ret n0 s₀ h k j pc' L (v :: S) := by
  obtain ⟨cl, Ar, rfl, hlen, -⟩ := A
  have hi : i < cl.slots.size := by rw [← Array.length_toList]; exact (List.getElem?_eq_some_iff.mp hv).1
  have ⟨i1, i2⟩ := idx_of hy hi
  rw [Array.getElem?_toList] at hv
  subst hp
  obtain ⟨⟨hx, hb, hm, hZ, ho, r⟩, T, locs, X, eT, N, st⟩ := G
  exact ⟨⟨hx, hb, hm, hZ, ho, r⟩, T, locs, X, eT, N, fun t q => st t (X.iaload hx (j := y) (v := v) (by rw [eT]; exact Ar.1) (State.isArrayOf_alike hZ.alike Ar.2.1) Ar.2.2 i1 (by rw [i2]; exact hv) (g := mkF m pc L (.int y :: .ref a :: S)) rfl rfl (Jvm.hb hb hd) t q)⟩
theorem Go.ldJ {a : Addr} {v : Value} {y : Int32} {i : Nat} {vs : List Value} (G : Go p l e R s m args below meth c Z own bytes maxL ret n0 s₀ h k j pc L (.int y :: .ref a :: S)) (A : Av Z h a .long vs) (hy : y.toInt = (i : Int)) (hv : vs[i]? = some v) (hd : decode bytes pc = .ok (.laload, 1)) {pc' : Nat} (hp : pc + 1 = pc' := by rfl) : Go p l e R s m args below meth c Z own bytes maxL ret n0 s₀ h k j pc' L (v :: S) := by
  obtain ⟨cl, Ar, rfl, hlen, -⟩ := A
  have hi : i < cl.slots.size := by rw [← Array.length_toList]; exact (List.getElem?_eq_some_iff.mp hv).1
  have ⟨i1, i2⟩ := idx_of hy hi
  rw [Array.getElem?_toList] at hv
  subst hp
  obtain ⟨⟨hx, hb, hm, hZ, ho, r⟩, T, locs, X, eT, N, st⟩ := G
  exact ⟨⟨hx, hb, hm, hZ, ho, r⟩, T, locs, X, eT, N, fun t q => st t (X.laload hx (j := y) (v := v) (by rw [eT]; exact Ar.1) (State.isArrayOf_alike hZ.alike Ar.2.1) Ar.2.2 i1 (by rw [i2]; exact hv) (g := mkF m pc L (.int y :: .ref a :: S)) rfl rfl (Jvm.hb hb hd) t q)⟩
theorem Go.ldB {a : Addr} {v : Value} {y : Int32} {i : Nat} {vs : List Value} (G : Go p l e R s m args below meth c Z own bytes maxL ret n0 s₀ h k j pc L (.int y :: .ref a :: S)) (A : Av Z h a .byte vs) (hy : y.toInt = (i : Int)) (hv : vs[i]? = some v) (hd : decode bytes pc = .ok (.baload, 1)) {pc' : Nat} (hp : pc + 1 = pc' := by rfl) : Go p l e R s m args below meth c Z own bytes maxL ret n0 s₀ h k j pc' L (v :: S) := by
  obtain ⟨cl, Ar, rfl, hlen, -⟩ := A
  have hi : i < cl.slots.size := by rw [← Array.length_toList]; exact (List.getElem?_eq_some_iff.mp hv).1
  have ⟨i1, i2⟩ := idx_of hy hi
  rw [Array.getElem?_toList] at hv
  subst hp
  obtain ⟨⟨hx, hb, hm, hZ, ho, r⟩, T, locs, X, eT, N, st⟩ := G
  exact ⟨⟨hx, hb, hm, hZ, ho, r⟩, T, locs, X, eT, N, fun t q => st t (X.baloadBytes hx (j := y) (v := v) (by rw [eT]; exact Ar.1) (State.isArrayOf_alike hZ.alike Ar.2.1) Ar.2.2 i1 (by rw [i2]; exact hv) (g := mkF m pc L (.int y :: .ref a :: S)) rfl rfl (Jvm.hb hb hd) t q)⟩
theorem Go.arrlen {a : Addr} {ty : FieldType} {vs : List Value} (v : Int32) (G : Go p l e R s m args below meth c Z own bytes maxL ret n0 s₀ h k j pc L (.ref a :: S)) (A : Av Z h a ty vs) (hv : v.toInt = (vs.length : Int)) (hd : decode bytes pc = .ok (.arraylength, 1)) {pc' : Nat} (hp : pc + 1 = pc' := by rfl) : Go p l e R s m args below meth c Z own bytes maxL ret n0 s₀ h k j pc' L (.int v :: S) := by
  obtain ⟨cl, Ar, rfl, hlen, -⟩ := A
  have e1 : cl.slots.size.toInt32 = v := by
    rw [Array.length_toList] at hlen hv
    apply Int32.toInt_inj.mp
    rw [hv]
    exact Int32.toInt_ofNat_of_lt (by omega)
  subst hp e1
  obtain ⟨⟨hx, hb, hm, hZ, ho, r⟩, T, locs, X, eT, N, st⟩ := G
  exact ⟨⟨hx, hb, hm, hZ, ho, r⟩, T, locs, X, eT, N, fun t q => st t (X.arraylength hx (by rw [eT]; exact Ar.1) (State.isArrayOf_alike hZ.alike Ar.2.1) (g := mkF m pc L (.ref a :: S)) rfl rfl (Jvm.hb hb hd) t q)⟩
theorem Av.arv {a : Addr} {ty : FieldType} {vs : List Value} (A : Av Z h a ty vs) (dv : Value) : ∃ kk, Arv Z h a kk ty (Int32.ofNat vs.length) vs dv := by
  obtain ⟨cl, Ar, rfl, hlen, hfit⟩ := A
  have e1 : (Int32.ofNat cl.slots.toList.length).toInt = ((cl.slots.toList.length : Nat) : Int) := Int32.toInt_ofNat_of_lt hlen
  have e2 : (Int32.ofNat cl.slots.toList.length).toNatClampNeg = cl.slots.size := by
    show (Int32.ofNat cl.slots.toList.length).toInt.toNat = _
    rw [e1, Array.length_toList]; rfl
  have e3 : ∀ i, i < cl.slots.size → cl.slots[i]? = some (cl.slots.toList.getD i dv) := fun i hi => by
    rw [List.getD_eq_getElem?_getD, Array.getElem?_toList, Array.getElem?_eq_getElem hi]; rfl
  refine ⟨cl.cls, cl, Ar, rfl, e2.symm, ?_, e3, fun i hi => hfit _ ?_⟩
  · rw [Int32.lt_iff_toInt_lt, e1]; show ¬ _ < (0 : Int); omega
  · have q := e3 i hi
    rw [← Array.getElem?_toList] at q
    exact List.mem_of_getElem? q
theorem av_of_arv {a : Addr} {kk : ClassId} {ty : FieldType} {z : Int32} {vs : List Value} {dv : Value} (A : Arv Z h a kk ty z vs dv) (hz : z.toNatClampNeg = vs.length) (hl : vs.length < 2 ^ 31) : Av Z h a ty vs := by
  obtain ⟨cl, Ar, -, S, -, H, F⟩ := A
  have e : cl.slots.toList = vs := by
    apply List.ext_getElem?
    intro i
    rw [Array.getElem?_toList]
    by_cases hi : i < cl.slots.size
    · rw [H i hi, List.getD_eq_getElem?_getD, List.getElem?_eq_getElem (by omega)]; rfl
    · rw [Array.getElem?_eq_none (by omega), List.getElem?_eq_none (by omega)]
  refine ⟨cl, Ar, e, hl, fun v hv => ?_⟩
  obtain ⟨i, hi, rfl⟩ := List.getElem_of_mem hv
  have q := F i (by rw [S, hz]; exact hi)
  rwa [List.getD_eq_getElem?_getD, List.getElem?_eq_getElem hi] at q
theorem us_of (vs : List Value) (sp n : Nat) (dv : Value) (hh : sp + n ≤ vs.length) : ((List.range n).map fun i => vs.getD (sp + i) dv) = (vs.drop sp).take n := by
  apply List.ext_getElem?
  intro i
  by_cases hi : i < n
  · rw [List.getElem?_map, List.getElem?_range hi, List.getElem?_take_of_lt hi, List.getElem?_drop, List.getElem?_eq_getElem (by omega)]
    simp [List.getD_eq_getElem?_getD, List.getElem?_eq_getElem (show sp + i < vs.length by omega)]
  · rw [List.getElem?_eq_none (by simp; omega), List.getElem?_eq_none (by simp; omega)]
theorem Go.newAE {n : Int32} {aty : ArrayType} {ty : FieldType} {dv : Value} {N cap : Nat} {ad : String} (G : Go p l e R s m args below meth c Z own bytes maxL ret n0 s₀ h k j pc L (.int n :: S)) (w : (Cond.arrayClass ty).before a0 Z = true) (hd : decode bytes pc = .ok (.newarray aty, 2)) (hty : newarray.typeOf aty = ty) (hdv : defaultValue ty = dv) (hn : n.toInt = (N : Int)) (hN : N ≤ cap) (hb : cap * 8 ≤ 536870912) (had : "[" ++ ty.toString = ad) {pc' k' j' : Nat} (hp : pc + 2 = pc') (hk : k + 1 = k') (hj : j + cap = j') (hc : k' ≤ R.cells) (hl : j' ≤ R.slots) :
    ∃ a h', a = h.size ∧ n0 ≤ a ∧ Ext h h' ∧ Av Z h' a ty (List.replicate N dv) ∧ Exa Z h' a ad ∧ Go p l e R s m args below meth c Z own bytes maxL ret n0 s₀ h' k' j' pc' L (.ref a :: S) := by
  have hsz := G.size
  have e1 : n.toNatClampNeg = N := by show n.toInt.toNat = N; omega
  have e2 := n.toInt_lt
  subst hp hk hj hty hdv
  obtain ⟨⟨hx, hb', hm, hZ, ho, r⟩, T, locs, X, eT, N', st⟩ := G
  obtain ⟨T2, h2, cA, X2, e3, E2, A2, EE, st2⟩ := Jvm.RoadKit.newPE X hx hZ w eT (g := mkF m pc L (.int n :: S)) rfl (Jvm.hb hb' hd) rfl (by rw [Int32.lt_iff_toInt_lt, hn]; show ¬ ((N : Nat) : Int) < 0; omega) (cap := cap) (by rw [e1]; exact hN) hb hc hl had
  exact ⟨h.size, h2, rfl, hsz, E2, ⟨_, A2, by rw [Jvm.RoadKit.newA, e1]; simp, by rw [List.length_replicate]; omega, fun v hv => by rw [List.eq_of_mem_replicate hv]; cases aty <;> rfl⟩, EE, ⟨hx, hb', hm, hZ, ho, r⟩, T2, locs, X2, e3, N', fun t q => st t (st2 t q)⟩
theorem Go.clone {a : Addr} {ty : FieldType} {vs : List Value} {ad : String} {index cap : Nat} (G : Go p l e R s m args below meth c Z own bytes maxL ret n0 s₀ h k j pc L (.ref a :: S)) (A : Av Z h a ty vs) (E : Exa Z h a ad)
    (w1 : (Cond.methodLink own index ⟨ad, "clone", "()Ljava/lang/Object;"⟩).before a0 Z = true) (w2 : (Cond.sameMethod ad "java/lang/Object" "clone" "()Ljava/lang/Object;").before a0 Z = true) (w3 : (Cond.native ⟨"java/lang/Object", "clone", "()Ljava/lang/Object;"⟩).before a0 Z = true)
    (w4 : (Cond.instanceMethod ⟨"java/lang/Object", "clone", "()Ljava/lang/Object;"⟩).before a0 Z = true) (w5 : (Cond.selects ad ⟨ad, "clone", "()Ljava/lang/Object;"⟩ ⟨"java/lang/Object", "clone", "()Ljava/lang/Object;"⟩).before a0 Z = true) (w6 : (Cond.castable ad "java/lang/Cloneable").before a0 Z = true)
    (hd : decode bytes pc = .ok (.invokevirtual index, 3)) {W : Nat} (hW : (S.map fun v => v.category).sum = W) (hL : L.size = maxL) (hf : 1 ≤ R.frames) (hlo : W + 14 ≤ R.locals) (hcap : vs.length ≤ cap) {pc' k' j' : Nat} (hp : pc + 3 = pc') (hk : k + 1 = k') (hj : j + cap = j') (hc : k' ≤ R.cells) (hl : j' ≤ R.slots) :
    ∃ b h', b = h.size ∧ n0 ≤ b ∧ Ext h h' ∧ Av Z h' b ty vs ∧ Exa Z h' b ad ∧ Go p l e R s m args below meth c Z own bytes maxL ret n0 s₀ h' k' j' pc' L (.ref b :: S) := by
  have hsz := G.size
  obtain ⟨cl, Ar, rfl, hlen, hfit⟩ := A
  have FC : FitC Z cl := fitC_of Ar fun i hi v hv => hfit v (by rw [← Array.getElem?_toList] at hv; exact List.mem_of_getElem? hv)
  subst hp hk hj
  obtain ⟨⟨hx, hb', hm, hZ, ho, r⟩, T, locs, X, eT, N', st⟩ := G
  obtain ⟨T2, h2, X2, e3, E2, A2, EE, st2⟩ := Jvm.RoadKit.cloneA X hx hZ ho w1 w2 w3 w4 w5 w6 eT Ar E FC (g := mkF m pc L (.ref a :: S)) rfl (by rw [hm]; exact hL) rfl (Jvm.hb hb' hd) hf (W := W) (by show 2 * 0 + _ ≤ _; omega) hlo (cap := cap) (by rw [← Array.length_toList]; exact hcap) hc hl
  exact ⟨h.size, h2, rfl, hsz, E2, ⟨_, A2, rfl, hlen, hfit⟩, EE, ⟨hx, hb', hm, hZ, ho, r⟩, T2, locs, X2, e3, N', fun t q => st t (st2 t q)⟩
theorem Go.cast {a : Addr} {K : String} {index : Nat} (G : Go p l e R s m args below meth c Z own bytes maxL ret n0 s₀ h k j pc L (.ref a :: S)) (w : (Cond.classLink own index K).before a0 Z = true) (F : Ins Z h a K true) (hd : decode bytes pc = .ok (.checkcast index, 3)) {pc' : Nat} (hp : pc + 3 = pc' := by rfl) : Go p l e R s m args below meth c Z own bytes maxL ret n0 s₀ h k j pc' L (.ref a :: S) := by
  subst hp
  obtain ⟨⟨hx, hb, hm, hZ, ho, r⟩, T, locs, X, eT, N, st⟩ := G
  obtain ⟨T', X', e', st'⟩ := Jvm.RoadKit.castY X hx hZ ho w eT F (g := mkF m pc L (.ref a :: S)) rfl rfl (Jvm.hb hb hd)
  exact ⟨⟨hx, hb, hm, hZ, ho, r⟩, T', locs, X', e', N, fun t q => st t (st' t q)⟩
theorem Go.cp {a b : Addr} {ty : FieldType} {vs vd : List Value} {sp dp nn : Int32} {s' d' n' index : Nat} (G : Go p l e R s m args below meth c Z own bytes maxL ret n0 s₀ h k j pc L (.int nn :: .int dp :: .ref b :: .int sp :: .ref a :: S)) (A : Av Z h a ty vs) (B : Av Z h b ty vd) (hty : refKind ty = false) (hb : n0 ≤ b)
    (w1 : (Cond.methodLink own index Jvm.Stand.acN).before a0 Z = true) (w2 : (Cond.native Jvm.Stand.acN).before a0 Z = true) (w3 : (Cond.static Jvm.Stand.acN).before a0 Z = true) (w4 : (Cond.initialized "java/lang/System").before a0 Z = true)
    (hs : sp.toInt = (s' : Int)) (hd' : dp.toInt = (d' : Int)) (hn : nn.toInt = (n' : Int)) (h4 : s' + n' ≤ vs.length) (h5 : d' + n' ≤ vd.length) (hd : decode bytes pc = .ok (.invokestatic index, 3)) {W : Nat} (hW : (S.map fun v => v.category).sum = W) (hL : L.size = maxL) (hf : 1 ≤ R.frames) (hlo : W + (nativeFrameWords "java/lang/System" "arraycopy" 5 + 11) ≤ R.locals) {pc' : Nat} (hp : pc + 3 = pc' := by rfl) :
    ∃ h', Keep h h' [b] ∧ Av Z h' b ty (vd.take d' ++ (vs.drop s').take n' ++ vd.drop (d' + n')) ∧ Go p l e R s m args below meth c Z own bytes maxL ret n0 s₀ h' k j pc' L S := by
  subst hp
  have lA := A.len
  have lB := B.len
  obtain ⟨kA, VA⟩ := A.arv .null
  obtain ⟨kB, VB⟩ := B.arv .null
  have nn0 : ∀ {x : Int32} {y : Nat}, x.toInt = (y : Int) → ¬ x < 0 ∧ x.toNatClampNeg = y := fun {x y} q => ⟨by rw [Int32.lt_iff_toInt_lt, q]; show ¬ _ < (0 : Int); omega, by show x.toInt.toNat = y; omega⟩
  have zl : ∀ (us : List Value), us.length < 2 ^ 31 → (Int32.ofNat us.length).toNatClampNeg = us.length := fun us q => (nn0 (Int32.toInt_ofNat_of_lt q)).2
  obtain ⟨⟨hx, hby, hm, hZ, ho, r⟩, T, locs, X, eT, N, st⟩ := G
  obtain ⟨T', h', Lc, X', e', N', Kp, V', st'⟩ := Jvm.RoadKit.cpA X hx hZ ho w1 w2 w3 w4 eT VA VB (us := (vs.drop s').take n') (Or.inl ⟨rfl, hty⟩) (nn0 hs).1 (nn0 hd').1 (nn0 hn).1 (by rw [(nn0 hs).2, (nn0 hn).2, zl _ lA]; exact h4) (by rw [(nn0 hd').2, (nn0 hn).2, zl _ lB]; exact h5) (by rw [(nn0 hs).2, (nn0 hn).2, us_of _ _ _ _ h4]) (by rw [(nn0 hd').2, (nn0 hn).2]; exact h5) N hb (g := mkF m pc L (.int nn :: .int dp :: .ref b :: .int sp :: .ref a :: S)) rfl (by rw [hm]; exact hL) rfl (Jvm.hb hby hd) hf (W := W) (by show 2 * 0 + _ ≤ _; omega) hlo
  rw [(nn0 hd').2, (nn0 hn).2] at V'
  have ll : (vd.take d' ++ (vs.drop s').take n' ++ vd.drop (d' + n')).length = vd.length := by simp; omega
  exact ⟨h', Kp, av_of_arv V' (by rw [ll]; exact zl _ lB) (by rw [ll]; exact lB), ⟨hx, hby, hm, hZ, ho, r⟩, T', Lc, X', e', N', fun t q => st t (st' t q)⟩
theorem Go.callP {S0 argsL rest : List Value} {y : MethodName} {bytes' : ByteArray} {maxL' nI : Nat} {ret' r : Option FieldType} {ps : List FieldType} {rm : Room} {index : Nat} {Q : Option Value → Heap → Prop} {a : Addr} {K : String} (G : Go p l e R s m args below meth c Z own bytes maxL ret n0 s₀ h k j pc L S0) (C : Con l y bytes' maxL' ret' [] rm rm.cells rm.slots Z (.ref a :: argsL).toArray h n0 Q) (hS : S0 = argsL.reverse ++ .ref a :: rest) (E : Exa Z h a K)
    (w1 : (Cond.methodLink own index y).before a0 Z = true) (w2 : (Cond.instanceMethod y).before a0 Z = true) (wp : (Cond.privateMethod y).before a0 Z = true) (wi : (Cond.instantiable y.cls nI).before a0 Z = true) (w3 : (Cond.initialized y.cls).before a0 Z = true) (w4 : (Cond.code y bytes' maxL' ret').before a0 Z = true) (hy : y.cls ≠ "java/lang/invoke/MethodHandle" ∧ y.cls ≠ "java/lang/invoke/VarHandle")
    (hd : decode bytes pc = .ok (.invokevirtual index, 3)) (hpd : parseMethodDescriptor y.desc = some ⟨ps, r⟩) (hl : argsL.length = ps.length) {W : Nat} (hW : (rest.map fun v => v.category).sum = W) (hL : L.size = maxL) (hf : rm.frames + 1 ≤ R.frames) (hlo : W + (maxL' + 11) + rm.locals ≤ R.locals) (hc : k + rm.cells ≤ R.cells) (hs : j + rm.slots ≤ R.slots) {pc' k' j' : Nat} (hp : pc + 3 = pc') (hk' : k + rm.cells = k') (hj' : j + rm.slots = j') :
    ∃ v h', Q v h' ∧ ∀ S', v.toList ++ rest = S' → Go p l e R s m args below meth c Z own bytes maxL ret n0 s₀ h' k' j' pc' L S' := by
  subst hp hk' hj' hS
  obtain ⟨⟨hx, hb, hm, hZ, ho, hret, hlk, hn0⟩, T, locs, X, eT, N, st⟩ := G
  obtain ⟨cell, q1, q2⟩ := E.cell
  have hpriv : s.PrivateAt y := Cond.privateMethod_at (mvP hZ wp (args := #[]))
  obtain ⟨cI, kI, i1, i2, i3, i4, -⟩ := Cond.instantiable_spec (mv (args := #[]) hZ wi)
  have hsel : (Cond.selects y.cls y y).before args s = true := Jvm.Stand.selects_self_of_private i1 i2 (by simpa using (by simpa using i4 : _ ∧ _).1) hpriv (mvT hZ w2) hy
  obtain ⟨v, _, ⟨T', L', k', n'⟩, -, X', ⟨Lc, hQ, l', y', z'⟩, st'⟩ := X.privateBack hx (y := y) ho (mvT hZ w1) (mvT hZ w2) hsel hpriv (mvT hZ w4) hy (backOf (W := W) (R := R) (rm := rm) (Q := fun v h L => Q v h ∧ Fr n0 L) C hZ w4 w3 hf hlo) (g := mkF m pc L (argsL.reverse ++ .ref a :: rest)) rfl (by rw [hm]; exact hL) (Steps.refl _) (a := a) (by rw [eT]; exact q1) q2 (argsL := argsL) (rest := rest) (lenOf hpd hl) rfl (by show 2 * 0 + _ ≤ _; omega) (Jvm.hb hb hd) (fun _ _ => ⟨rfl, eT, hc, hs⟩)
  dsimp only [Pt.U, Pt.locs, Pt.cells, Pt.slots] at X' l' y' z' st' hQ
  subst l' y' z'
  refine ⟨v, T'.heap, hQ.1, fun S' e => ?_⟩
  subst e
  exact ⟨⟨hx, hb, hm, hZ, ho, hret, hlk, hn0⟩, T', _, X', rfl, Fr.app N hQ.2, fun t q => st t (st'.trans q)⟩
theorem Go.dupX2 {x : Int32} {i : Int32} {a : Addr} (G : Go p l e R s m args below meth c Z own bytes maxL ret n0 s₀ h k j pc L (.int x :: .int i :: .ref a :: S)) (hd : decode bytes pc = .ok (.dup_x2, 1)) {pc' : Nat} (hp : pc + 1 = pc' := by rfl) : Go p l e R s m args below meth c Z own bytes maxL ret n0 s₀ h k j pc' L (.int x :: .int i :: .ref a :: .int x :: S) := by
  subst hp
  refine G.step fun T locs X eT hx hb t q => ?_
  show Steps p.tables e below (T.setTop { method := m, pc := pc, locals := L, stack := .int x :: .int i :: .ref a :: S, locked := none }) _
  jvm_step X.here [X.here.top, hx, Jvm.hb hb hd, Value.category]
  exact q
end OwnKit
end Jvm.OwnKit
namespace Jvm.Pilot.@@N@@
open Jvm Jvm.ClassFile Sem Op Lib Jvm.Free Jvm.Stand Jvm.LawKit Jvm.RoadKit Bundle Jvm.OwnKit Jvm.Pilot.@@N@@.Jvm.D
theorem own_i (k : Nat) (h : k < 1000) : (Int32.ofNat k).toInt = (k : Int) := Int32.toInt_ofNat_of_lt (by omega)
theorem own_ad (a b : Nat) : Int32.ofNat a + Int32.ofNat b = Int32.ofNat (a + b) := (Int32.ofNat_add a b).symm
theorem own_a1 (a : Nat) : Int32.ofNat a + (1 : Int32) = Int32.ofNat (a + 1) := own_ad a 1
theorem own_sb (a b : Nat) (h : b ≤ a) (ha : a < 1000) : Int32.ofNat a - Int32.ofNat b = Int32.ofNat (a - b) := by
  apply Int32.toInt_inj.mp
  have e := c_isub (Int32.ofNat a) (Int32.ofNat b)
  have r := rng32 (Int32.ofNat a - Int32.ofNat b)
  rw [own_i a ha, own_i b (by omega)] at e
  rw [own_i _ (by omega)]
  omega
theorem own_s1 (a : Nat) (h : 0 < a) (ha : a < 1000) : Int32.ofNat a - (1 : Int32) = Int32.ofNat (a - 1) := own_sb a 1 h ha
theorem own_lt (a b : Nat) (ha : a < 1000) (hb : b < 1000) : Int32.ofNat a < Int32.ofNat b ↔ a < b := by
  rw [Int32.lt_iff_toInt_lt, own_i a ha, own_i b hb]; omega
theorem own_l0 (a : Nat) (ha : a < 1000) : ¬ Int32.ofNat a < (0 : Int32) := by
  rw [Int32.lt_iff_toInt_lt, own_i a ha]; show ¬ _ < (0 : Int); omega
theorem own_eq (a b : Nat) (ha : a < 1000) (hb : b < 1000) : Int32.ofNat a = Int32.ofNat b ↔ a = b := by
  rw [← Int32.toInt_inj, own_i a ha, own_i b hb]; omega
def own_A (vs : List Value) (n : Nat) (f : Nat → Nat) : Prop := vs.length = n ∧ ∀ i, i < n → vs[i]? = some (.int (Int32.ofNat (f i)))
theorem own_As {vs : List Value} {n i : Nat} {f : Nat → Nat} {x : Nat} (A : own_A vs n f) (hi : i < n) : own_A (vs.set i (.int (Int32.ofNat x))) n (fun j => if j = i then x else f j) := by
  refine ⟨by rw [List.length_set]; exact A.1, fun j hj => ?_⟩
  by_cases h : j = i
  · rw [h, List.getElem?_set_self (by rw [A.1]; exact hi)]
    show _ = some (Value.int (Int32.ofNat (if i = i then x else f i)))
    rw [if_pos rfl]
  · rw [List.getElem?_set_ne (fun q => h q.symm), A.2 j hj]
    show _ = some (Value.int (Int32.ofNat (if j = i then x else f j)))
    rw [if_neg h]
theorem own_Ac {vs : List Value} {n : Nat} {f g : Nat → Nat} (A : own_A vs n f) (e : ∀ i, i < n → f i = g i) : own_A vs n g := ⟨A.1, fun i hi => by rw [← e i hi]; exact A.2 i hi⟩
theorem own_A0 (n : Nat) : own_A (List.replicate n (.int (0 : Int32))) n (fun _ => 0) := ⟨List.length_replicate, fun i hi => by rw [List.getElem?_replicate, if_pos hi]; rfl⟩
def own_H (tc n M : Nat) (S I : Nat → Nat) : Prop := (tc ≤ 4 ∧ n ≤ 6 ∧ M ≤ 20 ∧ S 0 = 0 ∧ S n = M) ∧ (∀ i, i < n → S i ≤ S (i + 1)) ∧ ∀ i, i < n → ∀ p, S i ≤ p → p < S (i + 1) → I p < tc ∧ (p = S i ∨ I (p - 1) < I p)
theorem own_Hm {tc n M : Nat} {S I : Nat → Nat} (H : own_H tc n M S I) : ∀ d i, i + d = n → S i ≤ M := by
  intro d
  induction d with
  | zero => intro i hi; obtain rfl : i = n := by omega
            rw [H.1.2.2.2.2]; exact Nat.le_refl _
  | succ d ih => intro i hi; exact Nat.le_trans (H.2.1 i (by omega)) (ih (i + 1) (by omega))
theorem own_Hl {tc n M : Nat} {S I : Nat → Nat} (H : own_H tc n M S I) {i : Nat} (hi : i ≤ n) : S i ≤ M := own_Hm H (n - i) i (by omega)
theorem own_Hd {tc n M : Nat} {S I : Nat → Nat} (H : own_H tc n M S I) : ∀ i, i ≤ n → ∀ p, p < S i → I p < tc := by
  intro i
  induction i with
  | zero => intro _ p hp; rw [H.1.2.2.2.1] at hp; omega
  | succ i ih =>
    intro hi p hp
    by_cases h : p < S i
    · exact ih (by omega) p h
    · exact (H.2.2 i (by omega) p (by omega) hp).1
theorem own_Hi {tc n M : Nat} {S I : Nat → Nat} (H : own_H tc n M S I) {p : Nat} (hp : p < M) : I p < tc := own_Hd H n (Nat.le_refl _) p (by rw [H.1.2.2.2.2]; exact hp)
def own_cn (I : Nat → Nat) : Nat → Nat → Nat
  | 0, _ => 0
  | p + 1, t => own_cn I p t + if I p = t then 1 else 0
def own_ps (I : Nat → Nat) : Nat → Nat → Nat
  | 0, _ => 0
  | p + 1, t => own_ps I p t + if I p < t then 1 else 0
theorem own_ps0 (I : Nat → Nat) : ∀ p, own_ps I p 0 = 0
  | 0 => rfl
  | p + 1 => by rw [own_ps, own_ps0 I p, if_neg (by omega)]
theorem own_pss (I : Nat → Nat) (t : Nat) : ∀ p, own_ps I p (t + 1) = own_ps I p t + own_cn I p t
  | 0 => rfl
  | p + 1 => by
    rw [own_ps, own_ps, own_cn, own_pss I t p]
    by_cases h : I p < t
    · rw [if_pos (by omega), if_pos h, if_neg (by omega)]; omega
    · by_cases h2 : I p = t
      · rw [if_pos (by omega), if_neg h, if_pos h2]; omega
      · rw [if_neg (by omega), if_neg h, if_neg h2]; omega
theorem own_psl (I : Nat → Nat) (t : Nat) : ∀ p, own_ps I p t ≤ p
  | 0 => Nat.le_refl _
  | p + 1 => by
    have := own_psl I t p
    rw [own_ps]
    split <;> omega
theorem own_cnl (I : Nat → Nat) (t : Nat) : ∀ p, own_cn I p t ≤ p
  | 0 => Nat.le_refl _
  | p + 1 => by
    have := own_cnl I t p
    rw [own_cn]
    split <;> omega
theorem own_cnm (I : Nat → Nat) (t p : Nat) : ∀ d, own_cn I p t ≤ own_cn I (p + d) t
  | 0 => Nat.le_refl _
  | d + 1 => by
    have := own_cnm I t p d
    rw [← Nat.add_assoc, own_cn]
    omega
theorem own_cnx (I : Nat → Nat) (p M : Nat) (h : p < M) : own_cn I p (I p) + 1 ≤ own_cn I M (I p) := by
  have q := own_cnm I (I p) (p + 1) (M - (p + 1))
  rw [show p + 1 + (M - (p + 1)) = M by omega, own_cn, if_pos rfl] at q
  exact q
theorem own_nxb (I : Nat → Nat) (p M : Nat) (h : p < M) : own_ps I M (I p) + own_cn I p (I p) < M := by
  have q := own_cnx I p M h
  have r := own_pss I (I p) M
  have s := own_psl I (I p + 1) M
  omega
theorem d6_0 : decode prog_15_method_2_code 0 = .ok (.aload_n 1, 1) := by decide +kernel
theorem d6_1 : decode prog_15_method_2_code 1 = .ok (.arraylength, 1) := by decide +kernel
theorem d6_2 : decode prog_15_method_2_code 2 = .ok (.ifCond .eq 20, 3) := by decide +kernel
theorem d6_5 : decode prog_15_method_2_code 5 = .ok (.aload_n 1, 1) := by decide +kernel
theorem d6_6 : decode prog_15_method_2_code 6 = .ok (.iconst 0, 1) := by decide +kernel
theorem d6_7 : decode prog_15_method_2_code 7 = .ok (.iaload, 1) := by decide +kernel
theorem d6_8 : decode prog_15_method_2_code 8 = .ok (.ifCond .ne 14, 3) := by decide +kernel
theorem d6_11 : decode prog_15_method_2_code 11 = .ok (.aload_n 1, 1) := by decide +kernel
theorem d6_12 : decode prog_15_method_2_code 12 = .ok (.aload_n 1, 1) := by decide +kernel
theorem d6_13 : decode prog_15_method_2_code 13 = .ok (.arraylength, 1) := by decide +kernel
theorem d6_14 : decode prog_15_method_2_code 14 = .ok (.iconst 1, 1) := by decide +kernel
theorem d6_15 : decode prog_15_method_2_code 15 = .ok (.isub, 1) := by decide +kernel
theorem d6_16 : decode prog_15_method_2_code 16 = .ok (.iaload, 1) := by decide +kernel
theorem d6_17 : decode prog_15_method_2_code 17 = .ok (.aload_n 2, 1) := by decide +kernel
theorem d6_18 : decode prog_15_method_2_code 18 = .ok (.arraylength, 1) := by decide +kernel
theorem d6_19 : decode prog_15_method_2_code 19 = .ok (.if_icmp .eq 18, 3) := by decide +kernel
theorem d6_22 : decode prog_15_method_2_code 22 = .ok (.new 33, 3) := by decide +kernel
theorem d6_25 : decode prog_15_method_2_code 25 = .ok (.dup, 1) := by decide +kernel
theorem d6_26 : decode prog_15_method_2_code 26 = .ok (.aload_n 2, 1) := by decide +kernel
theorem d6_27 : decode prog_15_method_2_code 27 = .ok (.arraylength, 1) := by decide +kernel
theorem d6_28 : decode prog_15_method_2_code 28 = .ok (.invokedynamic 35, 5) := by decide +kernel
theorem d6_33 : decode prog_15_method_2_code 33 = .ok (.invokespecial 39, 3) := by decide +kernel
theorem d6_36 : decode prog_15_method_2_code 36 = .ok (.athrow, 1) := by decide +kernel
theorem d6_37 : decode prog_15_method_2_code 37 = .ok (.iconst 0, 1) := by decide +kernel
theorem d6_38 : decode prog_15_method_2_code 38 = .ok (.istore_n 3, 1) := by decide +kernel
theorem d6_39 : decode prog_15_method_2_code 39 = .ok (.iload_n 3, 1) := by decide +kernel
theorem d6_40 : decode prog_15_method_2_code 40 = .ok (.iconst 1, 1) := by decide +kernel
theorem d6_41 : decode prog_15_method_2_code 41 = .ok (.iadd, 1) := by decide +kernel
theorem d6_42 : decode prog_15_method_2_code 42 = .ok (.aload_n 1, 1) := by decide +kernel
theorem d6_43 : decode prog_15_method_2_code 43 = .ok (.arraylength, 1) := by decide +kernel
theorem d6_44 : decode prog_15_method_2_code 44 = .ok (.if_icmp .ge 118, 3) := by decide +kernel
theorem d6_47 : decode prog_15_method_2_code 47 = .ok (.aload_n 1, 1) := by decide +kernel
theorem d6_48 : decode prog_15_method_2_code 48 = .ok (.iload_n 3, 1) := by decide +kernel
theorem d6_49 : decode prog_15_method_2_code 49 = .ok (.iaload, 1) := by decide +kernel
theorem d6_50 : decode prog_15_method_2_code 50 = .ok (.aload_n 1, 1) := by decide +kernel
theorem d6_51 : decode prog_15_method_2_code 51 = .ok (.iload_n 3, 1) := by decide +kernel
theorem d6_52 : decode prog_15_method_2_code 52 = .ok (.iconst 1, 1) := by decide +kernel
theorem d6_53 : decode prog_15_method_2_code 53 = .ok (.iadd, 1) := by decide +kernel
theorem d6_54 : decode prog_15_method_2_code 54 = .ok (.iaload, 1) := by decide +kernel
theorem d6_55 : decode prog_15_method_2_code 55 = .ok (.if_icmp .le 17, 3) := by decide +kernel
theorem d6_58 : decode prog_15_method_2_code 58 = .ok (.new 33, 3) := by decide +kernel
theorem d6_61 : decode prog_15_method_2_code 61 = .ok (.dup, 1) := by decide +kernel
theorem d6_62 : decode prog_15_method_2_code 62 = .ok (.iload_n 3, 1) := by decide +kernel
theorem d6_63 : decode prog_15_method_2_code 63 = .ok (.invokedynamic 42, 5) := by decide +kernel
theorem d6_68 : decode prog_15_method_2_code 68 = .ok (.invokespecial 39, 3) := by decide +kernel
theorem d6_71 : decode prog_15_method_2_code 71 = .ok (.athrow, 1) := by decide +kernel
theorem d6_72 : decode prog_15_method_2_code 72 = .ok (.aload_n 1, 1) := by decide +kernel
theorem d6_73 : decode prog_15_method_2_code 73 = .ok (.iload_n 3, 1) := by decide +kernel
theorem d6_74 : decode prog_15_method_2_code 74 = .ok (.iaload, 1) := by decide +kernel
theorem d6_75 : decode prog_15_method_2_code 75 = .ok (.istore 4, 2) := by decide +kernel
theorem d6_77 : decode prog_15_method_2_code 77 = .ok (.iload 4, 2) := by decide +kernel
theorem d6_79 : decode prog_15_method_2_code 79 = .ok (.aload_n 1, 1) := by decide +kernel
theorem d6_80 : decode prog_15_method_2_code 80 = .ok (.iload_n 3, 1) := by decide +kernel
theorem d6_81 : decode prog_15_method_2_code 81 = .ok (.iconst 1, 1) := by decide +kernel
theorem d6_82 : decode prog_15_method_2_code 82 = .ok (.iadd, 1) := by decide +kernel
theorem d6_83 : decode prog_15_method_2_code 83 = .ok (.iaload, 1) := by decide +kernel
theorem d6_84 : decode prog_15_method_2_code 84 = .ok (.if_icmp .ge 72, 3) := by decide +kernel
theorem d6_87 : decode prog_15_method_2_code 87 = .ok (.iload 4, 2) := by decide +kernel
theorem d6_89 : decode prog_15_method_2_code 89 = .ok (.aload_n 1, 1) := by decide +kernel
theorem d6_90 : decode prog_15_method_2_code 90 = .ok (.iload_n 3, 1) := by decide +kernel
theorem d6_91 : decode prog_15_method_2_code 91 = .ok (.iaload, 1) := by decide +kernel
theorem d6_92 : decode prog_15_method_2_code 92 = .ok (.if_icmp .eq 16, 3) := by decide +kernel
theorem d6_95 : decode prog_15_method_2_code 95 = .ok (.aload_n 2, 1) := by decide +kernel
theorem d6_96 : decode prog_15_method_2_code 96 = .ok (.iload 4, 2) := by decide +kernel
theorem d6_98 : decode prog_15_method_2_code 98 = .ok (.iconst 1, 1) := by decide +kernel
theorem d6_99 : decode prog_15_method_2_code 99 = .ok (.isub, 1) := by decide +kernel
theorem d6_100 : decode prog_15_method_2_code 100 = .ok (.iaload, 1) := by decide +kernel
theorem d6_101 : decode prog_15_method_2_code 101 = .ok (.aload_n 2, 1) := by decide +kernel
theorem d6_102 : decode prog_15_method_2_code 102 = .ok (.iload 4, 2) := by decide +kernel
theorem d6_104 : decode prog_15_method_2_code 104 = .ok (.iaload, 1) := by decide +kernel
theorem d6_105 : decode prog_15_method_2_code 105 = .ok (.if_icmp .ge 7, 3) := by decide +kernel
theorem d6_108 : decode prog_15_method_2_code 108 = .ok (.iconst 1, 1) := by decide +kernel
theorem d6_109 : decode prog_15_method_2_code 109 = .ok (.goto 4, 3) := by decide +kernel
theorem d6_112 : decode prog_15_method_2_code 112 = .ok (.iconst 0, 1) := by decide +kernel
theorem d6_113 : decode prog_15_method_2_code 113 = .ok (.istore 5, 2) := by decide +kernel
theorem d6_115 : decode prog_15_method_2_code 115 = .ok (.aload_n 2, 1) := by decide +kernel
theorem d6_116 : decode prog_15_method_2_code 116 = .ok (.iload 4, 2) := by decide +kernel
theorem d6_118 : decode prog_15_method_2_code 118 = .ok (.iaload, 1) := by decide +kernel
theorem d6_119 : decode prog_15_method_2_code 119 = .ok (.ifCond .lt 16, 3) := by decide +kernel
theorem d6_122 : decode prog_15_method_2_code 122 = .ok (.aload_n 2, 1) := by decide +kernel
theorem d6_123 : decode prog_15_method_2_code 123 = .ok (.iload 4, 2) := by decide +kernel
theorem d6_125 : decode prog_15_method_2_code 125 = .ok (.iaload, 1) := by decide +kernel
theorem d6_126 : decode prog_15_method_2_code 126 = .ok (.iload_n 0, 1) := by decide +kernel
theorem d6_127 : decode prog_15_method_2_code 127 = .ok (.if_icmp .ge 8, 3) := by decide +kernel
theorem d6_130 : decode prog_15_method_2_code 130 = .ok (.iload 5, 2) := by decide +kernel
theorem d6_132 : decode prog_15_method_2_code 132 = .ok (.ifCond .ne 18, 3) := by decide +kernel
theorem d6_135 : decode prog_15_method_2_code 135 = .ok (.new 33, 3) := by decide +kernel
theorem d6_138 : decode prog_15_method_2_code 138 = .ok (.dup, 1) := by decide +kernel
theorem d6_139 : decode prog_15_method_2_code 139 = .ok (.iload_n 3, 1) := by decide +kernel
theorem d6_140 : decode prog_15_method_2_code 140 = .ok (.iload_n 0, 1) := by decide +kernel
theorem d6_141 : decode prog_15_method_2_code 141 = .ok (.invokedynamic 43, 5) := by decide +kernel
theorem d6_146 : decode prog_15_method_2_code 146 = .ok (.invokespecial 39, 3) := by decide +kernel
theorem d6_149 : decode prog_15_method_2_code 149 = .ok (.athrow, 1) := by decide +kernel
theorem d6_150 : decode prog_15_method_2_code 150 = .ok (.iinc 4 1, 3) := by decide +kernel
theorem d6_153 : decode prog_15_method_2_code 153 = .ok (.goto (-76), 3) := by decide +kernel
theorem d6_156 : decode prog_15_method_2_code 156 = .ok (.iinc 3 1, 3) := by decide +kernel
theorem d6_159 : decode prog_15_method_2_code 159 = .ok (.goto (-120), 3) := by decide +kernel
theorem d6_162 : decode prog_15_method_2_code 162 = .ok (.return_, 1) := by decide +kernel
set_option maxRecDepth 65536 in
set_option maxHeartbeats 40000000 in
theorem own_chI (p : Program) (l : Launch) (e : Env) (R : Room) (s : State) (m : MethodId) (args : Array Value) (below : List Frame) (meth : Method) (c : Code) (Z : State) (a0 : Array Value) (hw : ∀ d ∈ tables_1, d.before a0 Z = true) (n0 : Nat) (s₀ : State) (h : Heap) (k j : Nat) (tc N M : Nat) (S I : Nat → Nat) (H : own_H tc N M S I) (sa da : Addr) (vS vI : List Value) (VS : Av Z h sa .int vS) (VI : Av Z h da .int vI) (AS : own_A vS (N + 1) S) (AI : own_A vI M I) (i : Nat) (hi : i < N) : ∀ (q u : Nat) (o : Slot), u + q = S (i + 1) → S i ≤ u → One o → Go p l e R s m args below meth c Z "com/example/rhumb/rhumb/InstanceTags" prog_15_method_2_code 6 none n0 s₀ h k j 77 #[.val (.int (Int32.ofNat tc)), .val (.ref sa), .val (.ref da), .val (.int (Int32.ofNat i)), .val (.int (Int32.ofNat u)), o] [] → ∃ o', One o' ∧ Go p l e R s m args below meth c Z "com/example/rhumb/rhumb/InstanceTags" prog_15_method_2_code 6 none n0 s₀ h k j 156 #[.val (.int (Int32.ofNat tc)), .val (.ref sa), .val (.ref da), .val (.int (Int32.ofNat i)), .val (.int (Int32.ofNat (S (i + 1)))), o'] [] := by
  intro q
  induction q with
  | zero =>
    intro u o hq hp ho G0
    have hM := H.1.2.2.1
    have hN := H.1.2.1
    have htc := H.1.1
    have hS0 := own_Hl H (show i ≤ N by omega)
    have hS1 := own_Hl H (show i + 1 ≤ N by omega)
    have G1 := G0.iload (v := (Int32.ofNat u)) (pc' := 79) d6_77 rfl
    have G2 := G1.aloadN (v := (.ref sa)) (pc' := 80) d6_79 rfl
    have G3 := G2.iloadN (v := (Int32.ofNat i)) (pc' := 81) d6_80 rfl
    have G4 := G3.iconst (v := (1 : Int32)) (pc' := 82) d6_81
    have G5 := G4.iadd (pc' := 83) d6_82
    rw [own_a1] at G5
    have G6 := G5.ldI (i := (i + 1)) (v := (.int (Int32.ofNat (S (i + 1))))) (pc' := 84) VS (own_i _ (by omega)) (AS.2 _ (by omega)) d6_83
    have G7 := G6.icmpY d6_84 156 (Jvm.Free.XT.ii_ge_t (fun q => by have := (own_lt _ _ (by omega) (by omega)).mp q; omega))
    obtain rfl : u = S (i + 1) := by omega
    exact ⟨_, ho, G7⟩
  | succ q ih =>
    intro u o hq hp ho G0
    have hM := H.1.2.2.1
    have hN := H.1.2.1
    have htc := H.1.1
    have hS0 := own_Hl H (show i ≤ N by omega)
    have hS1 := own_Hl H (show i + 1 ≤ N by omega)
    have G1 := G0.iload (v := (Int32.ofNat u)) (pc' := 79) d6_77 rfl
    have G2 := G1.aloadN (v := (.ref sa)) (pc' := 80) d6_79 rfl
    have G3 := G2.iloadN (v := (Int32.ofNat i)) (pc' := 81) d6_80 rfl
    have G4 := G3.iconst (v := (1 : Int32)) (pc' := 82) d6_81
    have G5 := G4.iadd (pc' := 83) d6_82
    rw [own_a1] at G5
    have G6 := G5.ldI (i := (i + 1)) (v := (.int (Int32.ofNat (S (i + 1))))) (pc' := 84) VS (own_i _ (by omega)) (AS.2 _ (by omega)) d6_83
    have G8 := G6.icmpN d6_84 87 (Jvm.Free.XT.ii_ge_f ((own_lt _ _ (by omega) (by omega)).mpr (by omega)))
    have hpM : u < M := by omega
    have hp2 := H.2.2 i hi u hp (by omega)
    have hI0 := own_Hi H hpM
    have G9 := G8.iload (v := (Int32.ofNat u)) (pc' := 89) d6_87 rfl
    have G10 := G9.aloadN (v := (.ref sa)) (pc' := 90) d6_89 rfl
    have G11 := G10.iloadN (v := (Int32.ofNat i)) (pc' := 91) d6_90 rfl
    have G12 := G11.ldI (i := i) (v := (.int (Int32.ofNat (S i)))) (pc' := 92) VS (own_i _ (by omega)) (AS.2 _ (by omega)) d6_91
    by_cases h3 : u = S i
    · have G13 := G12.icmpY d6_92 108 (Jvm.Free.XT.ii_eq_t (by rw [h3]))
      skip
      have G14 := G13.iconst (v := (1 : Int32)) (pc' := 109) d6_108
      have G15 := G14.goto d6_109 113
      have G16 := G15.istore (L' := #[.val (.int (Int32.ofNat tc)), .val (.ref sa), .val (.ref da), .val (.int (Int32.ofNat i)), .val (.int (Int32.ofNat u)), .val (.int (1 : Int32))]) (pc' := 115) d6_113 (XS.store1 (o := o) rfl ho rfl)
      have G17 := G16.aloadN (v := (.ref da)) (pc' := 116) d6_115 rfl
      have G18 := G17.iload (v := (Int32.ofNat u)) (pc' := 118) d6_116 rfl
      have G19 := G18.ldI (i := u) (v := (.int (Int32.ofNat (I u)))) (pc' := 119) VI (own_i _ (by omega)) (AI.2 _ (by omega)) d6_118
      have G20 := G19.ifN d6_119 122 (Jvm.Free.XT.i0_lt_f (own_l0 _ (by omega)))
      have G21 := G20.aloadN (v := (.ref da)) (pc' := 123) d6_122 rfl
      have G22 := G21.iload (v := (Int32.ofNat u)) (pc' := 125) d6_123 rfl
      have G23 := G22.ldI (i := u) (v := (.int (Int32.ofNat (I u)))) (pc' := 126) VI (own_i _ (by omega)) (AI.2 _ (by omega)) d6_125
      have G24 := G23.iloadN (v := (Int32.ofNat tc)) (pc' := 127) d6_126 rfl
      have G25 := G24.icmpN d6_127 130 (Jvm.Free.XT.ii_ge_f ((own_lt _ _ (by omega) (by omega)).mpr hp2.1))
      have G26 := G25.iload (v := (1 : Int32)) (pc' := 132) d6_130 rfl
      have G27 := G26.ifY d6_132 150 (Jvm.Free.XT.i0_ne_t (by decide))
      have G28 := G27.iinc (v := (1 : Int32)) (x := (Int32.ofNat u)) (L' := #[.val (.int (Int32.ofNat tc)), .val (.ref sa), .val (.ref da), .val (.int (Int32.ofNat i)), .val (.int ((Int32.ofNat u) + (1 : Int32))), .val (.int (1 : Int32))]) (pc' := 153) d6_150 rfl rfl
      have G29 := G28.goto d6_153 77
      rw [own_a1] at G29
      exact ih (u + 1) _ (by omega) (by omega) (One.val (w := (.int (1 : Int32))) rfl) G29
    · have G30 := G12.icmpN d6_92 95 (Jvm.Free.XT.ii_eq_f (fun q => h3 ((own_eq _ _ (by omega) (by omega)).mp q)))
      have hI1 := own_Hi H (show u - 1 < M by omega)
      have G31 := G30.aloadN (v := (.ref da)) (pc' := 96) d6_95 rfl
      have G32 := G31.iload (v := (Int32.ofNat u)) (pc' := 98) d6_96 rfl
      have G33 := G32.iconst (v := (1 : Int32)) (pc' := 99) d6_98
      have G34 := G33.isub (pc' := 100) d6_99
      rw [own_s1 u (by omega) (by omega)] at G34
      have G35 := G34.ldI (i := (u - 1)) (v := (.int (Int32.ofNat (I (u - 1))))) (pc' := 101) VI (own_i _ (by omega)) (AI.2 _ (by omega)) d6_100
      have G36 := G35.aloadN (v := (.ref da)) (pc' := 102) d6_101 rfl
      have G37 := G36.iload (v := (Int32.ofNat u)) (pc' := 104) d6_102 rfl
      have G38 := G37.ldI (i := u) (v := (.int (Int32.ofNat (I u)))) (pc' := 105) VI (own_i _ (by omega)) (AI.2 _ (by omega)) d6_104
      have G39 := G38.icmpN d6_105 108 (Jvm.Free.XT.ii_ge_f ((own_lt _ _ (by omega) (by omega)).mpr (hp2.2.resolve_left h3)))
      have G40 := G39.iconst (v := (1 : Int32)) (pc' := 109) d6_108
      have G41 := G40.goto d6_109 113
      have G42 := G41.istore (L' := #[.val (.int (Int32.ofNat tc)), .val (.ref sa), .val (.ref da), .val (.int (Int32.ofNat i)), .val (.int (Int32.ofNat u)), .val (.int (1 : Int32))]) (pc' := 115) d6_113 (XS.store1 (o := o) rfl ho rfl)
      have G43 := G42.aloadN (v := (.ref da)) (pc' := 116) d6_115 rfl
      have G44 := G43.iload (v := (Int32.ofNat u)) (pc' := 118) d6_116 rfl
      have G45 := G44.ldI (i := u) (v := (.int (Int32.ofNat (I u)))) (pc' := 119) VI (own_i _ (by omega)) (AI.2 _ (by omega)) d6_118
      have G46 := G45.ifN d6_119 122 (Jvm.Free.XT.i0_lt_f (own_l0 _ (by omega)))
      have G47 := G46.aloadN (v := (.ref da)) (pc' := 123) d6_122 rfl
      have G48 := G47.iload (v := (Int32.ofNat u)) (pc' := 125) d6_123 rfl
      have G49 := G48.ldI (i := u) (v := (.int (Int32.ofNat (I u)))) (pc' := 126) VI (own_i _ (by omega)) (AI.2 _ (by omega)) d6_125
      have G50 := G49.iloadN (v := (Int32.ofNat tc)) (pc' := 127) d6_126 rfl
      have G51 := G50.icmpN d6_127 130 (Jvm.Free.XT.ii_ge_f ((own_lt _ _ (by omega) (by omega)).mpr hp2.1))
      have G52 := G51.iload (v := (1 : Int32)) (pc' := 132) d6_130 rfl
      have G53 := G52.ifY d6_132 150 (Jvm.Free.XT.i0_ne_t (by decide))
      have G54 := G53.iinc (v := (1 : Int32)) (x := (Int32.ofNat u)) (L' := #[.val (.int (Int32.ofNat tc)), .val (.ref sa), .val (.ref da), .val (.int (Int32.ofNat i)), .val (.int ((Int32.ofNat u) + (1 : Int32))), .val (.int (1 : Int32))]) (pc' := 153) d6_150 rfl rfl
      have G55 := G54.goto d6_153 77
      rw [own_a1] at G55
      exact ih (u + 1) _ (by omega) (by omega) (One.val (w := (.int (1 : Int32))) rfl) G55
set_option maxRecDepth 65536 in
set_option maxHeartbeats 40000000 in
theorem own_chO (p : Program) (l : Launch) (e : Env) (R : Room) (s : State) (m : MethodId) (args : Array Value) (below : List Frame) (meth : Method) (c : Code) (Z : State) (a0 : Array Value) (hw : ∀ d ∈ tables_1, d.before a0 Z = true) (n0 : Nat) (s₀ : State) (h : Heap) (k j : Nat) (tc N M : Nat) (S I : Nat → Nat) (H : own_H tc N M S I) (sa da : Addr) (vS vI : List Value) (VS : Av Z h sa .int vS) (VI : Av Z h da .int vI) (AS : own_A vS (N + 1) S) (AI : own_A vI M I) : ∀ (q i : Nat) (o o2 : Slot), i + q = N → One o → One o2 → Go p l e R s m args below meth c Z "com/example/rhumb/rhumb/InstanceTags" prog_15_method_2_code 6 none n0 s₀ h k j 39 #[.val (.int (Int32.ofNat tc)), .val (.ref sa), .val (.ref da), .val (.int (Int32.ofNat i)), o, o2] [] → ∃ o3 o4 o5, Go p l e R s m args below meth c Z "com/example/rhumb/rhumb/InstanceTags" prog_15_method_2_code 6 none n0 s₀ h k j 162 #[.val (.int (Int32.ofNat tc)), .val (.ref sa), .val (.ref da), o3, o4, o5] [] := by
  intro q
  induction q with
  | zero =>
    intro i o o2 hq ho ho2 G0
    have hM := H.1.2.2.1
    have hN := H.1.2.1
    have htc := H.1.1
    have G1 := G0.iloadN (v := (Int32.ofNat i)) (pc' := 40) d6_39 rfl
    have G2 := G1.iconst (v := (1 : Int32)) (pc' := 41) d6_40
    have G3 := G2.iadd (pc' := 42) d6_41
    rw [own_a1] at G3
    have G4 := G3.aloadN (v := (.ref sa)) (pc' := 43) d6_42 rfl
    have G5 := G4.arrlen (pc' := 44) (v := (Int32.ofNat (N + 1))) VS (by rw [AS.1]; exact own_i _ (by omega)) d6_43
    have G6 := G5.icmpY d6_44 162 (Jvm.Free.XT.ii_ge_t (fun q => by have := (own_lt _ _ (by omega) (by omega)).mp q; omega))
    exact ⟨_, _, _, G6⟩
  | succ q ih =>
    intro i o o2 hq ho ho2 G0
    have hM := H.1.2.2.1
    have hN := H.1.2.1
    have htc := H.1.1
    have G1 := G0.iloadN (v := (Int32.ofNat i)) (pc' := 40) d6_39 rfl
    have G2 := G1.iconst (v := (1 : Int32)) (pc' := 41) d6_40
    have G3 := G2.iadd (pc' := 42) d6_41
    rw [own_a1] at G3
    have G4 := G3.aloadN (v := (.ref sa)) (pc' := 43) d6_42 rfl
    have G5 := G4.arrlen (pc' := 44) (v := (Int32.ofNat (N + 1))) VS (by rw [AS.1]; exact own_i _ (by omega)) d6_43
    have G7 := G5.icmpN d6_44 47 (Jvm.Free.XT.ii_ge_f ((own_lt _ _ (by omega) (by omega)).mpr (by omega)))
    have hi : i < N := by omega
    have hS0 := own_Hl H (show i ≤ N by omega)
    have hS1 := own_Hl H (show i + 1 ≤ N by omega)
    have hS2 := H.2.1 i hi
    have G8 := G7.aloadN (v := (.ref sa)) (pc' := 48) d6_47 rfl
    have G9 := G8.iloadN (v := (Int32.ofNat i)) (pc' := 49) d6_48 rfl
    have G10 := G9.ldI (i := i) (v := (.int (Int32.ofNat (S i)))) (pc' := 50) VS (own_i _ (by omega)) (AS.2 _ (by omega)) d6_49
    have G11 := G10.aloadN (v := (.ref sa)) (pc' := 51) d6_50 rfl
    have G12 := G11.iloadN (v := (Int32.ofNat i)) (pc' := 52) d6_51 rfl
    have G13 := G12.iconst (v := (1 : Int32)) (pc' := 53) d6_52
    have G14 := G13.iadd (pc' := 54) d6_53
    rw [own_a1] at G14
    have G15 := G14.ldI (i := (i + 1)) (v := (.int (Int32.ofNat (S (i + 1))))) (pc' := 55) VS (own_i _ (by omega)) (AS.2 _ (by omega)) d6_54
    have G16 := G15.icmpY d6_55 72 (Jvm.Free.XT.ii_le_t (fun q => by have := (own_lt _ _ (by omega) (by omega)).mp q; omega))
    have G17 := G16.aloadN (v := (.ref sa)) (pc' := 73) d6_72 rfl
    have G18 := G17.iloadN (v := (Int32.ofNat i)) (pc' := 74) d6_73 rfl
    have G19 := G18.ldI (i := i) (v := (.int (Int32.ofNat (S i)))) (pc' := 75) VS (own_i _ (by omega)) (AS.2 _ (by omega)) d6_74
    have G20 := G19.istore (L' := #[.val (.int (Int32.ofNat tc)), .val (.ref sa), .val (.ref da), .val (.int (Int32.ofNat i)), .val (.int (Int32.ofNat (S i))), o2]) (pc' := 77) d6_75 (XS.store1 (o := o) rfl ho rfl)
    obtain ⟨o6, ho6, GX⟩ := own_chI p l e R s m args below meth c Z a0 hw n0 s₀ h k j tc N M S I H sa da vS vI VS VI AS AI i hi (S (i + 1) - S i) (S i) _ (by omega) (Nat.le_refl _) ho2 G20
    have G21 := GX.iinc (v := (1 : Int32)) (x := (Int32.ofNat i)) (L' := #[.val (.int (Int32.ofNat tc)), .val (.ref sa), .val (.ref da), .val (.int ((Int32.ofNat i) + (1 : Int32))), .val (.int (Int32.ofNat (S (i + 1)))), o6]) (pc' := 159) d6_156 rfl rfl
    have G22 := G21.goto d6_159 39
    rw [own_a1] at G22
    exact ih (i + 1) _ _ (by omega) (One.val (w := (.int (Int32.ofNat (S (i + 1))))) rfl) ho6 G22
theorem pn0 : plainName "com/example/rhumb/rhumb/InstanceTags" = true := by first | (simp [plainName, overriddenIn]; done) | decide +kernel
theorem ef6 (m : MethodId) (tc : Nat) (sa : Addr) (da : Addr) : entryFrame m #[(.int (Int32.ofNat tc)), (.ref sa), (.ref da)] 6 = mkF m 0 #[.val (.int (Int32.ofNat tc)), .val (.ref sa), .val (.ref da), .unset, .unset, .unset] [] := by first | (simp [entryFrame, mkF, argsToLocals, Value.category]; done) | rfl
def rm6 : Room := { frames := 0, cells := 0, slots := 0, locals := 0 }
set_option maxRecDepth 65536 in
set_option maxHeartbeats 40000000 in
theorem cn6 (l : Launch) (Z : State) (a0 : Array Value) (hw : ∀ d ∈ tables_1, d.before a0 Z = true) (tc : Nat) (sa : Addr) (da : Addr) (h0 : Heap) (n0 : Nat) (hn : n0 ≤ h0.size) (N M : Nat) (S I : Nat → Nat) (H : own_H tc N M S I) (vS vI : List Value) (VS : Av Z h0 sa .int vS) (VI : Av Z h0 da .int vI) (AS : own_A vS (N + 1) S) (AI : own_A vI M I) :
    Con l (⟨"com/example/rhumb/rhumb/InstanceTags", "checkTagsOfInstances", "(I[I[I)V"⟩ : MethodName) prog_15_method_2_code 6 none [] rm6 rm6.cells rm6.slots Z #[(.int (Int32.ofNat tc)), (.ref sa), (.ref da)] h0 n0 (fun v h => v = none ∧ h = h0) := by
  refine Con.of (plainFor_of_name pn0) hn (fun m => ef6 m tc sa da) ?_
  intro p e s m below meth c s₀ hnm G0
  have hM := H.1.2.2.1
  have hN := H.1.2.1
  have htc := H.1.1
  have hS0 := H.1.2.2.2.1
  have hSN := H.1.2.2.2.2
  have G1 := G0.aloadN (v := (.ref sa)) (pc' := 1) d6_0 rfl
  have G2 := G1.arrlen (pc' := 2) (v := (Int32.ofNat (N + 1))) VS (by rw [AS.1]; exact own_i _ (by omega)) d6_1
  have G3 := G2.ifN d6_2 5 (Jvm.Free.XT.i0_eq_f (fun q => by have := (own_eq (N + 1) 0 (by omega) (by omega)).mp q; omega))
  have G4 := G3.aloadN (v := (.ref sa)) (pc' := 6) d6_5 rfl
  have G5 := G4.iconst (v := (0 : Int32)) (pc' := 7) d6_6
  have G6 := G5.ldI (i := 0) (v := (.int (Int32.ofNat (S 0)))) (pc' := 8) VS (by decide) (AS.2 0 (by omega)) d6_7
  have G7 := G6.ifN d6_8 11 (Jvm.Free.XT.i0_ne_f (by rw [hS0]; rfl))
  have G8 := G7.aloadN (v := (.ref sa)) (pc' := 12) d6_11 rfl
  have G9 := G8.aloadN (v := (.ref sa)) (pc' := 13) d6_12 rfl
  have G10 := G9.arrlen (pc' := 14) (v := (Int32.ofNat (N + 1))) VS (by rw [AS.1]; exact own_i _ (by omega)) d6_13
  have G11 := G10.iconst (v := (1 : Int32)) (pc' := 15) d6_14
  have G12 := G11.isub (pc' := 16) d6_15
  rw [own_s1 (N + 1) (by omega) (by omega)] at G12
  have GQ : Go p l e rm6 s m #[(.int (Int32.ofNat tc)), (.ref sa), (.ref da)] below meth c Z "com/example/rhumb/rhumb/InstanceTags" prog_15_method_2_code 6 none n0 s₀ h0 0 0 16 #[.val (.int (Int32.ofNat tc)), .val (.ref sa), .val (.ref da), .unset, .unset, .unset] [(.int (Int32.ofNat N)), (.ref sa)] := G12
  have G13 := GQ.ldI (i := N) (v := (.int (Int32.ofNat (S N)))) (pc' := 17) VS (own_i _ (by omega)) (AS.2 _ (by omega)) d6_16
  have G14 := G13.aloadN (v := (.ref da)) (pc' := 18) d6_17 rfl
  have G15 := G14.arrlen (pc' := 19) (v := (Int32.ofNat M)) VI (by rw [AI.1]; exact own_i _ (by omega)) d6_18
  have G16 := G15.icmpY d6_19 37 (Jvm.Free.XT.ii_eq_t (by rw [hSN]))
  have G17 := G16.iconst (v := (0 : Int32)) (pc' := 38) d6_37
  have G18 := G17.istoreN (L' := #[.val (.int (Int32.ofNat tc)), .val (.ref sa), .val (.ref da), .val (.int (0 : Int32)), .unset, .unset]) (pc' := 39) d6_38 rfl
  obtain ⟨o3, o4, o5, GX⟩ := own_chO p l e rm6 s m _ below meth c Z a0 hw n0 s₀ h0 0 0 tc N M S I H sa da vS vI VS VI AS AI N 0 _ _ (by omega) One.u One.u G18
  exact GX.retV d6_162 rfl ⟨rfl, rfl⟩
theorem d7_0 : decode prog_15_method_3_code 0 = .ok (.aload_n 0, 1) := by decide +kernel
theorem d7_1 : decode prog_15_method_3_code 1 = .ok (.getfield 21, 3) := by decide +kernel
theorem d7_4 : decode prog_15_method_3_code 4 = .ok (.astore_n 1, 1) := by decide +kernel
theorem d7_5 : decode prog_15_method_3_code 5 = .ok (.aload_n 1, 1) := by decide +kernel
theorem d7_6 : decode prog_15_method_3_code 6 = .ok (.arraylength, 1) := by decide +kernel
theorem d7_7 : decode prog_15_method_3_code 7 = .ok (.istore_n 2, 1) := by decide +kernel
theorem d7_8 : decode prog_15_method_3_code 8 = .ok (.iconst 0, 1) := by decide +kernel
theorem d7_9 : decode prog_15_method_3_code 9 = .ok (.istore_n 3, 1) := by decide +kernel
theorem d7_10 : decode prog_15_method_3_code 10 = .ok (.iload_n 3, 1) := by decide +kernel
theorem d7_11 : decode prog_15_method_3_code 11 = .ok (.iload_n 2, 1) := by decide +kernel
theorem d7_12 : decode prog_15_method_3_code 12 = .ok (.if_icmp .ge 27, 3) := by decide +kernel
theorem d7_15 : decode prog_15_method_3_code 15 = .ok (.aload_n 1, 1) := by decide +kernel
theorem d7_16 : decode prog_15_method_3_code 16 = .ok (.iload_n 3, 1) := by decide +kernel
theorem d7_17 : decode prog_15_method_3_code 17 = .ok (.iaload, 1) := by decide +kernel
theorem d7_18 : decode prog_15_method_3_code 18 = .ok (.istore 4, 2) := by decide +kernel
theorem d7_20 : decode prog_15_method_3_code 20 = .ok (.aload_n 0, 1) := by decide +kernel
theorem d7_21 : decode prog_15_method_3_code 21 = .ok (.getfield 24, 3) := by decide +kernel
theorem d7_24 : decode prog_15_method_3_code 24 = .ok (.iload 4, 2) := by decide +kernel
theorem d7_26 : decode prog_15_method_3_code 26 = .ok (.iconst 1, 1) := by decide +kernel
theorem d7_27 : decode prog_15_method_3_code 27 = .ok (.iadd, 1) := by decide +kernel
theorem d7_28 : decode prog_15_method_3_code 28 = .ok (.dup2, 1) := by decide +kernel
theorem d7_29 : decode prog_15_method_3_code 29 = .ok (.iaload, 1) := by decide +kernel
theorem d7_30 : decode prog_15_method_3_code 30 = .ok (.iconst 1, 1) := by decide +kernel
theorem d7_31 : decode prog_15_method_3_code 31 = .ok (.iadd, 1) := by decide +kernel
theorem d7_32 : decode prog_15_method_3_code 32 = .ok (.iastore, 1) := by decide +kernel
theorem d7_33 : decode prog_15_method_3_code 33 = .ok (.iinc 3 1, 3) := by decide +kernel
theorem d7_36 : decode prog_15_method_3_code 36 = .ok (.goto (-26), 3) := by decide +kernel
theorem d7_39 : decode prog_15_method_3_code 39 = .ok (.iconst 0, 1) := by decide +kernel
theorem d7_40 : decode prog_15_method_3_code 40 = .ok (.istore_n 1, 1) := by decide +kernel
theorem d7_41 : decode prog_15_method_3_code 41 = .ok (.iload_n 1, 1) := by decide +kernel
theorem d7_42 : decode prog_15_method_3_code 42 = .ok (.aload_n 0, 1) := by decide +kernel
theorem d7_43 : decode prog_15_method_3_code 43 = .ok (.getfield 13, 3) := by decide +kernel
theorem d7_46 : decode prog_15_method_3_code 46 = .ok (.if_icmp .ge 26, 3) := by decide +kernel
theorem d7_49 : decode prog_15_method_3_code 49 = .ok (.aload_n 0, 1) := by decide +kernel
theorem d7_50 : decode prog_15_method_3_code 50 = .ok (.getfield 24, 3) := by decide +kernel
theorem d7_53 : decode prog_15_method_3_code 53 = .ok (.iload_n 1, 1) := by decide +kernel
theorem d7_54 : decode prog_15_method_3_code 54 = .ok (.iconst 1, 1) := by decide +kernel
theorem d7_55 : decode prog_15_method_3_code 55 = .ok (.iadd, 1) := by decide +kernel
theorem d7_56 : decode prog_15_method_3_code 56 = .ok (.dup2, 1) := by decide +kernel
theorem d7_57 : decode prog_15_method_3_code 57 = .ok (.iaload, 1) := by decide +kernel
theorem d7_58 : decode prog_15_method_3_code 58 = .ok (.aload_n 0, 1) := by decide +kernel
theorem d7_59 : decode prog_15_method_3_code 59 = .ok (.getfield 24, 3) := by decide +kernel
theorem d7_62 : decode prog_15_method_3_code 62 = .ok (.iload_n 1, 1) := by decide +kernel
theorem d7_63 : decode prog_15_method_3_code 63 = .ok (.iaload, 1) := by decide +kernel
theorem d7_64 : decode prog_15_method_3_code 64 = .ok (.iadd, 1) := by decide +kernel
theorem d7_65 : decode prog_15_method_3_code 65 = .ok (.iastore, 1) := by decide +kernel
theorem d7_66 : decode prog_15_method_3_code 66 = .ok (.iinc 1 1, 3) := by decide +kernel
theorem d7_69 : decode prog_15_method_3_code 69 = .ok (.goto (-28), 3) := by decide +kernel
theorem d7_72 : decode prog_15_method_3_code 72 = .ok (.aload_n 0, 1) := by decide +kernel
theorem d7_73 : decode prog_15_method_3_code 73 = .ok (.getfield 24, 3) := by decide +kernel
theorem d7_76 : decode prog_15_method_3_code 76 = .ok (.aload_n 0, 1) := by decide +kernel
theorem d7_77 : decode prog_15_method_3_code 77 = .ok (.getfield 13, 3) := by decide +kernel
theorem d7_80 : decode prog_15_method_3_code 80 = .ok (.invokestatic 46, 3) := by decide +kernel
theorem d7_83 : decode prog_15_method_3_code 83 = .ok (.astore_n 1, 1) := by decide +kernel
theorem d7_84 : decode prog_15_method_3_code 84 = .ok (.iconst 0, 1) := by decide +kernel
theorem d7_85 : decode prog_15_method_3_code 85 = .ok (.istore_n 2, 1) := by decide +kernel
theorem d7_86 : decode prog_15_method_3_code 86 = .ok (.iload_n 2, 1) := by decide +kernel
theorem d7_87 : decode prog_15_method_3_code 87 = .ok (.aload_n 0, 1) := by decide +kernel
theorem d7_88 : decode prog_15_method_3_code 88 = .ok (.invokevirtual 52, 3) := by decide +kernel
theorem d7_91 : decode prog_15_method_3_code 91 = .ok (.if_icmp .ge 53, 3) := by decide +kernel
theorem d7_94 : decode prog_15_method_3_code 94 = .ok (.aload_n 0, 1) := by decide +kernel
theorem d7_95 : decode prog_15_method_3_code 95 = .ok (.getfield 17, 3) := by decide +kernel
theorem d7_98 : decode prog_15_method_3_code 98 = .ok (.iload_n 2, 1) := by decide +kernel
theorem d7_99 : decode prog_15_method_3_code 99 = .ok (.iaload, 1) := by decide +kernel
theorem d7_100 : decode prog_15_method_3_code 100 = .ok (.istore_n 3, 1) := by decide +kernel
theorem d7_101 : decode prog_15_method_3_code 101 = .ok (.iload_n 3, 1) := by decide +kernel
theorem d7_102 : decode prog_15_method_3_code 102 = .ok (.aload_n 0, 1) := by decide +kernel
theorem d7_103 : decode prog_15_method_3_code 103 = .ok (.getfield 17, 3) := by decide +kernel
theorem d7_106 : decode prog_15_method_3_code 106 = .ok (.iload_n 2, 1) := by decide +kernel
theorem d7_107 : decode prog_15_method_3_code 107 = .ok (.iconst 1, 1) := by decide +kernel
theorem d7_108 : decode prog_15_method_3_code 108 = .ok (.iadd, 1) := by decide +kernel
theorem d7_109 : decode prog_15_method_3_code 109 = .ok (.iaload, 1) := by decide +kernel
theorem d7_110 : decode prog_15_method_3_code 110 = .ok (.if_icmp .ge 28, 3) := by decide +kernel
theorem d7_113 : decode prog_15_method_3_code 113 = .ok (.aload_n 0, 1) := by decide +kernel
theorem d7_114 : decode prog_15_method_3_code 114 = .ok (.getfield 27, 3) := by decide +kernel
theorem d7_117 : decode prog_15_method_3_code 117 = .ok (.aload_n 1, 1) := by decide +kernel
theorem d7_118 : decode prog_15_method_3_code 118 = .ok (.aload_n 0, 1) := by decide +kernel
theorem d7_119 : decode prog_15_method_3_code 119 = .ok (.getfield 21, 3) := by decide +kernel
theorem d7_122 : decode prog_15_method_3_code 122 = .ok (.iload_n 3, 1) := by decide +kernel
theorem d7_123 : decode prog_15_method_3_code 123 = .ok (.iaload, 1) := by decide +kernel
theorem d7_124 : decode prog_15_method_3_code 124 = .ok (.dup2, 1) := by decide +kernel
theorem d7_125 : decode prog_15_method_3_code 125 = .ok (.iaload, 1) := by decide +kernel
theorem d7_126 : decode prog_15_method_3_code 126 = .ok (.dup_x2, 1) := by decide +kernel
theorem d7_127 : decode prog_15_method_3_code 127 = .ok (.iconst 1, 1) := by decide +kernel
theorem d7_128 : decode prog_15_method_3_code 128 = .ok (.iadd, 1) := by decide +kernel
theorem d7_129 : decode prog_15_method_3_code 129 = .ok (.iastore, 1) := by decide +kernel
theorem d7_130 : decode prog_15_method_3_code 130 = .ok (.iload_n 2, 1) := by decide +kernel
theorem d7_131 : decode prog_15_method_3_code 131 = .ok (.iastore, 1) := by decide +kernel
theorem d7_132 : decode prog_15_method_3_code 132 = .ok (.iinc 3 1, 3) := by decide +kernel
theorem d7_135 : decode prog_15_method_3_code 135 = .ok (.goto (-34), 3) := by decide +kernel
theorem d7_138 : decode prog_15_method_3_code 138 = .ok (.iinc 2 1, 3) := by decide +kernel
theorem d7_141 : decode prog_15_method_3_code 141 = .ok (.goto (-55), 3) := by decide +kernel
theorem d7_144 : decode prog_15_method_3_code 144 = .ok (.return_, 1) := by decide +kernel
def own_gA (I : Nat → Nat) (i t : Nat) : Nat := if t = 0 then 0 else own_cn I i (t - 1)
theorem own_gAs (I : Nat → Nat) (i t : Nat) : (if t = I i + 1 then own_gA I i (I i + 1) + 1 else own_gA I i t) = own_gA I (i + 1) t := by
  unfold own_gA
  rw [own_cn]
  by_cases h : t = 0
  · subst h; rw [if_neg (by omega), if_pos rfl, if_pos rfl]
  · rw [if_neg (show ¬ I i + 1 = 0 by omega), if_neg h, if_neg h, Nat.add_sub_cancel]
    by_cases q : t = I i + 1
    · subst q; rw [if_pos rfl, Nat.add_sub_cancel, if_pos rfl]
    · rw [if_neg q, if_neg (by omega)]; omega
theorem own_gAl (I : Nat → Nat) (i t : Nat) : own_gA I i t ≤ i := by
  unfold own_gA
  split
  · omega
  · exact own_cnl _ _ _
def own_gB (I : Nat → Nat) (M i t : Nat) : Nat := if t ≤ i then own_ps I M t else own_gA I M t
theorem own_gB0 (I : Nat → Nat) (M t : Nat) : own_gA I M t = own_gB I M 0 t := by
  unfold own_gB own_gA
  by_cases h : t = 0
  · subst h; rw [if_pos rfl, if_pos (Nat.le_refl _), own_ps0]
  · rw [if_neg h, if_neg (by omega)]
theorem own_gBs (I : Nat → Nat) (M i t : Nat) : (if t = i + 1 then own_gB I M i (i + 1) + own_gB I M i i else own_gB I M i t) = own_gB I M (i + 1) t := by
  unfold own_gB
  by_cases q : t = i + 1
  · subst q
    rw [if_pos rfl, if_neg (by omega), if_pos (Nat.le_refl _), if_pos (Nat.le_refl _), own_pss]
    unfold own_gA
    rw [if_neg (by omega), Nat.add_sub_cancel]; omega
  · rw [if_neg q]
    by_cases r : t ≤ i
    · rw [if_pos r, if_pos (by omega)]
    · rw [if_neg r, if_neg (by omega)]
theorem own_gBl (I : Nat → Nat) (M i t : Nat) : own_gB I M i t ≤ M := by
  unfold own_gB
  split
  · exact own_psl _ _ _
  · exact own_gAl _ _ _
def own_gC (I : Nat → Nat) (M p t : Nat) : Nat := own_ps I M t + own_cn I p t
theorem own_gCs (I : Nat → Nat) (M p t : Nat) : (if t = I p then own_gC I M p (I p) + 1 else own_gC I M p t) = own_gC I M (p + 1) t := by
  unfold own_gC
  rw [own_cn]
  by_cases q : t = I p
  · subst q; rw [if_pos rfl, if_pos rfl]; omega
  · rw [if_neg q, if_neg (fun z => q z.symm)]; omega
set_option maxRecDepth 65536 in
set_option maxHeartbeats 40000000 in
theorem own_ivA (p : Program) (l : Launch) (e : Env) (R : Room) (s : State) (m : MethodId) (args : Array Value) (below : List Frame) (meth : Method) (c : Code) (Z : State) (a0 : Array Value) (hw : ∀ d ∈ tables_1, d.before a0 Z = true) (n0 : Nat) (s₀ : State) (h0 : Heap) (k j : Nat) (tc N M : Nat) (S I : Nat → Nat) (H : own_H tc N M S I) (a da ca : Addr) (vI : List Value) (F0 : Fld Z h0 a "com/example/rhumb/rhumb/InstanceTags" "instanceStart" "[I" (.ref ca)) (VI : Av Z h0 da .int vI) (AI : own_A vI M I) (g_c : n0 ≤ ca) (ne_ac : a ≠ ca) (ne_dc : da ≠ ca) : ∀ (q i : Nat) (hh : Heap) (vs : List Value) (o : Slot), i + q = M → Keep h0 hh [ca] → Av Z hh ca .int vs → own_A vs (tc + 1) (own_gA I i) → One o → Go p l e R s m args below meth c Z "com/example/rhumb/rhumb/InstanceTags" prog_15_method_3_code 5 none n0 s₀ hh k j 10 #[.val (.ref a), .val (.ref da), .val (.int (Int32.ofNat M)), .val (.int (Int32.ofNat i)), o] [] → ∃ hh' vs' o', Keep h0 hh' [ca] ∧ Av Z hh' ca .int vs' ∧ own_A vs' (tc + 1) (own_gA I M) ∧ One o' ∧ Go p l e R s m args below meth c Z "com/example/rhumb/rhumb/InstanceTags" prog_15_method_3_code 5 none n0 s₀ hh' k j 39 #[.val (.ref a), .val (.ref da), .val (.int (Int32.ofNat M)), .val (.int (Int32.ofNat M)), o'] [] := by
  intro q
  induction q with
  | zero =>
    intro i hh vs o hq Kp VC AC ho G0
    have hM := H.1.2.2.1
    have hN := H.1.2.1
    have htc := H.1.1
    have B1 : Fld Z hh a "com/example/rhumb/rhumb/InstanceTags" "instanceStart" "[I" (.ref ca) := F0.keep Kp (ninS ne_ac nin0)
    have B2 : Av Z hh da .int vI := VI.keep Kp (ninS ne_dc nin0)
    have G3 := G0.iloadN (v := (Int32.ofNat i)) (pc' := 11) d7_10 rfl
    have G4 := G3.iloadN (v := (Int32.ofNat M)) (pc' := 12) d7_11 rfl
    have G5 := G4.icmpY d7_12 39 (Jvm.Free.XT.ii_ge_t (fun q => by have := (own_lt _ _ (by omega) (by omega)).mp q; omega))
    obtain rfl : i = M := by omega
    exact ⟨_, _, _, Kp, VC, AC, ho, G5⟩
  | succ q ih =>
    intro i hh vs o hq Kp VC AC ho G0
    have hM := H.1.2.2.1
    have hN := H.1.2.1
    have htc := H.1.1
    have B1 : Fld Z hh a "com/example/rhumb/rhumb/InstanceTags" "instanceStart" "[I" (.ref ca) := F0.keep Kp (ninS ne_ac nin0)
    have B2 : Av Z hh da .int vI := VI.keep Kp (ninS ne_dc nin0)
    have G3 := G0.iloadN (v := (Int32.ofNat i)) (pc' := 11) d7_10 rfl
    have G4 := G3.iloadN (v := (Int32.ofNat M)) (pc' := 12) d7_11 rfl
    have G6 := G4.icmpN d7_12 15 (Jvm.Free.XT.ii_ge_f ((own_lt _ _ (by omega) (by omega)).mpr (by omega)))
    have hI0 := own_Hi H (show i < M by omega)
    have hg := own_gAl I i (I i + 1)
    have G7 := G6.aloadN (v := (.ref da)) (pc' := 16) d7_15 rfl
    have G8 := G7.iloadN (v := (Int32.ofNat i)) (pc' := 17) d7_16 rfl
    have G9 := G8.ldI (i := i) (v := (.int (Int32.ofNat (I i)))) (pc' := 18) B2 (own_i _ (by omega)) (AI.2 _ (by omega)) d7_17
    have G10 := G9.istore (L' := #[.val (.ref a), .val (.ref da), .val (.int (Int32.ofNat M)), .val (.int (Int32.ofNat i)), .val (.int (Int32.ofNat (I i)))]) (pc' := 20) d7_18 (XS.store1 (o := o) rfl ho rfl)
    have G11 := G10.aloadN (v := (.ref a)) (pc' := 21) d7_20 rfl
    have G12 := G11.getF (pc' := 24) (v := (.ref ca)) (host := "") (Or.inl (hw _ (List.mem_of_getElem? (i := 29) rfl))) Via.refl B1 d7_21
    have G13 := G12.iload (v := (Int32.ofNat (I i))) (pc' := 26) d7_24 rfl
    have G14 := G13.iconst (v := (1 : Int32)) (pc' := 27) d7_26
    have G15 := G14.iadd (pc' := 28) d7_27
    rw [own_a1] at G15
    have G16 := G15.dup2 (pc' := 29) d7_28
    have G17 := G16.ldI (i := (I i + 1)) (v := (.int (Int32.ofNat (own_gA I i (I i + 1))))) (pc' := 30) VC (own_i _ (by omega)) (AC.2 _ (by omega)) d7_29
    have G18 := G17.iconst (v := (1 : Int32)) (pc' := 31) d7_30
    have G19 := G18.iadd (pc' := 32) d7_31
    rw [own_a1] at G19
    obtain ⟨h20, W20, V20, G20⟩ := G19.stI (i := (I i + 1)) (pc' := 33) VC g_c (own_i _ (by omega)) (by rw [AC.1]; omega) d7_32
    have K21 : Keep h0 h20 [ca] := Kp.wr W20 (Or.inl (List.mem_of_getElem? (i := 0) rfl))
    have F22 : Fld Z h20 a "com/example/rhumb/rhumb/InstanceTags" "instanceStart" "[I" (.ref ca) := B1.other W20 (Or.inl ne_ac)
    have V23 : Av Z h20 da .int vI := B2.other W20 ne_dc
    have G24 := G20.iinc (v := (1 : Int32)) (x := (Int32.ofNat i)) (L' := #[.val (.ref a), .val (.ref da), .val (.int (Int32.ofNat M)), .val (.int ((Int32.ofNat i) + (1 : Int32))), .val (.int (Int32.ofNat (I i)))]) (pc' := 36) d7_33 rfl rfl
    have G25 := G24.goto d7_36 10
    rw [own_a1] at G25
    exact ih (i + 1) _ _ _ (by omega) K21 V20 (own_Ac (own_As AC (by omega)) (fun t _ => own_gAs I i t)) (One.val (w := (.int (Int32.ofNat (I i)))) rfl) G25
set_option maxRecDepth 65536 in
set_option maxHeartbeats 40000000 in
theorem own_ivB (p : Program) (l : Launch) (e : Env) (R : Room) (s : State) (m : MethodId) (args : Array Value) (below : List Frame) (meth : Method) (c : Code) (Z : State) (a0 : Array Value) (hw : ∀ d ∈ tables_1, d.before a0 Z = true) (n0 : Nat) (s₀ : State) (h0 : Heap) (k j : Nat) (tc N M : Nat) (S I : Nat → Nat) (H : own_H tc N M S I) (a ca : Addr) (F0 : Fld Z h0 a "com/example/rhumb/rhumb/InstanceTags" "instanceStart" "[I" (.ref ca)) (F1 : Fld Z h0 a "com/example/rhumb/rhumb/InstanceTags" "tagCount" "I" (.int (Int32.ofNat tc))) (g_c : n0 ≤ ca) (ne_ac : a ≠ ca) (o2 o3 o4 : Slot) : ∀ (q i : Nat) (hh : Heap) (vs : List Value), i + q = tc → Keep h0 hh [ca] → Av Z hh ca .int vs → own_A vs (tc + 1) (own_gB I M i) → Go p l e R s m args below meth c Z "com/example/rhumb/rhumb/InstanceTags" prog_15_method_3_code 5 none n0 s₀ hh k j 41 #[.val (.ref a), .val (.int (Int32.ofNat i)), o2, o3, o4] [] → ∃ hh' vs', Keep h0 hh' [ca] ∧ Av Z hh' ca .int vs' ∧ own_A vs' (tc + 1) (own_gB I M tc) ∧ Go p l e R s m args below meth c Z "com/example/rhumb/rhumb/InstanceTags" prog_15_method_3_code 5 none n0 s₀ hh' k j 72 #[.val (.ref a), .val (.int (Int32.ofNat tc)), o2, o3, o4] [] := by
  intro q
  induction q with
  | zero =>
    intro i hh vs hq Kp VC AC G0
    have hM := H.1.2.2.1
    have hN := H.1.2.1
    have htc := H.1.1
    have B1 : Fld Z hh a "com/example/rhumb/rhumb/InstanceTags" "instanceStart" "[I" (.ref ca) := F0.keep Kp (ninS ne_ac nin0)
    have B2 : Fld Z hh a "com/example/rhumb/rhumb/InstanceTags" "tagCount" "I" (.int (Int32.ofNat tc)) := F1.keep Kp (ninS ne_ac nin0)
    have G3 := G0.iloadN (v := (Int32.ofNat i)) (pc' := 42) d7_41 rfl
    have G4 := G3.aloadN (v := (.ref a)) (pc' := 43) d7_42 rfl
    have G5 := G4.getF (pc' := 46) (v := (.int (Int32.ofNat tc))) (host := "") (Or.inl (hw _ (List.mem_of_getElem? (i := 23) rfl))) Via.refl B2 d7_43
    have G6 := G5.icmpY d7_46 72 (Jvm.Free.XT.ii_ge_t (fun q => by have := (own_lt _ _ (by omega) (by omega)).mp q; omega))
    obtain rfl : i = tc := by omega
    exact ⟨_, _, Kp, VC, AC, G6⟩
  | succ q ih =>
    intro i hh vs hq Kp VC AC G0
    have hM := H.1.2.2.1
    have hN := H.1.2.1
    have htc := H.1.1
    have B1 : Fld Z hh a "com/example/rhumb/rhumb/InstanceTags" "instanceStart" "[I" (.ref ca) := F0.keep Kp (ninS ne_ac nin0)
    have B2 : Fld Z hh a "com/example/rhumb/rhumb/InstanceTags" "tagCount" "I" (.int (Int32.ofNat tc)) := F1.keep Kp (ninS ne_ac nin0)
    have G3 := G0.iloadN (v := (Int32.ofNat i)) (pc' := 42) d7_41 rfl
    have G4 := G3.aloadN (v := (.ref a)) (pc' := 43) d7_42 rfl
    have G5 := G4.getF (pc' := 46) (v := (.int (Int32.ofNat tc))) (host := "") (Or.inl (hw _ (List.mem_of_getElem? (i := 23) rfl))) Via.refl B2 d7_43
    have G7 := G5.icmpN d7_46 49 (Jvm.Free.XT.ii_ge_f ((own_lt _ _ (by omega) (by omega)).mpr (by omega)))
    have hg1 := own_gBl I M i (i + 1)
    have hg2 := own_gBl I M i i
    have G8 := G7.aloadN (v := (.ref a)) (pc' := 50) d7_49 rfl
    have G9 := G8.getF (pc' := 53) (v := (.ref ca)) (host := "") (Or.inl (hw _ (List.mem_of_getElem? (i := 29) rfl))) Via.refl B1 d7_50
    have G10 := G9.iloadN (v := (Int32.ofNat i)) (pc' := 54) d7_53 rfl
    have G11 := G10.iconst (v := (1 : Int32)) (pc' := 55) d7_54
    have G12 := G11.iadd (pc' := 56) d7_55
    rw [own_a1] at G12
    have G13 := G12.dup2 (pc' := 57) d7_56
    have G14 := G13.ldI (i := (i + 1)) (v := (.int (Int32.ofNat (own_gB I M i (i + 1))))) (pc' := 58) VC (own_i _ (by omega)) (AC.2 _ (by omega)) d7_57
    have G15 := G14.aloadN (v := (.ref a)) (pc' := 59) d7_58 rfl
    have G16 := G15.getF (pc' := 62) (v := (.ref ca)) (host := "") (Or.inl (hw _ (List.mem_of_getElem? (i := 29) rfl))) Via.refl B1 d7_59
    have G17 := G16.iloadN (v := (Int32.ofNat i)) (pc' := 63) d7_62 rfl
    have G18 := G17.ldI (i := i) (v := (.int (Int32.ofNat (own_gB I M i i)))) (pc' := 64) VC (own_i _ (by omega)) (AC.2 _ (by omega)) d7_63
    have G19 := G18.iadd (pc' := 65) d7_64
    rw [own_ad] at G19
    obtain ⟨h20, W20, V20, G20⟩ := G19.stI (i := (i + 1)) (pc' := 66) VC g_c (own_i _ (by omega)) (by rw [AC.1]; omega) d7_65
    have K21 : Keep h0 h20 [ca] := Kp.wr W20 (Or.inl (List.mem_of_getElem? (i := 0) rfl))
    have F22 : Fld Z h20 a "com/example/rhumb/rhumb/InstanceTags" "instanceStart" "[I" (.ref ca) := B1.other W20 (Or.inl ne_ac)
    have F23 : Fld Z h20 a "com/example/rhumb/rhumb/InstanceTags" "tagCount" "I" (.int (Int32.ofNat tc)) := B2.other W20 (Or.inl ne_ac)
    have G24 := G20.iinc (v := (1 : Int32)) (x := (Int32.ofNat i)) (L' := #[.val (.ref a), .val (.int ((Int32.ofNat i) + (1 : Int32))), o2, o3, o4]) (pc' := 69) d7_66 rfl rfl
    have G25 := G24.goto d7_69 41
    rw [own_a1] at G25
    exact ih (i + 1) _ _ (by omega) K21 V20 (own_Ac (own_As AC (by omega)) (fun t _ => own_gBs I M i t)) G25
theorem d9_0 : decode jdk_29_method_69_code 0 = .ok (.iload_n 0, 1) := by decide +kernel
theorem d9_1 : decode jdk_29_method_69_code 1 = .ok (.iload_n 1, 1) := by decide +kernel
theorem d9_2 : decode jdk_29_method_69_code 2 = .ok (.if_icmp .gt 7, 3) := by decide +kernel
theorem d9_5 : decode jdk_29_method_69_code 5 = .ok (.iload_n 0, 1) := by decide +kernel
theorem d9_6 : decode jdk_29_method_69_code 6 = .ok (.goto 4, 3) := by decide +kernel
theorem d9_9 : decode jdk_29_method_69_code 9 = .ok (.iload_n 1, 1) := by decide +kernel
theorem d9_10 : decode jdk_29_method_69_code 10 = .ok (.ireturn, 1) := by decide +kernel
theorem ef9 (m : MethodId) (x0 : Int32) (x1 : Int32) : entryFrame m #[(.int x0), (.int x1)] 2 = mkF m 0 #[.val (.int x0), .val (.int x1)] [] := by first | (simp [entryFrame, mkF, argsToLocals, Value.category]; done) | rfl
def fMin (x0 : Int32) (x1 : Int32) : Int32 := (if x1 < x0 then x1 else x0)
def rm9 : Room := { frames := 0, cells := 0, slots := 0, locals := 0 }
set_option maxRecDepth 65536 in
set_option maxHeartbeats 40000000 in
theorem cn9 (l : Launch) (Z : State) (a0 : Array Value) (hw : ∀ d ∈ tables_1, d.before a0 Z = true) (x0 : Int32) (x1 : Int32) (h0 : Heap) (n0 : Nat) (hn : n0 ≤ h0.size) :
    Con l (⟨"java/lang/Math", "min", "(II)I"⟩ : MethodName) jdk_29_method_69_code 2 (some .int) [] rm9 rm9.cells rm9.slots Z #[(.int x0), (.int x1)] h0 n0 (fun v h => v = some (.int (fMin x0 x1)) ∧ h = h0) := by
  refine Con.of (Jvm.Free.JP.mathPlain rfl (by decide +kernel)) hn (fun m => ef9 m x0 x1) ?_
  intro p e s m below meth c s₀ hnm G0
  have G1 := G0.iloadN (v := x0) (pc' := 1) d9_0 rfl
  have G2 := G1.iloadN (v := x1) (pc' := 2) d9_1 rfl
  by_cases c2_2 : x1 < x0
  · have G3 := G2.icmpY d9_2 9 (Jvm.Free.XT.ii_gt_t c2_2)
    have G4 := G3.iloadN (v := x1) (pc' := 10) d9_9 rfl
    exact G4.retI d9_10 rfl ⟨congrArg (fun z => some (Value.int z)) (by rw [fMin, if_pos c2_2]), rfl⟩
  · have G5 := G2.icmpN d9_2 5 (Jvm.Free.XT.ii_gt_f c2_2)
    have G6 := G5.iloadN (v := x0) (pc' := 6) d9_5 rfl
    have G7 := G6.goto d9_6 10
    exact G7.retI d9_10 rfl ⟨congrArg (fun z => some (Value.int z)) (by rw [fMin, if_neg c2_2]), rfl⟩
theorem own_min (t : Nat) (h : t ≤ 4) : fMin (Int32.ofNat (t + 1)) (Int32.ofNat t) = Int32.ofNat t := by
  unfold fMin
  rw [if_pos ((own_lt _ _ (by omega) (by omega)).mpr (by omega))]
theorem d8_0 : decode jdk_65_method_123_code 0 = .ok (.iload_n 1, 1) := by decide +kernel
theorem d8_1 : decode jdk_65_method_123_code 1 = .ok (.aload_n 0, 1) := by decide +kernel
theorem d8_2 : decode jdk_65_method_123_code 2 = .ok (.arraylength, 1) := by decide +kernel
theorem d8_3 : decode jdk_65_method_123_code 3 = .ok (.if_icmp .ne 11, 3) := by decide +kernel
theorem d8_6 : decode jdk_65_method_123_code 6 = .ok (.aload_n 0, 1) := by decide +kernel
theorem d8_7 : decode jdk_65_method_123_code 7 = .ok (.invokevirtual 316, 3) := by decide +kernel
theorem d8_10 : decode jdk_65_method_123_code 10 = .ok (.checkcast 317, 3) := by decide +kernel
theorem d8_13 : decode jdk_65_method_123_code 13 = .ok (.areturn, 1) := by decide +kernel
theorem d8_14 : decode jdk_65_method_123_code 14 = .ok (.iload_n 1, 1) := by decide +kernel
theorem d8_15 : decode jdk_65_method_123_code 15 = .ok (.newarray .int, 2) := by decide +kernel
theorem d8_17 : decode jdk_65_method_123_code 17 = .ok (.astore_n 2, 1) := by decide +kernel
theorem d8_18 : decode jdk_65_method_123_code 18 = .ok (.aload_n 0, 1) := by decide +kernel
theorem d8_19 : decode jdk_65_method_123_code 19 = .ok (.iconst 0, 1) := by decide +kernel
theorem d8_20 : decode jdk_65_method_123_code 20 = .ok (.aload_n 2, 1) := by decide +kernel
theorem d8_21 : decode jdk_65_method_123_code 21 = .ok (.iconst 0, 1) := by decide +kernel
theorem d8_22 : decode jdk_65_method_123_code 22 = .ok (.aload_n 0, 1) := by decide +kernel
theorem d8_23 : decode jdk_65_method_123_code 23 = .ok (.arraylength, 1) := by decide +kernel
theorem d8_24 : decode jdk_65_method_123_code 24 = .ok (.iload_n 1, 1) := by decide +kernel
theorem d8_25 : decode jdk_65_method_123_code 25 = .ok (.invokestatic 304, 3) := by decide +kernel
theorem d8_28 : decode jdk_65_method_123_code 28 = .ok (.invokestatic 150, 3) := by decide +kernel
theorem d8_31 : decode jdk_65_method_123_code 31 = .ok (.aload_n 2, 1) := by decide +kernel
theorem d8_32 : decode jdk_65_method_123_code 32 = .ok (.areturn, 1) := by decide +kernel
theorem pd0 : parseMethodDescriptor "(II)I" = some ⟨[.int, .int], some .int⟩ := by decide +kernel
theorem own_cpA (tc : Nat) (vs : List Value) (f : Nat → Nat) (A : own_A vs (tc + 1) f) : own_A (List.take 0 (List.replicate tc (Value.int (0 : Int32))) ++ List.take tc (List.drop 0 vs) ++ List.drop (0 + tc) (List.replicate tc (Value.int (0 : Int32)))) tc f := by
  have e : (List.take 0 (List.replicate tc (Value.int (0 : Int32))) ++ List.take tc (List.drop 0 vs) ++ List.drop (0 + tc) (List.replicate tc (Value.int (0 : Int32)))) = List.take tc vs := by simp
  rw [e]
  refine ⟨by rw [List.length_take, A.1]; omega, fun i hi => ?_⟩
  rw [List.getElem?_take_of_lt hi]
  exact A.2 i (by omega)
theorem pn1 : plainName "java/util/Arrays" = true := by first | (simp [plainName, overriddenIn]; done) | decide +kernel
theorem ef8 (m : MethodId) (tc : Nat) (ca : Addr) : entryFrame m #[(.ref ca), (.int (Int32.ofNat tc))] 3 = mkF m 0 #[.val (.ref ca), .val (.int (Int32.ofNat tc)), .unset] [] := by first | (simp [entryFrame, mkF, argsToLocals, Value.category]; done) | rfl
def rm8 : Room := { frames := 1, cells := 1, slots := 4, locals := 18 }
set_option maxRecDepth 65536 in
set_option maxHeartbeats 40000000 in
theorem cn8 (l : Launch) (Z : State) (a0 : Array Value) (hw : ∀ d ∈ tables_1, d.before a0 Z = true) (tc : Nat) (ca : Addr) (h0 : Heap) (n0 : Nat) (hn : n0 ≤ h0.size) (vs : List Value) (VC : Av Z h0 ca .int vs) (f : Nat → Nat) (AC : own_A vs (tc + 1) f) (htc : tc ≤ 4) :
    Con l (⟨"java/util/Arrays", "copyOf", "([II)[I"⟩ : MethodName) jdk_65_method_123_code 3 (some (.array .int)) [] rm8 rm8.cells rm8.slots Z #[(.ref ca), (.int (Int32.ofNat tc))] h0 n0 (fun v h => ∃ (x : Addr) (vs' : List Value), v = some (.ref x) ∧ Keep h0 h [] ∧ h0.size ≤ x ∧ Av Z h x .int vs' ∧ own_A vs' tc f) := by
  refine Con.of (plainFor_of_name pn1) hn (fun m => ef8 m tc ca) ?_
  intro p e s m below meth c s₀ hnm G0
  have K0 : Keep h0 h0 [] := Keep.refl _ _
  have G1 := G0.iloadN (v := (Int32.ofNat tc)) (pc' := 1) d8_0 rfl
  have G2 := G1.aloadN (v := (.ref ca)) (pc' := 2) d8_1 rfl
  have G3 := G2.arrlen (pc' := 3) (v := (Int32.ofNat (tc + 1))) VC (by rw [AC.1]; exact own_i _ (by omega)) d8_2
  have G4 := G3.icmpY d8_3 14 (Jvm.Free.XT.ii_ne_t (fun q => by have := (own_eq _ _ (by omega) (by omega)).mp q; omega))
  have G5 := G4.iloadN (v := (Int32.ofNat tc)) (pc' := 15) d8_14 rfl
  obtain ⟨a6, h6, ea6, g_a6, X6, V6, G6⟩ := G5.newA (ty := .int) (dv := (.int (0 : Int32))) (N := tc) (cap := 4) (pc' := 17) (k' := 1) (j' := 4) (hw _ (List.mem_of_getElem? (i := 0) rfl)) d8_15 rfl rfl (own_i _ (by omega)) htc (by decide) rfl rfl rfl (by decide) (by decide)
  have ne7 : ca ≠ a6 := by rw [ea6]; exact Nat.ne_of_lt VC.lt
  have sz6 : h0.size ≤ a6 := by rw [ea6]; exact K0.1
  have V8 : Av Z h6 ca .int vs := VC.ext X6
  have K9 : Keep h0 h6 [] := K0.ext X6
  have G10 := G6.astoreN (L' := #[.val (.ref ca), .val (.int (Int32.ofNat tc)), .val (.ref a6)]) (pc' := 18) d8_17 rfl
  have G11 := G10.aloadN (v := (.ref ca)) (pc' := 19) d8_18 rfl
  have G12 := G11.iconst (v := (0 : Int32)) (pc' := 20) d8_19
  have G13 := G12.aloadN (v := (.ref a6)) (pc' := 21) d8_20 rfl
  have G14 := G13.iconst (v := (0 : Int32)) (pc' := 22) d8_21
  have G15 := G14.aloadN (v := (.ref ca)) (pc' := 23) d8_22 rfl
  have G16 := G15.arrlen (pc' := 24) (v := (Int32.ofNat (tc + 1))) V8 (by rw [AC.1]; exact own_i _ (by omega)) d8_23
  have G17 := G16.iloadN (v := (Int32.ofNat tc)) (pc' := 25) d8_24 rfl
  obtain ⟨v18, h18, ⟨ev18, eh18⟩, g18⟩ := G17.callS (argsL := [(.int (Int32.ofNat (tc + 1))), (.int (Int32.ofNat tc))]) (rest := [(.int (0 : Int32)), (.ref a6), (.int (0 : Int32)), (.ref ca)]) (pc' := 28) (k' := 1) (j' := 4) (cn9 l Z a0 hw (Int32.ofNat (tc + 1)) (Int32.ofNat tc) h6 n0 G17.size) rfl (hw _ (List.mem_of_getElem? (i := 41) rfl)) (hw _ (List.mem_of_getElem? (i := 42) rfl)) (hw _ (List.mem_of_getElem? (i := 43) rfl)) (hw _ (List.mem_of_getElem? (i := 44) rfl)) (by decide) d8_25 pd0 rfl (W := 4) rfl rfl (by decide) (by decide) (by decide) (by decide) rfl rfl rfl
  subst ev18
  rw [eh18] at g18
  have G18 := g18 [(.int (fMin (Int32.ofNat (tc + 1)) (Int32.ofNat tc))), (.int (0 : Int32)), (.ref a6), (.int (0 : Int32)), (.ref ca)] rfl
  rw [own_min tc htc] at G18
  obtain ⟨h19, K19, V19, G19⟩ := G18.cp (s' := 0) (d' := 0) (n' := tc) (pc' := 31) V8 V6 rfl g_a6 (hw _ (List.mem_of_getElem? (i := 45) rfl)) (hw _ (List.mem_of_getElem? (i := 48) rfl)) (hw _ (List.mem_of_getElem? (i := 46) rfl)) (hw _ (List.mem_of_getElem? (i := 47) rfl)) (by decide) (by decide) (own_i _ (by omega)) (by rw [AC.1]; omega) (by rw [List.length_replicate]; omega) d8_28 (W := 0) rfl rfl (by decide) (by decide)
  have V20 : Av Z h19 ca .int vs := V8.keep K19 (ninS ne7 nin0)
  have K21 : Keep h0 h19 [] := K9.trans K19 (allS (Or.inr sz6) all0)
  have G22 := G19.aloadN (v := (.ref a6)) (pc' := 32) d8_31 rfl
  exact G22.retA d8_32 rfl rfl rfl ⟨a6, _, rfl, K21, sz6, V19, own_cpA tc vs f AC⟩
theorem d10_0 : decode prog_15_method_4_code 0 = .ok (.aload_n 0, 1) := by decide +kernel
theorem d10_1 : decode prog_15_method_4_code 1 = .ok (.getfield 17, 3) := by decide +kernel
theorem d10_4 : decode prog_15_method_4_code 4 = .ok (.arraylength, 1) := by decide +kernel
theorem d10_5 : decode prog_15_method_4_code 5 = .ok (.iconst 1, 1) := by decide +kernel
theorem d10_6 : decode prog_15_method_4_code 6 = .ok (.isub, 1) := by decide +kernel
theorem d10_7 : decode prog_15_method_4_code 7 = .ok (.ireturn, 1) := by decide +kernel
theorem ef10 (m : MethodId) (a : Addr) : entryFrame m #[(.ref a)] 1 = mkF m 0 #[.val (.ref a)] [] := by first | (simp [entryFrame, mkF, argsToLocals, Value.category]; done) | rfl
def rm10 : Room := { frames := 0, cells := 0, slots := 0, locals := 0 }
set_option maxRecDepth 65536 in
set_option maxHeartbeats 40000000 in
theorem cn10 (l : Launch) (Z : State) (a0 : Array Value) (hw : ∀ d ∈ tables_1, d.before a0 Z = true) (a : Addr) (h0 : Heap) (n0 : Nat) (hn : n0 ≤ h0.size) (sa : Addr) (vS : List Value) (N : Nat) (S : Nat → Nat) (hN : N ≤ 6) (F0 : Fld Z h0 a "com/example/rhumb/rhumb/InstanceTags" "tagStart" "[I" (.ref sa)) (VS : Av Z h0 sa .int vS) (AS : own_A vS (N + 1) S) :
    Con l (⟨"com/example/rhumb/rhumb/InstanceTags", "instanceCount", "()I"⟩ : MethodName) prog_15_method_4_code 1 (some .int) [] rm10 rm10.cells rm10.slots Z #[(.ref a)] h0 n0 (fun v h => v = some (.int (Int32.ofNat N)) ∧ h = h0) := by
  refine Con.of (plainFor_of_name pn0) hn (fun m => ef10 m a) ?_
  intro p e s m below meth c s₀ hnm G0
  have G1 := G0.aloadN (v := (.ref a)) (pc' := 1) d10_0 rfl
  have G2 := G1.getF (pc' := 4) (v := (.ref sa)) (host := "") (Or.inl (hw _ (List.mem_of_getElem? (i := 25) rfl))) Via.refl F0 d10_1
  have G3 := G2.arrlen (pc' := 5) (v := (Int32.ofNat (N + 1))) VS (by rw [AS.1]; exact own_i _ (by omega)) d10_4
  have G4 := G3.iconst (v := (1 : Int32)) (pc' := 6) d10_5
  have G5 := G4.isub (pc' := 7) d10_6
  rw [own_s1 (N + 1) (by omega) (by omega)] at G5
  exact G5.retI d10_7 rfl ⟨rfl, rfl⟩
set_option maxRecDepth 65536 in
set_option maxHeartbeats 40000000 in
theorem own_ivC (p : Program) (l : Launch) (e : Env) (R : Room) (s : State) (m : MethodId) (args : Array Value) (below : List Frame) (meth : Method) (c : Code) (Z : State) (a0 : Array Value) (hw : ∀ d ∈ tables_1, d.before a0 Z = true) (n0 : Nat) (s₀ : State) (h0 : Heap) (k j : Nat) (tc N M : Nat) (S I : Nat → Nat) (H : own_H tc N M S I) (a xa sa da ea : Addr) (vS vI : List Value) (Fs : Fld Z h0 a "com/example/rhumb/rhumb/InstanceTags" "tagStart" "[I" (.ref sa)) (Fd : Fld Z h0 a "com/example/rhumb/rhumb/InstanceTags" "tagIds" "[I" (.ref da)) (Fe : Fld Z h0 a "com/example/rhumb/rhumb/InstanceTags" "instanceIds" "[I" (.ref ea)) (VS : Av Z h0 sa .int vS) (AS : own_A vS (N + 1) S) (VI : Av Z h0 da .int vI) (AI : own_A vI M I) (g_x : n0 ≤ xa) (g_e : n0 ≤ ea) (ne_ax : a ≠ xa) (ne_ae : a ≠ ea) (ne_sx : sa ≠ xa) (ne_se : sa ≠ ea) (ne_dx : da ≠ xa) (ne_de : da ≠ ea) (ne_xe : xa ≠ ea) (i : Nat) (hi : i < N) (o : Slot) : ∀ (q u : Nat) (hh : Heap) (vx ve : List Value), u + q = S (i + 1) → S i ≤ u → Keep h0 hh [xa, ea] → Av Z hh xa .int vx → own_A vx tc (own_gC I M u) → Av Z hh ea .int ve → ve.length = M → Go p l e R s m args below meth c Z "com/example/rhumb/rhumb/InstanceTags" prog_15_method_3_code 5 none n0 s₀ hh k j 101 #[.val (.ref a), .val (.ref xa), .val (.int (Int32.ofNat i)), .val (.int (Int32.ofNat u)), o] [] → ∃ hh' vx' ve', Keep h0 hh' [xa, ea] ∧ Av Z hh' xa .int vx' ∧ own_A vx' tc (own_gC I M (S (i + 1))) ∧ Av Z hh' ea .int ve' ∧ ve'.length = M ∧ Go p l e R s m args below meth c Z "com/example/rhumb/rhumb/InstanceTags" prog_15_method_3_code 5 none n0 s₀ hh' k j 138 #[.val (.ref a), .val (.ref xa), .val (.int (Int32.ofNat i)), .val (.int (Int32.ofNat (S (i + 1)))), o] [] := by
  intro q
  induction q with
  | zero =>
    intro u hh vx ve hq hu Kp VX AX VE hve G0
    have hM := H.1.2.2.1
    have hN := H.1.2.1
    have htc := H.1.1
    have hS0 := own_Hl H (show i ≤ N by omega)
    have hS1 := own_Hl H (show i + 1 ≤ N by omega)
    have B1 : Fld Z hh a "com/example/rhumb/rhumb/InstanceTags" "tagStart" "[I" (.ref sa) := Fs.keep Kp (ninS ne_ax (ninS ne_ae nin0))
    have B2 : Fld Z hh a "com/example/rhumb/rhumb/InstanceTags" "tagIds" "[I" (.ref da) := Fd.keep Kp (ninS ne_ax (ninS ne_ae nin0))
    have B3 : Fld Z hh a "com/example/rhumb/rhumb/InstanceTags" "instanceIds" "[I" (.ref ea) := Fe.keep Kp (ninS ne_ax (ninS ne_ae nin0))
    have B4 : Av Z hh sa .int vS := VS.keep Kp (ninS ne_sx (ninS ne_se nin0))
    have B5 : Av Z hh da .int vI := VI.keep Kp (ninS ne_dx (ninS ne_de nin0))
    have G6 := G0.iloadN (v := (Int32.ofNat u)) (pc' := 102) d7_101 rfl
    have G7 := G6.aloadN (v := (.ref a)) (pc' := 103) d7_102 rfl
    have G8 := G7.getF (pc' := 106) (v := (.ref sa)) (host := "") (Or.inl (hw _ (List.mem_of_getElem? (i := 25) rfl))) Via.refl B1 d7_103
    have G9 := G8.iloadN (v := (Int32.ofNat i)) (pc' := 107) d7_106 rfl
    have G10 := G9.iconst (v := (1 : Int32)) (pc' := 108) d7_107
    have G11 := G10.iadd (pc' := 109) d7_108
    rw [own_a1] at G11
    have G12 := G11.ldI (i := (i + 1)) (v := (.int (Int32.ofNat (S (i + 1))))) (pc' := 110) B4 (own_i _ (by omega)) (AS.2 _ (by omega)) d7_109
    have G13 := G12.icmpY d7_110 138 (Jvm.Free.XT.ii_ge_t (fun q => by have := (own_lt _ _ (by omega) (by omega)).mp q; omega))
    obtain rfl : u = S (i + 1) := by omega
    exact ⟨_, _, _, Kp, VX, AX, VE, hve, G13⟩
  | succ q ih =>
    intro u hh vx ve hq hu Kp VX AX VE hve G0
    have hM := H.1.2.2.1
    have hN := H.1.2.1
    have htc := H.1.1
    have hS0 := own_Hl H (show i ≤ N by omega)
    have hS1 := own_Hl H (show i + 1 ≤ N by omega)
    have B1 : Fld Z hh a "com/example/rhumb/rhumb/InstanceTags" "tagStart" "[I" (.ref sa) := Fs.keep Kp (ninS ne_ax (ninS ne_ae nin0))
    have B2 : Fld Z hh a "com/example/rhumb/rhumb/InstanceTags" "tagIds" "[I" (.ref da) := Fd.keep Kp (ninS ne_ax (ninS ne_ae nin0))
    have B3 : Fld Z hh a "com/example/rhumb/rhumb/InstanceTags" "instanceIds" "[I" (.ref ea) := Fe.keep Kp (ninS ne_ax (ninS ne_ae nin0))
    have B4 : Av Z hh sa .int vS := VS.keep Kp (ninS ne_sx (ninS ne_se nin0))
    have B5 : Av Z hh da .int vI := VI.keep Kp (ninS ne_dx (ninS ne_de nin0))
    have G6 := G0.iloadN (v := (Int32.ofNat u)) (pc' := 102) d7_101 rfl
    have G7 := G6.aloadN (v := (.ref a)) (pc' := 103) d7_102 rfl
    have G8 := G7.getF (pc' := 106) (v := (.ref sa)) (host := "") (Or.inl (hw _ (List.mem_of_getElem? (i := 25) rfl))) Via.refl B1 d7_103
    have G9 := G8.iloadN (v := (Int32.ofNat i)) (pc' := 107) d7_106 rfl
    have G10 := G9.iconst (v := (1 : Int32)) (pc' := 108) d7_107
    have G11 := G10.iadd (pc' := 109) d7_108
    rw [own_a1] at G11
    have G12 := G11.ldI (i := (i + 1)) (v := (.int (Int32.ofNat (S (i + 1))))) (pc' := 110) B4 (own_i _ (by omega)) (AS.2 _ (by omega)) d7_109
    have G14 := G12.icmpN d7_110 113 (Jvm.Free.XT.ii_ge_f ((own_lt _ _ (by omega) (by omega)).mpr (by omega)))
    have huM : u < M := by omega
    have hI0 := own_Hi H huM
    have hnx : own_gC I M u (I u) < M := own_nxb I u M huM
    have G15 := G14.aloadN (v := (.ref a)) (pc' := 114) d7_113 rfl
    have G16 := G15.getF (pc' := 117) (v := (.ref ea)) (host := "") (Or.inl (hw _ (List.mem_of_getElem? (i := 31) rfl))) Via.refl B3 d7_114
    have G17 := G16.aloadN (v := (.ref xa)) (pc' := 118) d7_117 rfl
    have G18 := G17.aloadN (v := (.ref a)) (pc' := 119) d7_118 rfl
    have G19 := G18.getF (pc' := 122) (v := (.ref da)) (host := "") (Or.inl (hw _ (List.mem_of_getElem? (i := 27) rfl))) Via.refl B2 d7_119
    have G20 := G19.iloadN (v := (Int32.ofNat u)) (pc' := 123) d7_122 rfl
    have G21 := G20.ldI (i := u) (v := (.int (Int32.ofNat (I u)))) (pc' := 124) B5 (own_i _ (by omega)) (AI.2 _ (by omega)) d7_123
    have G22 := G21.dup2 (pc' := 125) d7_124
    have G23 := G22.ldI (i := (I u)) (v := (.int (Int32.ofNat (own_gC I M u (I u))))) (pc' := 126) VX (own_i _ (by omega)) (AX.2 _ (by omega)) d7_125
    have G24 := G23.dupX2 (pc' := 127) d7_126
    have G25 := G24.iconst (v := (1 : Int32)) (pc' := 128) d7_127
    have G26 := G25.iadd (pc' := 129) d7_128
    rw [own_a1] at G26
    obtain ⟨h27, W27, V27, G27⟩ := G26.stI (i := (I u)) (pc' := 130) VX g_x (own_i _ (by omega)) (by rw [AX.1]; omega) d7_129
    have V28 : Av Z h27 ea .int ve := VE.other W27 (Ne.symm ne_xe)
    have K29 : Keep h0 h27 [xa, ea] := Kp.wr W27 (Or.inl (List.mem_of_getElem? (i := 0) rfl))
    have F30 : Fld Z h27 a "com/example/rhumb/rhumb/InstanceTags" "tagStart" "[I" (.ref sa) := B1.other W27 (Or.inl ne_ax)
    have F31 : Fld Z h27 a "com/example/rhumb/rhumb/InstanceTags" "tagIds" "[I" (.ref da) := B2.other W27 (Or.inl ne_ax)
    have F32 : Fld Z h27 a "com/example/rhumb/rhumb/InstanceTags" "instanceIds" "[I" (.ref ea) := B3.other W27 (Or.inl ne_ax)
    have V33 : Av Z h27 sa .int vS := B4.other W27 ne_sx
    have V34 : Av Z h27 da .int vI := B5.other W27 ne_dx
    have G35 := G27.iloadN (v := (Int32.ofNat i)) (pc' := 131) d7_130 rfl
    obtain ⟨h36, W36, V36, G36⟩ := G35.stI (i := (own_gC I M u (I u))) (pc' := 132) V28 g_e (own_i _ (by omega)) (by rw [hve]; omega) d7_131
    have V37 : Av Z h36 xa .int (List.set vx ((I u)) (.int (Int32.ofNat (own_gC I M u (I u) + 1)))) := V27.other W36 ne_xe
    have K38 : Keep h0 h36 [xa, ea] := K29.wr W36 (Or.inl (List.mem_of_getElem? (i := 1) rfl))
    have F39 : Fld Z h36 a "com/example/rhumb/rhumb/InstanceTags" "tagStart" "[I" (.ref sa) := F30.other W36 (Or.inl ne_ae)
    have F40 : Fld Z h36 a "com/example/rhumb/rhumb/InstanceTags" "tagIds" "[I" (.ref da) := F31.other W36 (Or.inl ne_ae)
    have F41 : Fld Z h36 a "com/example/rhumb/rhumb/InstanceTags" "instanceIds" "[I" (.ref ea) := F32.other W36 (Or.inl ne_ae)
    have V42 : Av Z h36 sa .int vS := V33.other W36 ne_se
    have V43 : Av Z h36 da .int vI := V34.other W36 ne_de
    have G44 := G36.iinc (v := (1 : Int32)) (x := (Int32.ofNat u)) (L' := #[.val (.ref a), .val (.ref xa), .val (.int (Int32.ofNat i)), .val (.int ((Int32.ofNat u) + (1 : Int32))), o]) (pc' := 135) d7_132 rfl rfl
    have G45 := G44.goto d7_135 101
    rw [own_a1] at G45
    exact ih (u + 1) _ _ _ (by omega) (by omega) K38 V37 (own_Ac (own_As AX (by omega)) (fun t _ => own_gCs I M u t)) V36 (by rw [List.length_set]; exact hve) G45
theorem pd1 : parseMethodDescriptor "()I" = some ⟨[], some .int⟩ := by decide +kernel
set_option maxRecDepth 65536 in
set_option maxHeartbeats 40000000 in
theorem own_ivD (p : Program) (l : Launch) (e : Env) (R : Room) (s : State) (m : MethodId) (args : Array Value) (below : List Frame) (meth : Method) (c : Code) (Z : State) (a0 : Array Value) (hw : ∀ d ∈ tables_1, d.before a0 Z = true) (n0 : Nat) (s₀ : State) (h0 : Heap) (k j : Nat) (tc N M : Nat) (S I : Nat → Nat) (H : own_H tc N M S I) (a xa sa da ea : Addr) (vS vI : List Value) (Fs : Fld Z h0 a "com/example/rhumb/rhumb/InstanceTags" "tagStart" "[I" (.ref sa)) (Fd : Fld Z h0 a "com/example/rhumb/rhumb/InstanceTags" "tagIds" "[I" (.ref da)) (Fe : Fld Z h0 a "com/example/rhumb/rhumb/InstanceTags" "instanceIds" "[I" (.ref ea)) (VS : Av Z h0 sa .int vS) (AS : own_A vS (N + 1) S) (VI : Av Z h0 da .int vI) (AI : own_A vI M I) (g_x : n0 ≤ xa) (g_e : n0 ≤ ea) (ne_ax : a ≠ xa) (ne_ae : a ≠ ea) (ne_sx : sa ≠ xa) (ne_se : sa ≠ ea) (ne_dx : da ≠ xa) (ne_de : da ≠ ea) (ne_xe : xa ≠ ea) (E0 : Exa Z h0 a "com/example/rhumb/rhumb/InstanceTags") (o : Slot) (hRf : 1 ≤ R.frames) (hRl : 13 ≤ R.locals) (hkR : k ≤ R.cells) (hjR : j ≤ R.slots) : ∀ (q i : Nat) (hh : Heap) (vx ve : List Value) (o3 : Slot), i + q = N → Keep h0 hh [xa, ea] → Av Z hh xa .int vx → own_A vx tc (own_gC I M (S i)) → Av Z hh ea .int ve → ve.length = M → One o3 → Go p l e R s m args below meth c Z "com/example/rhumb/rhumb/InstanceTags" prog_15_method_3_code 5 none n0 s₀ hh k j 86 #[.val (.ref a), .val (.ref xa), .val (.int (Int32.ofNat i)), o3, o] [] → ∃ hh' o4 o5, Keep h0 hh' [xa, ea] ∧ Go p l e R s m args below meth c Z "com/example/rhumb/rhumb/InstanceTags" prog_15_method_3_code 5 none n0 s₀ hh' k j 144 #[.val (.ref a), .val (.ref xa), o4, o5, o] [] := by
  intro q
  induction q with
  | zero =>
    intro i hh vx ve o3 hq Kp VX AX VE hve ho3 G0
    have hM := H.1.2.2.1
    have hN := H.1.2.1
    have htc := H.1.1
    have B1 : Fld Z hh a "com/example/rhumb/rhumb/InstanceTags" "tagStart" "[I" (.ref sa) := Fs.keep Kp (ninS ne_ax (ninS ne_ae nin0))
    have B2 : Fld Z hh a "com/example/rhumb/rhumb/InstanceTags" "tagIds" "[I" (.ref da) := Fd.keep Kp (ninS ne_ax (ninS ne_ae nin0))
    have B3 : Fld Z hh a "com/example/rhumb/rhumb/InstanceTags" "instanceIds" "[I" (.ref ea) := Fe.keep Kp (ninS ne_ax (ninS ne_ae nin0))
    have B4 : Av Z hh sa .int vS := VS.keep Kp (ninS ne_sx (ninS ne_se nin0))
    have B5 : Av Z hh da .int vI := VI.keep Kp (ninS ne_dx (ninS ne_de nin0))
    have B6 : Exa Z hh a "com/example/rhumb/rhumb/InstanceTags" := E0.keep Kp
    have G7 := G0.iloadN (v := (Int32.ofNat i)) (pc' := 87) d7_86 rfl
    have G8 := G7.aloadN (v := (.ref a)) (pc' := 88) d7_87 rfl
    obtain ⟨v9, h9, ⟨ev9, eh9⟩, g9⟩ := G8.callV (argsL := []) (rest := [(.int (Int32.ofNat i))]) (pc' := 91) (k' := k) (j' := j) (cn10 l Z a0 hw a hh n0 G8.size sa vS N S hN B1 B4 AS) rfl B6 (hw _ (List.mem_of_getElem? (i := 49) rfl)) (hw _ (List.mem_of_getElem? (i := 50) rfl)) (hw _ (List.mem_of_getElem? (i := 52) rfl)) (hw _ (List.mem_of_getElem? (i := 51) rfl)) (hw _ (List.mem_of_getElem? (i := 13) rfl)) (hw _ (List.mem_of_getElem? (i := 53) rfl)) (by decide) d7_88 pd1 rfl (W := 1) rfl rfl hRf hRl hkR hjR rfl rfl rfl
    subst ev9
    rw [eh9] at g9
    have G9 := g9 [(.int (Int32.ofNat N)), (.int (Int32.ofNat i))] rfl
    have G10 := G9.icmpY d7_91 144 (Jvm.Free.XT.ii_ge_t (fun q => by have := (own_lt _ _ (by omega) (by omega)).mp q; omega))
    obtain rfl : i = N := by omega
    exact ⟨_, _, _, Kp, G10⟩
  | succ q ih =>
    intro i hh vx ve o3 hq Kp VX AX VE hve ho3 G0
    have hM := H.1.2.2.1
    have hN := H.1.2.1
    have htc := H.1.1
    have B1 : Fld Z hh a "com/example/rhumb/rhumb/InstanceTags" "tagStart" "[I" (.ref sa) := Fs.keep Kp (ninS ne_ax (ninS ne_ae nin0))
    have B2 : Fld Z hh a "com/example/rhumb/rhumb/InstanceTags" "tagIds" "[I" (.ref da) := Fd.keep Kp (ninS ne_ax (ninS ne_ae nin0))
    have B3 : Fld Z hh a "com/example/rhumb/rhumb/InstanceTags" "instanceIds" "[I" (.ref ea) := Fe.keep Kp (ninS ne_ax (ninS ne_ae nin0))
    have B4 : Av Z hh sa .int vS := VS.keep Kp (ninS ne_sx (ninS ne_se nin0))
    have B5 : Av Z hh da .int vI := VI.keep Kp (ninS ne_dx (ninS ne_de nin0))
    have B6 : Exa Z hh a "com/example/rhumb/rhumb/InstanceTags" := E0.keep Kp
    have G7 := G0.iloadN (v := (Int32.ofNat i)) (pc' := 87) d7_86 rfl
    have G8 := G7.aloadN (v := (.ref a)) (pc' := 88) d7_87 rfl
    obtain ⟨v9, h9, ⟨ev9, eh9⟩, g9⟩ := G8.callV (argsL := []) (rest := [(.int (Int32.ofNat i))]) (pc' := 91) (k' := k) (j' := j) (cn10 l Z a0 hw a hh n0 G8.size sa vS N S hN B1 B4 AS) rfl B6 (hw _ (List.mem_of_getElem? (i := 49) rfl)) (hw _ (List.mem_of_getElem? (i := 50) rfl)) (hw _ (List.mem_of_getElem? (i := 52) rfl)) (hw _ (List.mem_of_getElem? (i := 51) rfl)) (hw _ (List.mem_of_getElem? (i := 13) rfl)) (hw _ (List.mem_of_getElem? (i := 53) rfl)) (by decide) d7_88 pd1 rfl (W := 1) rfl rfl hRf hRl hkR hjR rfl rfl rfl
    subst ev9
    rw [eh9] at g9
    have G9 := g9 [(.int (Int32.ofNat N)), (.int (Int32.ofNat i))] rfl
    have G11 := G9.icmpN d7_91 94 (Jvm.Free.XT.ii_ge_f ((own_lt _ _ (by omega) (by omega)).mpr (by omega)))
    have hi : i < N := by omega
    have hS0 := own_Hl H (show i ≤ N by omega)
    have hS1 := own_Hl H (show i + 1 ≤ N by omega)
    have hS2 := H.2.1 i hi
    have G12 := G11.aloadN (v := (.ref a)) (pc' := 95) d7_94 rfl
    have G13 := G12.getF (pc' := 98) (v := (.ref sa)) (host := "") (Or.inl (hw _ (List.mem_of_getElem? (i := 25) rfl))) Via.refl B1 d7_95
    have G14 := G13.iloadN (v := (Int32.ofNat i)) (pc' := 99) d7_98 rfl
    have G15 := G14.ldI (i := i) (v := (.int (Int32.ofNat (S i)))) (pc' := 100) B4 (own_i _ (by omega)) (AS.2 _ (by omega)) d7_99
    have G16 := G15.istoreN (L' := #[.val (.ref a), .val (.ref xa), .val (.int (Int32.ofNat i)), .val (.int (Int32.ofNat (S i))), o]) (pc' := 101) d7_100 (XS.store1 (o := o3) rfl ho3 rfl)
    obtain ⟨h9, vx9, ve9, K9, VX9, AX9, VE9, hve9, G9⟩ := own_ivC p l e R s m args below meth c Z a0 hw n0 s₀ h0 k j tc N M S I H a xa sa da ea vS vI Fs Fd Fe VS AS VI AI g_x g_e ne_ax ne_ae ne_sx ne_se ne_dx ne_de ne_xe i hi _ (S (i + 1) - S i) (S i) _ _ _ (by omega) (Nat.le_refl _) Kp VX AX VE hve G16
    have G17 := G9.iinc (v := (1 : Int32)) (x := (Int32.ofNat i)) (L' := #[.val (.ref a), .val (.ref xa), .val (.int ((Int32.ofNat i) + (1 : Int32))), .val (.int (Int32.ofNat (S (i + 1)))), o]) (pc' := 141) d7_138 rfl rfl
    have G18 := G17.goto d7_141 86
    rw [own_a1] at G18
    exact ih (i + 1) _ _ _ _ (by omega) K9 VX9 AX9 VE9 hve9 (One.val (w := (.int (Int32.ofNat (S (i + 1))))) rfl) G18
theorem pd2 : parseMethodDescriptor "([II)[I" = some ⟨[(.array .int), .int], some (.array .int)⟩ := by decide +kernel
theorem ef7 (m : MethodId) (a : Addr) : entryFrame m #[(.ref a)] 5 = mkF m 0 #[.val (.ref a), .unset, .unset, .unset, .unset] [] := by first | (simp [entryFrame, mkF, argsToLocals, Value.category]; done) | rfl
def rm7 : Room := { frames := 2, cells := 1, slots := 4, locals := 32 }
set_option maxRecDepth 65536 in
set_option maxHeartbeats 40000000 in
theorem cn7 (l : Launch) (Z : State) (a0 : Array Value) (hw : ∀ d ∈ tables_1, d.before a0 Z = true) (a : Addr) (h0 : Heap) (n0 : Nat) (hn : n0 ≤ h0.size) (tc N M : Nat) (S I : Nat → Nat) (H : own_H tc N M S I) (sa da ca ea : Addr) (vS vI vC vE : List Value) (E0 : Exa Z h0 a "com/example/rhumb/rhumb/InstanceTags") (F1 : Fld Z h0 a "com/example/rhumb/rhumb/InstanceTags" "tagCount" "I" (.int (Int32.ofNat tc))) (Fs : Fld Z h0 a "com/example/rhumb/rhumb/InstanceTags" "tagStart" "[I" (.ref sa)) (Fd : Fld Z h0 a "com/example/rhumb/rhumb/InstanceTags" "tagIds" "[I" (.ref da)) (F0 : Fld Z h0 a "com/example/rhumb/rhumb/InstanceTags" "instanceStart" "[I" (.ref ca)) (Fe : Fld Z h0 a "com/example/rhumb/rhumb/InstanceTags" "instanceIds" "[I" (.ref ea)) (VS : Av Z h0 sa .int vS) (AS : own_A vS (N + 1) S) (VI : Av Z h0 da .int vI) (AI : own_A vI M I) (VC : Av Z h0 ca .int vC) (AC : own_A vC (tc + 1) (fun _ => 0)) (VE : Av Z h0 ea .int vE) (hve : vE.length = M) (g_c : n0 ≤ ca) (g_e : n0 ≤ ea) (ne_ac : a ≠ ca) (ne_ae : a ≠ ea) (ne_sc : sa ≠ ca) (ne_se : sa ≠ ea) (ne_dc : da ≠ ca) (ne_de : da ≠ ea) (ne_ce : ca ≠ ea) :
    Con l (⟨"com/example/rhumb/rhumb/InstanceTags", "invert", "()V"⟩ : MethodName) prog_15_method_3_code 5 none [] rm7 rm7.cells rm7.slots Z #[(.ref a)] h0 n0 (fun v h => ∃ vC' : List Value, v = none ∧ Keep h0 h [ca, ea] ∧ Av Z h ca .int vC' ∧ own_A vC' (tc + 1) (own_ps I M)) := by
  refine Con.of (plainFor_of_name pn0) hn (fun m => ef7 m a) ?_
  intro p e s m below meth c s₀ hnm G0
  have hM := H.1.2.2.1
  have hN := H.1.2.1
  have htc := H.1.1
  have hS0 := H.1.2.2.2.1
  have G1 := G0.aloadN (v := (.ref a)) (pc' := 1) d7_0 rfl
  have G2 := G1.getF (pc' := 4) (v := (.ref da)) (host := "") (Or.inl (hw _ (List.mem_of_getElem? (i := 27) rfl))) Via.refl Fd d7_1
  have G3 := G2.astoreN (L' := #[.val (.ref a), .val (.ref da), .unset, .unset, .unset]) (pc' := 5) d7_4 rfl
  have G4 := G3.aloadN (v := (.ref da)) (pc' := 6) d7_5 rfl
  have G5 := G4.arrlen (pc' := 7) (v := (Int32.ofNat M)) VI (by rw [AI.1]; exact own_i _ (by omega)) d7_6
  have G6 := G5.istoreN (L' := #[.val (.ref a), .val (.ref da), .val (.int (Int32.ofNat M)), .unset, .unset]) (pc' := 8) d7_7 rfl
  have G7 := G6.iconst (v := (0 : Int32)) (pc' := 9) d7_8
  have G8 := G7.istoreN (L' := #[.val (.ref a), .val (.ref da), .val (.int (Int32.ofNat M)), .val (.int (0 : Int32)), .unset]) (pc' := 10) d7_9 rfl
  obtain ⟨hA, vA, oA, KA, VCA, ACA, hoA, GA⟩ := own_ivA p l e rm7 s m _ below meth c Z a0 hw n0 s₀ h0 0 0 tc N M S I H a da ca vI F0 VI AI g_c ne_ac ne_dc M 0 h0 vC .unset (by omega) (Keep.refl _ _) VC (own_Ac AC (fun t _ => by unfold own_gA; split <;> rfl)) One.u G8
  have G9 := GA.iconst (v := (0 : Int32)) (pc' := 40) d7_39
  have G10 := G9.istoreN (L' := #[.val (.ref a), .val (.int (0 : Int32)), .val (.int (Int32.ofNat M)), .val (.int (Int32.ofNat M)), oA]) (pc' := 41) d7_40 rfl
  obtain ⟨hB, vB, KB, VCB, ACB, GB⟩ := own_ivB p l e rm7 s m _ below meth c Z a0 hw n0 s₀ h0 0 0 tc N M S I H a ca F0 F1 g_c ne_ac _ _ _ tc 0 hA vA (by omega) KA VCA (own_Ac ACA (fun t _ => own_gB0 I M t)) G10
  have KB2 : Keep h0 hB [ca, ea] := (Keep.refl h0 [ca, ea]).trans KB (allS (Or.inl (List.mem_of_getElem? (i := 0) rfl)) all0)
  have VEB : Av Z hB ea .int vE := VE.keep KB (ninS (Ne.symm ne_ce) nin0)
  replace AC := ACB
  have B11 : Exa Z hB a "com/example/rhumb/rhumb/InstanceTags" := E0.keep KB2
  have B12 : Fld Z hB a "com/example/rhumb/rhumb/InstanceTags" "tagCount" "I" (.int (Int32.ofNat tc)) := F1.keep KB2 (ninS ne_ac (ninS ne_ae nin0))
  have B13 : Fld Z hB a "com/example/rhumb/rhumb/InstanceTags" "tagStart" "[I" (.ref sa) := Fs.keep KB2 (ninS ne_ac (ninS ne_ae nin0))
  have B14 : Fld Z hB a "com/example/rhumb/rhumb/InstanceTags" "tagIds" "[I" (.ref da) := Fd.keep KB2 (ninS ne_ac (ninS ne_ae nin0))
  have B15 : Fld Z hB a "com/example/rhumb/rhumb/InstanceTags" "instanceStart" "[I" (.ref ca) := F0.keep KB2 (ninS ne_ac (ninS ne_ae nin0))
  have B16 : Fld Z hB a "com/example/rhumb/rhumb/InstanceTags" "instanceIds" "[I" (.ref ea) := Fe.keep KB2 (ninS ne_ac (ninS ne_ae nin0))
  have B17 : Av Z hB sa .int vS := VS.keep KB2 (ninS ne_sc (ninS ne_se nin0))
  have B18 : Av Z hB da .int vI := VI.keep KB2 (ninS ne_dc (ninS ne_de nin0))
  have G19 := GB.aloadN (v := (.ref a)) (pc' := 73) d7_72 rfl
  have G20 := G19.getF (pc' := 76) (v := (.ref ca)) (host := "") (Or.inl (hw _ (List.mem_of_getElem? (i := 29) rfl))) Via.refl B15 d7_73
  have G21 := G20.aloadN (v := (.ref a)) (pc' := 77) d7_76 rfl
  have G22 := G21.getF (pc' := 80) (v := (.int (Int32.ofNat tc))) (host := "") (Or.inl (hw _ (List.mem_of_getElem? (i := 23) rfl))) Via.refl B12 d7_77
  obtain ⟨v23, h23, ⟨xa, vx, ev23, K23, szx, VX, AX⟩, g23⟩ := G22.callS (argsL := [(.ref ca), (.int (Int32.ofNat tc))]) (rest := []) (pc' := 83) (k' := 1) (j' := 4) (cn8 l Z a0 hw tc ca hB n0 G22.size vB VCB _ AC htc) rfl (hw _ (List.mem_of_getElem? (i := 37) rfl)) (hw _ (List.mem_of_getElem? (i := 38) rfl)) (hw _ (List.mem_of_getElem? (i := 39) rfl)) (hw _ (List.mem_of_getElem? (i := 40) rfl)) (by decide) d7_80 pd2 rfl (W := 0) rfl rfl (by decide) (by decide) (by decide) (by decide) rfl rfl rfl
  subst ev23
  have G23 := g23 [(.ref xa)] rfl
  have g_xa : n0 ≤ xa := Nat.le_trans G22.size szx
  have ne24 : a ≠ xa := Nat.ne_of_lt (Nat.lt_of_lt_of_le B11.lt szx)
  have ne25 : sa ≠ xa := Nat.ne_of_lt (Nat.lt_of_lt_of_le B17.lt szx)
  have ne26 : da ≠ xa := Nat.ne_of_lt (Nat.lt_of_lt_of_le B18.lt szx)
  have ne27 : ca ≠ xa := Nat.ne_of_lt (Nat.lt_of_lt_of_le VCB.lt szx)
  have ne28 : ea ≠ xa := Nat.ne_of_lt (Nat.lt_of_lt_of_le VEB.lt szx)
  have sz_xa : h0.size ≤ xa := Nat.le_trans KB2.1 szx
  have K29 : Keep h0 h23 [ca, ea] := KB2.trans K23 all0
  have E30 : Exa Z h23 a "com/example/rhumb/rhumb/InstanceTags" := B11.keep K23
  have F31 : Fld Z h23 a "com/example/rhumb/rhumb/InstanceTags" "tagCount" "I" (.int (Int32.ofNat tc)) := B12.keep K23 nin0
  have F32 : Fld Z h23 a "com/example/rhumb/rhumb/InstanceTags" "tagStart" "[I" (.ref sa) := B13.keep K23 nin0
  have F33 : Fld Z h23 a "com/example/rhumb/rhumb/InstanceTags" "tagIds" "[I" (.ref da) := B14.keep K23 nin0
  have F34 : Fld Z h23 a "com/example/rhumb/rhumb/InstanceTags" "instanceStart" "[I" (.ref ca) := B15.keep K23 nin0
  have F35 : Fld Z h23 a "com/example/rhumb/rhumb/InstanceTags" "instanceIds" "[I" (.ref ea) := B16.keep K23 nin0
  have V36 : Av Z h23 sa .int vS := B17.keep K23 nin0
  have V37 : Av Z h23 da .int vI := B18.keep K23 nin0
  have V38 : Av Z h23 ca .int vB := VCB.keep K23 nin0
  have V39 : Av Z h23 ea .int vE := VEB.keep K23 nin0
  have G40 := G23.astoreN (L' := #[.val (.ref a), .val (.ref xa), .val (.int (Int32.ofNat M)), .val (.int (Int32.ofNat M)), oA]) (pc' := 84) d7_83 rfl
  have G41 := G40.iconst (v := (0 : Int32)) (pc' := 85) d7_84
  have G42 := G41.istoreN (L' := #[.val (.ref a), .val (.ref xa), .val (.int (0 : Int32)), .val (.int (Int32.ofNat M)), oA]) (pc' := 86) d7_85 rfl
  have AX2 : own_A vx tc (own_gC I M (S 0)) := own_Ac AX (fun t ht => by unfold own_gB own_gC; rw [if_pos (by omega), hS0]; rfl)
  obtain ⟨hD, o4, o5, KD, GD⟩ := own_ivD p l e rm7 s m _ below meth c Z a0 hw n0 s₀ h23 1 4 tc N M S I H a xa sa da ea vS vI F32 F33 F35 V36 AS V37 AI g_xa g_e ne24 ne_ae ne25 ne_se ne26 ne_de (Ne.symm ne28) E30 _ (by decide) (by decide) (by decide) (by decide) N 0 h23 vx vE _ (by omega) (Keep.refl _ _) VX AX2 V39 hve (One.val (w := (.int (Int32.ofNat M))) rfl) G42
  have KF : Keep h0 hD [ca, ea] := K29.trans KD (allS (Or.inr sz_xa) (allS (Or.inl (List.mem_of_getElem? (i := 1) rfl)) all0))
  have VF : Av Z hD ca .int vB := V38.keep KD (ninS ne27 (ninS ne_ce nin0))
  exact GD.retV d7_144 rfl ⟨vB, rfl, KF, VF, own_Ac ACB (fun t ht => by unfold own_gB; rw [if_pos (by omega)])⟩
theorem d4_0 : decode prog_15_method_1_code 0 = .ok (.aload_n 0, 1) := by decide +kernel
theorem d4_1 : decode prog_15_method_1_code 1 = .ok (.invokespecial 1, 3) := by decide +kernel
theorem d4_4 : decode prog_15_method_1_code 4 = .ok (.iload_n 1, 1) := by decide +kernel
theorem d4_5 : decode prog_15_method_1_code 5 = .ok (.aload_n 2, 1) := by decide +kernel
theorem d4_6 : decode prog_15_method_1_code 6 = .ok (.aload_n 3, 1) := by decide +kernel
theorem d4_7 : decode prog_15_method_1_code 7 = .ok (.invokestatic 7, 3) := by decide +kernel
theorem d4_10 : decode prog_15_method_1_code 10 = .ok (.aload_n 0, 1) := by decide +kernel
theorem d4_11 : decode prog_15_method_1_code 11 = .ok (.iload_n 1, 1) := by decide +kernel
theorem d4_12 : decode prog_15_method_1_code 12 = .ok (.putfield 13, 3) := by decide +kernel
theorem d4_15 : decode prog_15_method_1_code 15 = .ok (.aload_n 0, 1) := by decide +kernel
theorem d4_16 : decode prog_15_method_1_code 16 = .ok (.aload_n 2, 1) := by decide +kernel
theorem d4_17 : decode prog_15_method_1_code 17 = .ok (.putfield 17, 3) := by decide +kernel
theorem d4_20 : decode prog_15_method_1_code 20 = .ok (.aload_n 0, 1) := by decide +kernel
theorem d4_21 : decode prog_15_method_1_code 21 = .ok (.aload_n 3, 1) := by decide +kernel
theorem d4_22 : decode prog_15_method_1_code 22 = .ok (.putfield 21, 3) := by decide +kernel
theorem d4_25 : decode prog_15_method_1_code 25 = .ok (.aload_n 0, 1) := by decide +kernel
theorem d4_26 : decode prog_15_method_1_code 26 = .ok (.iload_n 1, 1) := by decide +kernel
theorem d4_27 : decode prog_15_method_1_code 27 = .ok (.iconst 1, 1) := by decide +kernel
theorem d4_28 : decode prog_15_method_1_code 28 = .ok (.iadd, 1) := by decide +kernel
theorem d4_29 : decode prog_15_method_1_code 29 = .ok (.newarray .int, 2) := by decide +kernel
theorem d4_31 : decode prog_15_method_1_code 31 = .ok (.putfield 24, 3) := by decide +kernel
theorem d4_34 : decode prog_15_method_1_code 34 = .ok (.aload_n 0, 1) := by decide +kernel
theorem d4_35 : decode prog_15_method_1_code 35 = .ok (.aload_n 3, 1) := by decide +kernel
theorem d4_36 : decode prog_15_method_1_code 36 = .ok (.arraylength, 1) := by decide +kernel
theorem d4_37 : decode prog_15_method_1_code 37 = .ok (.newarray .int, 2) := by decide +kernel
theorem d4_39 : decode prog_15_method_1_code 39 = .ok (.putfield 27, 3) := by decide +kernel
theorem d4_42 : decode prog_15_method_1_code 42 = .ok (.aload_n 0, 1) := by decide +kernel
theorem d4_43 : decode prog_15_method_1_code 43 = .ok (.invokevirtual 30, 3) := by decide +kernel
theorem d4_46 : decode prog_15_method_1_code 46 = .ok (.return_, 1) := by decide +kernel
theorem pd3 : parseMethodDescriptor "(I[I[I)V" = some ⟨[.int, (.array .int), (.array .int)], none⟩ := by decide +kernel
theorem pd4 : parseMethodDescriptor "()V" = some ⟨[], none⟩ := by decide +kernel
theorem ef4 (m : MethodId) (tc : Nat) (a : Addr) (sa : Addr) (da : Addr) : entryFrame m #[(.ref a), (.int (Int32.ofNat tc)), (.ref sa), (.ref da)] 4 = mkF m 0 #[.val (.ref a), .val (.int (Int32.ofNat tc)), .val (.ref sa), .val (.ref da)] [] := by first | (simp [entryFrame, mkF, argsToLocals, Value.category]; done) | rfl
def rm4 : Room := { frames := 3, cells := 3, slots := 29, locals := 48 }
set_option maxRecDepth 65536 in
set_option maxHeartbeats 40000000 in
theorem cn4 (l : Launch) (Z : State) (a0 : Array Value) (hw : ∀ d ∈ tables_1, d.before a0 Z = true) (tc : Nat) (a : Addr) (sa : Addr) (da : Addr) (h0 : Heap) (n0 : Nat) (hn : n0 ≤ h0.size) (N M : Nat) (S I : Nat → Nat) (H : own_H tc N M S I) (vS vI : List Value) (E0 : Exa Z h0 a "com/example/rhumb/rhumb/InstanceTags") (F0 : Fld Z h0 a "com/example/rhumb/rhumb/InstanceTags" "tagCount" "I" (.int (0 : Int32))) (F1 : Fld Z h0 a "com/example/rhumb/rhumb/InstanceTags" "tagStart" "[I" .null) (F2 : Fld Z h0 a "com/example/rhumb/rhumb/InstanceTags" "tagIds" "[I" .null) (F3 : Fld Z h0 a "com/example/rhumb/rhumb/InstanceTags" "instanceStart" "[I" .null) (F4 : Fld Z h0 a "com/example/rhumb/rhumb/InstanceTags" "instanceIds" "[I" .null) (VS : Av Z h0 sa .int vS) (AS : own_A vS (N + 1) S) (VI : Av Z h0 da .int vI) (AI : own_A vI M I) (g_a : n0 ≤ a) (ne_sa : sa ≠ a) (ne_da : da ≠ a) :
    Con l (⟨"com/example/rhumb/rhumb/InstanceTags", "<init>", "(I[I[I)V"⟩ : MethodName) prog_15_method_1_code 4 none [] rm4 rm4.cells rm4.slots Z #[(.ref a), (.int (Int32.ofNat tc)), (.ref sa), (.ref da)] h0 n0 (fun v h => ∃ (ca : Addr) (vC : List Value), v = none ∧ Keep h0 h [a] ∧ h0.size ≤ ca ∧ Exa Z h a "com/example/rhumb/rhumb/InstanceTags" ∧ Fld Z h a "com/example/rhumb/rhumb/InstanceTags" "tagCount" "I" (.int (Int32.ofNat tc)) ∧ Fld Z h a "com/example/rhumb/rhumb/InstanceTags" "tagStart" "[I" (.ref sa) ∧ Fld Z h a "com/example/rhumb/rhumb/InstanceTags" "tagIds" "[I" (.ref da) ∧ Fld Z h a "com/example/rhumb/rhumb/InstanceTags" "instanceStart" "[I" (.ref ca) ∧ Av Z h ca .int vC ∧ own_A vC (tc + 1) (own_ps I M)) := by
  refine Con.of (plainFor_of_name pn0) hn (fun m => ef4 m tc a sa da) ?_
  intro p e s m below meth c s₀ hnm G0
  have hM := H.1.2.2.1
  have hN := H.1.2.1
  have htc := H.1.1
  have K0 : Keep h0 h0 [a] := Keep.refl _ _
  have G1 := G0.aloadN (v := (.ref a)) (pc' := 1) d4_0 rfl
  have G2 := G1.initO (pc' := 4) (hw _ (List.mem_of_getElem? (i := 17) rfl)) (hw _ (List.mem_of_getElem? (i := 18) rfl)) (hw _ (List.mem_of_getElem? (i := 19) rfl)) d4_1 (W := 0) rfl rfl (by decide) (by decide)
  have G3 := G2.iloadN (v := (Int32.ofNat tc)) (pc' := 5) d4_4 rfl
  have G4 := G3.aloadN (v := (.ref sa)) (pc' := 6) d4_5 rfl
  have G5 := G4.aloadN (v := (.ref da)) (pc' := 7) d4_6 rfl
  obtain ⟨v6, h6, ⟨ev6, eh6⟩, g6⟩ := G5.callS (argsL := [(.int (Int32.ofNat tc)), (.ref sa), (.ref da)]) (rest := []) (pc' := 10) (k' := 0) (j' := 0) (cn6 l Z a0 hw tc sa da h0 n0 G5.size N M S I H vS vI VS VI AS AI) rfl (hw _ (List.mem_of_getElem? (i := 20) rfl)) (hw _ (List.mem_of_getElem? (i := 21) rfl)) (hw _ (List.mem_of_getElem? (i := 13) rfl)) (hw _ (List.mem_of_getElem? (i := 22) rfl)) (by decide) d4_7 pd3 rfl (W := 0) rfl rfl (by decide) (by decide) (by decide) (by decide) rfl rfl rfl
  subst ev6
  rw [eh6] at g6
  have G6 := g6 [] rfl
  have G7 := G6.aloadN (v := (.ref a)) (pc' := 11) d4_10 rfl
  have G8 := G7.iloadN (v := (Int32.ofNat tc)) (pc' := 12) d4_11 rfl
  obtain ⟨h9, W9, G9⟩ := G8.putF (v := (.int (Int32.ofNat tc))) (pc' := 15) (host := "") (Or.inl (hw _ (List.mem_of_getElem? (i := 23) rfl))) Via.refl F0 E0 g_a (Or.inr ⟨(hw _ (List.mem_of_getElem? (i := 24) rfl)), rfl, hnm⟩) (hw _ (List.mem_of_getElem? (i := 12) rfl)) (ty := .int) (by decide) rfl rfl d4_12
  have E10 : Exa Z h9 a "com/example/rhumb/rhumb/InstanceTags" := E0.wr W9
  have V11 : Av Z h9 sa .int vS := VS.other W9 ne_sa
  have V12 : Av Z h9 da .int vI := VI.other W9 ne_da
  have K13 : Keep h0 h9 [a] := K0.wr W9 (Or.inl (List.mem_of_getElem? (i := 0) rfl))
  have F14 : Fld Z h9 a "com/example/rhumb/rhumb/InstanceTags" "tagCount" "I" (.int (Int32.ofNat tc)) := F0.same W9
  have F15 : Fld Z h9 a "com/example/rhumb/rhumb/InstanceTags" "tagStart" "[I" .null := F1.other W9 (Or.inr (slot_ne (Or.inr (hw _ (List.mem_of_getElem? (i := 26) rfl))) (Or.inr (hw _ (List.mem_of_getElem? (i := 24) rfl))) (by decide) (t := (.array .int)) (t' := .int) (by decide) (by decide)))
  have F16 : Fld Z h9 a "com/example/rhumb/rhumb/InstanceTags" "tagIds" "[I" .null := F2.other W9 (Or.inr (slot_ne (Or.inr (hw _ (List.mem_of_getElem? (i := 28) rfl))) (Or.inr (hw _ (List.mem_of_getElem? (i := 24) rfl))) (by decide) (t := (.array .int)) (t' := .int) (by decide) (by decide)))
  have F17 : Fld Z h9 a "com/example/rhumb/rhumb/InstanceTags" "instanceStart" "[I" .null := F3.other W9 (Or.inr (slot_ne (Or.inr (hw _ (List.mem_of_getElem? (i := 30) rfl))) (Or.inr (hw _ (List.mem_of_getElem? (i := 24) rfl))) (by decide) (t := (.array .int)) (t' := .int) (by decide) (by decide)))
  have F18 : Fld Z h9 a "com/example/rhumb/rhumb/InstanceTags" "instanceIds" "[I" .null := F4.other W9 (Or.inr (slot_ne (Or.inr (hw _ (List.mem_of_getElem? (i := 32) rfl))) (Or.inr (hw _ (List.mem_of_getElem? (i := 24) rfl))) (by decide) (t := (.array .int)) (t' := .int) (by decide) (by decide)))
  have G19 := G9.aloadN (v := (.ref a)) (pc' := 16) d4_15 rfl
  have G20 := G19.aloadN (v := (.ref sa)) (pc' := 17) d4_16 rfl
  obtain ⟨h21, W21, G21⟩ := G20.putF (v := (.ref sa)) (pc' := 20) (host := "") (Or.inl (hw _ (List.mem_of_getElem? (i := 25) rfl))) Via.refl F15 E10 g_a (Or.inr ⟨(hw _ (List.mem_of_getElem? (i := 26) rfl)), rfl, hnm⟩) (hw _ (List.mem_of_getElem? (i := 12) rfl)) (ty := (.array .int)) (by decide) rfl rfl d4_17
  have E22 : Exa Z h21 a "com/example/rhumb/rhumb/InstanceTags" := E10.wr W21
  have V23 : Av Z h21 sa .int vS := V11.other W21 ne_sa
  have V24 : Av Z h21 da .int vI := V12.other W21 ne_da
  have K25 : Keep h0 h21 [a] := K13.wr W21 (Or.inl (List.mem_of_getElem? (i := 0) rfl))
  have F26 : Fld Z h21 a "com/example/rhumb/rhumb/InstanceTags" "tagCount" "I" (.int (Int32.ofNat tc)) := F14.other W21 (Or.inr (slot_ne (Or.inr (hw _ (List.mem_of_getElem? (i := 24) rfl))) (Or.inr (hw _ (List.mem_of_getElem? (i := 26) rfl))) (by decide) (t := .int) (t' := (.array .int)) (by decide) (by decide)))
  have F27 : Fld Z h21 a "com/example/rhumb/rhumb/InstanceTags" "tagStart" "[I" (.ref sa) := F15.same W21
  have F28 : Fld Z h21 a "com/example/rhumb/rhumb/InstanceTags" "tagIds" "[I" .null := F16.other W21 (Or.inr (slot_ne (Or.inr (hw _ (List.mem_of_getElem? (i := 28) rfl))) (Or.inr (hw _ (List.mem_of_getElem? (i := 26) rfl))) (by decide) (t := (.array .int)) (t' := (.array .int)) (by decide) (by decide)))
  have F29 : Fld Z h21 a "com/example/rhumb/rhumb/InstanceTags" "instanceStart" "[I" .null := F17.other W21 (Or.inr (slot_ne (Or.inr (hw _ (List.mem_of_getElem? (i := 30) rfl))) (Or.inr (hw _ (List.mem_of_getElem? (i := 26) rfl))) (by decide) (t := (.array .int)) (t' := (.array .int)) (by decide) (by decide)))
  have F30 : Fld Z h21 a "com/example/rhumb/rhumb/InstanceTags" "instanceIds" "[I" .null := F18.other W21 (Or.inr (slot_ne (Or.inr (hw _ (List.mem_of_getElem? (i := 32) rfl))) (Or.inr (hw _ (List.mem_of_getElem? (i := 26) rfl))) (by decide) (t := (.array .int)) (t' := (.array .int)) (by decide) (by decide)))
  have G31 := G21.aloadN (v := (.ref a)) (pc' := 21) d4_20 rfl
  have G32 := G31.aloadN (v := (.ref da)) (pc' := 22) d4_21 rfl
  obtain ⟨h33, W33, G33⟩ := G32.putF (v := (.ref da)) (pc' := 25) (host := "") (Or.inl (hw _ (List.mem_of_getElem? (i := 27) rfl))) Via.refl F28 E22 g_a (Or.inr ⟨(hw _ (List.mem_of_getElem? (i := 28) rfl)), rfl, hnm⟩) (hw _ (List.mem_of_getElem? (i := 12) rfl)) (ty := (.array .int)) (by decide) rfl rfl d4_22
  have E34 : Exa Z h33 a "com/example/rhumb/rhumb/InstanceTags" := E22.wr W33
  have V35 : Av Z h33 sa .int vS := V23.other W33 ne_sa
  have V36 : Av Z h33 da .int vI := V24.other W33 ne_da
  have K37 : Keep h0 h33 [a] := K25.wr W33 (Or.inl (List.mem_of_getElem? (i := 0) rfl))
  have F38 : Fld Z h33 a "com/example/rhumb/rhumb/InstanceTags" "tagCount" "I" (.int (Int32.ofNat tc)) := F26.other W33 (Or.inr (slot_ne (Or.inr (hw _ (List.mem_of_getElem? (i := 24) rfl))) (Or.inr (hw _ (List.mem_of_getElem? (i := 28) rfl))) (by decide) (t := .int) (t' := (.array .int)) (by decide) (by decide)))
  have F39 : Fld Z h33 a "com/example/rhumb/rhumb/InstanceTags" "tagStart" "[I" (.ref sa) := F27.other W33 (Or.inr (slot_ne (Or.inr (hw _ (List.mem_of_getElem? (i := 26) rfl))) (Or.inr (hw _ (List.mem_of_getElem? (i := 28) rfl))) (by decide) (t := (.array .int)) (t' := (.array .int)) (by decide) (by decide)))
  have F40 : Fld Z h33 a "com/example/rhumb/rhumb/InstanceTags" "tagIds" "[I" (.ref da) := F28.same W33
  have F41 : Fld Z h33 a "com/example/rhumb/rhumb/InstanceTags" "instanceStart" "[I" .null := F29.other W33 (Or.inr (slot_ne (Or.inr (hw _ (List.mem_of_getElem? (i := 30) rfl))) (Or.inr (hw _ (List.mem_of_getElem? (i := 28) rfl))) (by decide) (t := (.array .int)) (t' := (.array .int)) (by decide) (by decide)))
  have F42 : Fld Z h33 a "com/example/rhumb/rhumb/InstanceTags" "instanceIds" "[I" .null := F30.other W33 (Or.inr (slot_ne (Or.inr (hw _ (List.mem_of_getElem? (i := 32) rfl))) (Or.inr (hw _ (List.mem_of_getElem? (i := 28) rfl))) (by decide) (t := (.array .int)) (t' := (.array .int)) (by decide) (by decide)))
  have G43 := G33.aloadN (v := (.ref a)) (pc' := 26) d4_25 rfl
  have G44 := G43.iloadN (v := (Int32.ofNat tc)) (pc' := 27) d4_26 rfl
  have G45 := G44.iconst (v := (1 : Int32)) (pc' := 28) d4_27
  have G46 := G45.iadd (pc' := 29) d4_28
  rw [own_a1] at G46
  obtain ⟨a47, h47, ea47, g_a47, X47, V47, G47⟩ := G46.newA (ty := .int) (dv := (.int (0 : Int32))) (N := (tc + 1)) (cap := 5) (pc' := 31) (k' := 1) (j' := 5) (hw _ (List.mem_of_getElem? (i := 0) rfl)) d4_29 rfl rfl (own_i _ (by omega)) (by omega) (by decide) rfl rfl rfl (by decide) (by decide)
  have ne48 : a ≠ a47 := by rw [ea47]; exact Nat.ne_of_lt E34.lt
  have ne49 : sa ≠ a47 := by rw [ea47]; exact Nat.ne_of_lt V35.lt
  have ne50 : da ≠ a47 := by rw [ea47]; exact Nat.ne_of_lt V36.lt
  have sz47 : h0.size ≤ a47 := by rw [ea47]; exact K37.1
  have E51 : Exa Z h47 a "com/example/rhumb/rhumb/InstanceTags" := E34.ext X47
  have V52 : Av Z h47 sa .int vS := V35.ext X47
  have V53 : Av Z h47 da .int vI := V36.ext X47
  have K54 : Keep h0 h47 [a] := K37.ext X47
  have F55 : Fld Z h47 a "com/example/rhumb/rhumb/InstanceTags" "tagCount" "I" (.int (Int32.ofNat tc)) := F38.ext X47
  have F56 : Fld Z h47 a "com/example/rhumb/rhumb/InstanceTags" "tagStart" "[I" (.ref sa) := F39.ext X47
  have F57 : Fld Z h47 a "com/example/rhumb/rhumb/InstanceTags" "tagIds" "[I" (.ref da) := F40.ext X47
  have F58 : Fld Z h47 a "com/example/rhumb/rhumb/InstanceTags" "instanceStart" "[I" .null := F41.ext X47
  have F59 : Fld Z h47 a "com/example/rhumb/rhumb/InstanceTags" "instanceIds" "[I" .null := F42.ext X47
  obtain ⟨h60, W60, G60⟩ := G47.putF (v := (.ref a47)) (pc' := 34) (host := "") (Or.inl (hw _ (List.mem_of_getElem? (i := 29) rfl))) Via.refl F58 E51 g_a (Or.inr ⟨(hw _ (List.mem_of_getElem? (i := 30) rfl)), rfl, hnm⟩) (hw _ (List.mem_of_getElem? (i := 12) rfl)) (ty := (.array .int)) (by decide) rfl rfl d4_31
  have E61 : Exa Z h60 a "com/example/rhumb/rhumb/InstanceTags" := E51.wr W60
  have V62 : Av Z h60 sa .int vS := V52.other W60 ne_sa
  have V63 : Av Z h60 da .int vI := V53.other W60 ne_da
  have K64 : Keep h0 h60 [a] := K54.wr W60 (Or.inl (List.mem_of_getElem? (i := 0) rfl))
  have F65 : Fld Z h60 a "com/example/rhumb/rhumb/InstanceTags" "tagCount" "I" (.int (Int32.ofNat tc)) := F55.other W60 (Or.inr (slot_ne (Or.inr (hw _ (List.mem_of_getElem? (i := 24) rfl))) (Or.inr (hw _ (List.mem_of_getElem? (i := 30) rfl))) (by decide) (t := .int) (t' := (.array .int)) (by decide) (by decide)))
  have F66 : Fld Z h60 a "com/example/rhumb/rhumb/InstanceTags" "tagStart" "[I" (.ref sa) := F56.other W60 (Or.inr (slot_ne (Or.inr (hw _ (List.mem_of_getElem? (i := 26) rfl))) (Or.inr (hw _ (List.mem_of_getElem? (i := 30) rfl))) (by decide) (t := (.array .int)) (t' := (.array .int)) (by decide) (by decide)))
  have F67 : Fld Z h60 a "com/example/rhumb/rhumb/InstanceTags" "tagIds" "[I" (.ref da) := F57.other W60 (Or.inr (slot_ne (Or.inr (hw _ (List.mem_of_getElem? (i := 28) rfl))) (Or.inr (hw _ (List.mem_of_getElem? (i := 30) rfl))) (by decide) (t := (.array .int)) (t' := (.array .int)) (by decide) (by decide)))
  have F68 : Fld Z h60 a "com/example/rhumb/rhumb/InstanceTags" "instanceStart" "[I" (.ref a47) := F58.same W60
  have F69 : Fld Z h60 a "com/example/rhumb/rhumb/InstanceTags" "instanceIds" "[I" .null := F59.other W60 (Or.inr (slot_ne (Or.inr (hw _ (List.mem_of_getElem? (i := 32) rfl))) (Or.inr (hw _ (List.mem_of_getElem? (i := 30) rfl))) (by decide) (t := (.array .int)) (t' := (.array .int)) (by decide) (by decide)))
  have V70 : Av Z h60 a47 .int (List.replicate ((tc + 1)) (.int (0 : Int32))) := V47.other W60 (Ne.symm ne48)
  have G71 := G60.aloadN (v := (.ref a)) (pc' := 35) d4_34 rfl
  have G72 := G71.aloadN (v := (.ref da)) (pc' := 36) d4_35 rfl
  have G73 := G72.arrlen (pc' := 37) (v := (Int32.ofNat M)) V63 (by rw [AI.1]; exact own_i _ (by omega)) d4_36
  obtain ⟨a74, h74, ea74, g_a74, X74, V74, G74⟩ := G73.newA (ty := .int) (dv := (.int (0 : Int32))) (N := M) (cap := 20) (pc' := 39) (k' := 2) (j' := 25) (hw _ (List.mem_of_getElem? (i := 0) rfl)) d4_37 rfl rfl (own_i _ (by omega)) hM (by decide) rfl rfl rfl (by decide) (by decide)
  have ne75 : a ≠ a74 := by rw [ea74]; exact Nat.ne_of_lt E61.lt
  have ne76 : sa ≠ a74 := by rw [ea74]; exact Nat.ne_of_lt V62.lt
  have ne77 : da ≠ a74 := by rw [ea74]; exact Nat.ne_of_lt V63.lt
  have ne78 : a47 ≠ a74 := by rw [ea74]; exact Nat.ne_of_lt V70.lt
  have sz74 : h0.size ≤ a74 := by rw [ea74]; exact K64.1
  have E79 : Exa Z h74 a "com/example/rhumb/rhumb/InstanceTags" := E61.ext X74
  have V80 : Av Z h74 sa .int vS := V62.ext X74
  have V81 : Av Z h74 da .int vI := V63.ext X74
  have K82 : Keep h0 h74 [a] := K64.ext X74
  have F83 : Fld Z h74 a "com/example/rhumb/rhumb/InstanceTags" "tagCount" "I" (.int (Int32.ofNat tc)) := F65.ext X74
  have F84 : Fld Z h74 a "com/example/rhumb/rhumb/InstanceTags" "tagStart" "[I" (.ref sa) := F66.ext X74
  have F85 : Fld Z h74 a "com/example/rhumb/rhumb/InstanceTags" "tagIds" "[I" (.ref da) := F67.ext X74
  have F86 : Fld Z h74 a "com/example/rhumb/rhumb/InstanceTags" "instanceStart" "[I" (.ref a47) := F68.ext X74
  have F87 : Fld Z h74 a "com/example/rhumb/rhumb/InstanceTags" "instanceIds" "[I" .null := F69.ext X74
  have V88 : Av Z h74 a47 .int (List.replicate ((tc + 1)) (.int (0 : Int32))) := V70.ext X74
  obtain ⟨h89, W89, G89⟩ := G74.putF (v := (.ref a74)) (pc' := 42) (host := "") (Or.inl (hw _ (List.mem_of_getElem? (i := 31) rfl))) Via.refl F87 E79 g_a (Or.inr ⟨(hw _ (List.mem_of_getElem? (i := 32) rfl)), rfl, hnm⟩) (hw _ (List.mem_of_getElem? (i := 12) rfl)) (ty := (.array .int)) (by decide) rfl rfl d4_39
  have E90 : Exa Z h89 a "com/example/rhumb/rhumb/InstanceTags" := E79.wr W89
  have V91 : Av Z h89 sa .int vS := V80.other W89 ne_sa
  have V92 : Av Z h89 da .int vI := V81.other W89 ne_da
  have K93 : Keep h0 h89 [a] := K82.wr W89 (Or.inl (List.mem_of_getElem? (i := 0) rfl))
  have F94 : Fld Z h89 a "com/example/rhumb/rhumb/InstanceTags" "tagCount" "I" (.int (Int32.ofNat tc)) := F83.other W89 (Or.inr (slot_ne (Or.inr (hw _ (List.mem_of_getElem? (i := 24) rfl))) (Or.inr (hw _ (List.mem_of_getElem? (i := 32) rfl))) (by decide) (t := .int) (t' := (.array .int)) (by decide) (by decide)))
  have F95 : Fld Z h89 a "com/example/rhumb/rhumb/InstanceTags" "tagStart" "[I" (.ref sa) := F84.other W89 (Or.inr (slot_ne (Or.inr (hw _ (List.mem_of_getElem? (i := 26) rfl))) (Or.inr (hw _ (List.mem_of_getElem? (i := 32) rfl))) (by decide) (t := (.array .int)) (t' := (.array .int)) (by decide) (by decide)))
  have F96 : Fld Z h89 a "com/example/rhumb/rhumb/InstanceTags" "tagIds" "[I" (.ref da) := F85.other W89 (Or.inr (slot_ne (Or.inr (hw _ (List.mem_of_getElem? (i := 28) rfl))) (Or.inr (hw _ (List.mem_of_getElem? (i := 32) rfl))) (by decide) (t := (.array .int)) (t' := (.array .int)) (by decide) (by decide)))
  have F97 : Fld Z h89 a "com/example/rhumb/rhumb/InstanceTags" "instanceStart" "[I" (.ref a47) := F86.other W89 (Or.inr (slot_ne (Or.inr (hw _ (List.mem_of_getElem? (i := 30) rfl))) (Or.inr (hw _ (List.mem_of_getElem? (i := 32) rfl))) (by decide) (t := (.array .int)) (t' := (.array .int)) (by decide) (by decide)))
  have F98 : Fld Z h89 a "com/example/rhumb/rhumb/InstanceTags" "instanceIds" "[I" (.ref a74) := F87.same W89
  have V99 : Av Z h89 a47 .int (List.replicate ((tc + 1)) (.int (0 : Int32))) := V88.other W89 (Ne.symm ne48)
  have V100 : Av Z h89 a74 .int (List.replicate M (.int (0 : Int32))) := V74.other W89 (Ne.symm ne75)
  have G101 := G89.aloadN (v := (.ref a)) (pc' := 43) d4_42 rfl
  obtain ⟨v102, h102, ⟨vC9, ev102, K102, V9, A9⟩, g102⟩ := G101.callP (argsL := []) (rest := []) (pc' := 46) (k' := 3) (j' := 29) (cn7 l Z a0 hw a h89 n0 G101.size tc N M S I H sa da a47 a74 vS vI (List.replicate ((tc + 1)) (.int (0 : Int32))) (List.replicate M (.int (0 : Int32))) E90 F94 F95 F96 F97 F98 V91 AS V92 AI V99 (own_A0 _) V100 (by rw [List.length_replicate]) g_a47 g_a74 ne48 ne75 ne49 ne76 ne50 ne77 ne78) rfl E90 (hw _ (List.mem_of_getElem? (i := 33) rfl)) (hw _ (List.mem_of_getElem? (i := 34) rfl)) (hw _ (List.mem_of_getElem? (i := 35) rfl)) (hw _ (List.mem_of_getElem? (i := 12) rfl)) (hw _ (List.mem_of_getElem? (i := 13) rfl)) (hw _ (List.mem_of_getElem? (i := 36) rfl)) (by decide) d4_43 pd4 rfl (W := 0) rfl rfl (by decide) (by decide) (by decide) (by decide) rfl rfl rfl
  subst ev102
  have G102 := g102 [] rfl
  have E103 : Exa Z h102 a "com/example/rhumb/rhumb/InstanceTags" := E90.keep K102
  have V104 : Av Z h102 sa .int vS := V91.keep K102 (ninS ne49 (ninS ne76 nin0))
  have V105 : Av Z h102 da .int vI := V92.keep K102 (ninS ne50 (ninS ne77 nin0))
  have K106 : Keep h0 h102 [a] := K93.trans K102 (allS (Or.inr sz47) (allS (Or.inr sz74) all0))
  have F107 : Fld Z h102 a "com/example/rhumb/rhumb/InstanceTags" "tagCount" "I" (.int (Int32.ofNat tc)) := F94.keep K102 (ninS ne48 (ninS ne75 nin0))
  have F108 : Fld Z h102 a "com/example/rhumb/rhumb/InstanceTags" "tagStart" "[I" (.ref sa) := F95.keep K102 (ninS ne48 (ninS ne75 nin0))
  have F109 : Fld Z h102 a "com/example/rhumb/rhumb/InstanceTags" "tagIds" "[I" (.ref da) := F96.keep K102 (ninS ne48 (ninS ne75 nin0))
  have F110 : Fld Z h102 a "com/example/rhumb/rhumb/InstanceTags" "instanceStart" "[I" (.ref a47) := F97.keep K102 (ninS ne48 (ninS ne75 nin0))
  have F111 : Fld Z h102 a "com/example/rhumb/rhumb/InstanceTags" "instanceIds" "[I" (.ref a74) := F98.keep K102 (ninS ne48 (ninS ne75 nin0))
  exact G102.retV d4_46 rfl ⟨a47, vC9, rfl, K106, sz47, E103, F107, F108, F109, F110, V9, A9⟩
def own_pre (vs : List Value) (len : Nat) (P : List Nat) : Prop := vs.length = len ∧ ∀ i, i < P.length → vs[i]? = some (.int (Int32.ofNat (P.getD i 0)))
theorem own_preS {vs : List Value} {len : Nat} {P : List Nat} (v : Nat) (A : own_pre vs len P) (h : P.length < len) : own_pre (vs.set P.length (.int (Int32.ofNat v))) len (P ++ [v]) := by
  refine ⟨by rw [List.length_set]; exact A.1, fun i hi => ?_⟩
  rw [List.length_append, List.length_singleton] at hi
  by_cases q : i = P.length
  · rw [q, List.getElem?_set_self (by rw [A.1]; exact h)]
    simp [List.getD_eq_getElem?_getD]
  · rw [List.getElem?_set_ne (fun z => q z.symm), A.2 i (by omega), List.getD_eq_getElem?_getD, List.getD_eq_getElem?_getD, List.getElem?_append_left (by omega)]
theorem own_pre0 (n : Nat) : own_pre (List.replicate n (.int (0 : Int32))) n [] := ⟨List.length_replicate, fun i hi => absurd hi (Nat.not_lt_zero i)⟩
theorem own_preA {vs : List Value} {L : List Nat} (A : own_pre vs L.length L) : own_A vs L.length (fun i => L.getD i 0) := A
def own_asc (l : List Nat) (tc : Nat) : Prop := ∀ i, i < l.length → l.getD i 0 < tc ∧ (i = 0 ∨ l.getD (i - 1) 0 < l.getD i 0)
theorem own_gl (A B : List Nat) (i : Nat) (h : i < A.length) : (A ++ B).getD i 0 = A.getD i 0 := by
  rw [List.getD_eq_getElem?_getD, List.getD_eq_getElem?_getD, List.getElem?_append_left h]
theorem own_gr (A B : List Nat) (i : Nat) (h : A.length ≤ i) : (A ++ B).getD i 0 = B.getD (i - A.length) 0 := by
  rw [List.getD_eq_getElem?_getD, List.getD_eq_getElem?_getD, List.getElem?_append_right h]
theorem own_sg (A l B : List Nat) (tc : Nat) (h : own_asc l tc) (p : Nat) (h1 : A.length ≤ p) (h2 : p < A.length + l.length) : ((A ++ l) ++ B).getD p 0 < tc ∧ (p = A.length ∨ ((A ++ l) ++ B).getD (p - 1) 0 < ((A ++ l) ++ B).getD p 0) := by
  have e1 : ((A ++ l) ++ B).getD p 0 = l.getD (p - A.length) 0 := by
    rw [own_gl _ _ _ (by rw [List.length_append]; omega), own_gr _ _ _ h1]
  rw [e1]
  have q := h (p - A.length) (by omega)
  refine ⟨q.1, ?_⟩
  by_cases z : p = A.length
  · exact Or.inl z
  · right
    have e2 : ((A ++ l) ++ B).getD (p - 1) 0 = l.getD (p - A.length - 1) 0 := by
      rw [own_gl _ _ _ (by rw [List.length_append]; omega), own_gr _ _ _ (by omega)]
      congr 1; omega
    rw [e2]
    rcases q.2 with q2 | q2
    · omega
    · exact q2
theorem own_cnL (L : List Nat) (t : Nat) : ∀ p, p ≤ L.length → own_cn (fun i => L.getD i 0) p t = (L.take p).count t
  | 0, _ => rfl
  | p + 1, h => by
    have hp : p < L.length := by omega
    rw [own_cn, own_cnL L t p (by omega), List.take_add_one, List.count_append, List.getElem?_eq_getElem hp]
    have e : L.getD p 0 = L[p] := by rw [List.getD_eq_getElem?_getD, List.getElem?_eq_getElem hp]; rfl
    rw [e]
    by_cases z : L[p] = t
    · rw [if_pos z]; simp [z]
    · rw [if_neg z]; simp [List.count_cons, z]

theorem d2_0 : decode method_3_code 0 = .ok (.iload_n 0, 1) := by decide +kernel
theorem d2_1 : decode method_3_code 1 = .ok (.iload_n 1, 1) := by decide +kernel
theorem d2_2 : decode method_3_code 2 = .ok (.ishr, 1) := by decide +kernel
theorem d2_3 : decode method_3_code 3 = .ok (.iconst 1, 1) := by decide +kernel
theorem d2_4 : decode method_3_code 4 = .ok (.iand, 1) := by decide +kernel
theorem d2_5 : decode method_3_code 5 = .ok (.ireturn, 1) := by decide +kernel
theorem pn2 : plainName "com/example/rhumb/rhumb/InstanceTagsTagCountsPinLaw" = true := by first | (simp [plainName, overriddenIn]; done) | decide +kernel
theorem ef2 (m : MethodId) (x0 : Int32) (x1 : Int32) : entryFrame m #[(.int x0), (.int x1)] 2 = mkF m 0 #[.val (.int x0), .val (.int x1)] [] := by first | (simp [entryFrame, mkF, argsToLocals, Value.category]; done) | rfl
def fIn (x0 : Int32) (x1 : Int32) : Int32 := ((x0 >>> (x1 &&& 31)) &&& (1 : Int32))
def rm2 : Room := { frames := 0, cells := 0, slots := 0, locals := 0 }
set_option maxRecDepth 65536 in
set_option maxHeartbeats 40000000 in
theorem cn2 (l : Launch) (Z : State) (a0 : Array Value) (hw : ∀ d ∈ tables_1, d.before a0 Z = true) (x0 : Int32) (x1 : Int32) (h0 : Heap) (n0 : Nat) (hn : n0 ≤ h0.size) :
    Con l (⟨"com/example/rhumb/rhumb/InstanceTagsTagCountsPinLaw", "in", "(II)I"⟩ : MethodName) method_3_code 2 (some .int) [] rm2 rm2.cells rm2.slots Z #[(.int x0), (.int x1)] h0 n0 (fun v h => v = some (.int (fIn x0 x1)) ∧ h = h0) := by
  refine Con.of (plainFor_of_name pn2) hn (fun m => ef2 m x0 x1) ?_
  intro p e s m below meth c s₀ hnm G0
  have G1 := G0.iloadN (v := x0) (pc' := 1) d2_0 rfl
  have G2 := G1.iloadN (v := x1) (pc' := 2) d2_1 rfl
  have G3 := G2.ishr (pc' := 3) d2_2
  have G4 := G3.iconst (v := (1 : Int32)) (pc' := 4) d2_3
  have G5 := G4.iand (pc' := 5) d2_4
  exact G5.retI d2_5 rfl ⟨congrArg (fun z => some (Value.int z)) (by rw [fIn]), rfl⟩
theorem d12_0 : decode method_5_code 0 = .ok (.iload_n 1, 1) := by decide +kernel
theorem d12_1 : decode method_5_code 1 = .ok (.iconst (-1), 1) := by decide +kernel
theorem d12_2 : decode method_5_code 2 = .ok (.ixor, 1) := by decide +kernel
theorem d12_3 : decode method_5_code 3 = .ok (.bipush 7, 2) := by decide +kernel
theorem d12_5 : decode method_5_code 5 = .ok (.iand, 1) := by decide +kernel
theorem d12_6 : decode method_5_code 6 = .ok (.istore 5, 2) := by decide +kernel
theorem d12_8 : decode method_5_code 8 = .ok (.iload_n 2, 1) := by decide +kernel
theorem d12_9 : decode method_5_code 9 = .ok (.iconst (-1), 1) := by decide +kernel
theorem d12_10 : decode method_5_code 10 = .ok (.ixor, 1) := by decide +kernel
theorem d12_11 : decode method_5_code 11 = .ok (.bipush 7, 2) := by decide +kernel
theorem d12_13 : decode method_5_code 13 = .ok (.iand, 1) := by decide +kernel
theorem d12_14 : decode method_5_code 14 = .ok (.istore 6, 2) := by decide +kernel
theorem d12_16 : decode method_5_code 16 = .ok (.iload_n 3, 1) := by decide +kernel
theorem d12_17 : decode method_5_code 17 = .ok (.iconst (-1), 1) := by decide +kernel
theorem d12_18 : decode method_5_code 18 = .ok (.ixor, 1) := by decide +kernel
theorem d12_19 : decode method_5_code 19 = .ok (.bipush 7, 2) := by decide +kernel
theorem d12_21 : decode method_5_code 21 = .ok (.iand, 1) := by decide +kernel
theorem d12_22 : decode method_5_code 22 = .ok (.istore 7, 2) := by decide +kernel
theorem d12_24 : decode method_5_code 24 = .ok (.iload_n 0, 1) := by decide +kernel
theorem d12_25 : decode method_5_code 25 = .ok (.iconst 0, 1) := by decide +kernel
theorem d12_26 : decode method_5_code 26 = .ok (.invokestatic 7, 3) := by decide +kernel
theorem d12_29 : decode method_5_code 29 = .ok (.iload_n 1, 1) := by decide +kernel
theorem d12_30 : decode method_5_code 30 = .ok (.iload 4, 2) := by decide +kernel
theorem d12_32 : decode method_5_code 32 = .ok (.ishr, 1) := by decide +kernel
theorem d12_33 : decode method_5_code 33 = .ok (.iconst 1, 1) := by decide +kernel
theorem d12_34 : decode method_5_code 34 = .ok (.iand, 1) := by decide +kernel
theorem d12_35 : decode method_5_code 35 = .ok (.imul, 1) := by decide +kernel
theorem d12_36 : decode method_5_code 36 = .ok (.iload_n 0, 1) := by decide +kernel
theorem d12_37 : decode method_5_code 37 = .ok (.iconst 1, 1) := by decide +kernel
theorem d12_38 : decode method_5_code 38 = .ok (.invokestatic 7, 3) := by decide +kernel
theorem d12_41 : decode method_5_code 41 = .ok (.iload_n 2, 1) := by decide +kernel
theorem d12_42 : decode method_5_code 42 = .ok (.iload 4, 2) := by decide +kernel
theorem d12_44 : decode method_5_code 44 = .ok (.ishr, 1) := by decide +kernel
theorem d12_45 : decode method_5_code 45 = .ok (.iconst 1, 1) := by decide +kernel
theorem d12_46 : decode method_5_code 46 = .ok (.iand, 1) := by decide +kernel
theorem d12_47 : decode method_5_code 47 = .ok (.imul, 1) := by decide +kernel
theorem d12_48 : decode method_5_code 48 = .ok (.iadd, 1) := by decide +kernel
theorem d12_49 : decode method_5_code 49 = .ok (.iload_n 0, 1) := by decide +kernel
theorem d12_50 : decode method_5_code 50 = .ok (.iconst 2, 1) := by decide +kernel
theorem d12_51 : decode method_5_code 51 = .ok (.invokestatic 7, 3) := by decide +kernel
theorem d12_54 : decode method_5_code 54 = .ok (.iload_n 3, 1) := by decide +kernel
theorem d12_55 : decode method_5_code 55 = .ok (.iload 4, 2) := by decide +kernel
theorem d12_57 : decode method_5_code 57 = .ok (.ishr, 1) := by decide +kernel
theorem d12_58 : decode method_5_code 58 = .ok (.iconst 1, 1) := by decide +kernel
theorem d12_59 : decode method_5_code 59 = .ok (.iand, 1) := by decide +kernel
theorem d12_60 : decode method_5_code 60 = .ok (.imul, 1) := by decide +kernel
theorem d12_61 : decode method_5_code 61 = .ok (.iadd, 1) := by decide +kernel
theorem d12_62 : decode method_5_code 62 = .ok (.iload_n 0, 1) := by decide +kernel
theorem d12_63 : decode method_5_code 63 = .ok (.iconst 3, 1) := by decide +kernel
theorem d12_64 : decode method_5_code 64 = .ok (.invokestatic 7, 3) := by decide +kernel
theorem d12_67 : decode method_5_code 67 = .ok (.iload 5, 2) := by decide +kernel
theorem d12_69 : decode method_5_code 69 = .ok (.iload 4, 2) := by decide +kernel
theorem d12_71 : decode method_5_code 71 = .ok (.ishr, 1) := by decide +kernel
theorem d12_72 : decode method_5_code 72 = .ok (.iconst 1, 1) := by decide +kernel
theorem d12_73 : decode method_5_code 73 = .ok (.iand, 1) := by decide +kernel
theorem d12_74 : decode method_5_code 74 = .ok (.imul, 1) := by decide +kernel
theorem d12_75 : decode method_5_code 75 = .ok (.iadd, 1) := by decide +kernel
theorem d12_76 : decode method_5_code 76 = .ok (.iload_n 0, 1) := by decide +kernel
theorem d12_77 : decode method_5_code 77 = .ok (.iconst 4, 1) := by decide +kernel
theorem d12_78 : decode method_5_code 78 = .ok (.invokestatic 7, 3) := by decide +kernel
theorem d12_81 : decode method_5_code 81 = .ok (.iload 6, 2) := by decide +kernel
theorem d12_83 : decode method_5_code 83 = .ok (.iload 4, 2) := by decide +kernel
theorem d12_85 : decode method_5_code 85 = .ok (.ishr, 1) := by decide +kernel
theorem d12_86 : decode method_5_code 86 = .ok (.iconst 1, 1) := by decide +kernel
theorem d12_87 : decode method_5_code 87 = .ok (.iand, 1) := by decide +kernel
theorem d12_88 : decode method_5_code 88 = .ok (.imul, 1) := by decide +kernel
theorem d12_89 : decode method_5_code 89 = .ok (.iadd, 1) := by decide +kernel
theorem d12_90 : decode method_5_code 90 = .ok (.iload_n 0, 1) := by decide +kernel
theorem d12_91 : decode method_5_code 91 = .ok (.iconst 5, 1) := by decide +kernel
theorem d12_92 : decode method_5_code 92 = .ok (.invokestatic 7, 3) := by decide +kernel
theorem d12_95 : decode method_5_code 95 = .ok (.iload 7, 2) := by decide +kernel
theorem d12_97 : decode method_5_code 97 = .ok (.iload 4, 2) := by decide +kernel
theorem d12_99 : decode method_5_code 99 = .ok (.ishr, 1) := by decide +kernel
theorem d12_100 : decode method_5_code 100 = .ok (.iconst 1, 1) := by decide +kernel
theorem d12_101 : decode method_5_code 101 = .ok (.iand, 1) := by decide +kernel
theorem d12_102 : decode method_5_code 102 = .ok (.imul, 1) := by decide +kernel
theorem d12_103 : decode method_5_code 103 = .ok (.iadd, 1) := by decide +kernel
theorem d12_104 : decode method_5_code 104 = .ok (.ireturn, 1) := by decide +kernel
theorem ef12 (m : MethodId) (x0 : Int32) (x1 : Int32) (x2 : Int32) (x3 : Int32) (x4 : Int32) : entryFrame m #[(.int x0), (.int x1), (.int x2), (.int x3), (.int x4)] 8 = mkF m 0 #[.val (.int x0), .val (.int x1), .val (.int x2), .val (.int x3), .val (.int x4), .unset, .unset, .unset] [] := by first | (simp [entryFrame, mkF, argsToLocals, Value.category]; done) | rfl
def fE (x0 : Int32) (x1 : Int32) (x2 : Int32) (x3 : Int32) (x4 : Int32) : Int32 := (((((((fIn x0 (0 : Int32)) * ((x1 >>> (x4 &&& 31)) &&& (1 : Int32))) + ((fIn x0 (1 : Int32)) * ((x2 >>> (x4 &&& 31)) &&& (1 : Int32)))) + ((fIn x0 (2 : Int32)) * ((x3 >>> (x4 &&& 31)) &&& (1 : Int32)))) + ((fIn x0 (3 : Int32)) * ((((x1 ^^^ (-1 : Int32)) &&& (7 : Int32)) >>> (x4 &&& 31)) &&& (1 : Int32)))) + ((fIn x0 (4 : Int32)) * ((((x2 ^^^ (-1 : Int32)) &&& (7 : Int32)) >>> (x4 &&& 31)) &&& (1 : Int32)))) + ((fIn x0 (5 : Int32)) * ((((x3 ^^^ (-1 : Int32)) &&& (7 : Int32)) >>> (x4 &&& 31)) &&& (1 : Int32))))
def rm12 : Room := { frames := 1, cells := 0, slots := 0, locals := 14 }
set_option maxRecDepth 65536 in
set_option maxHeartbeats 40000000 in
theorem cn12 (l : Launch) (Z : State) (a0 : Array Value) (hw : ∀ d ∈ tables_1, d.before a0 Z = true) (x0 : Int32) (x1 : Int32) (x2 : Int32) (x3 : Int32) (x4 : Int32) (h0 : Heap) (n0 : Nat) (hn : n0 ≤ h0.size) :
    Con l (⟨"com/example/rhumb/rhumb/InstanceTagsTagCountsPinLaw", "expected", "(IIIII)I"⟩ : MethodName) method_5_code 8 (some .int) [] rm12 rm12.cells rm12.slots Z #[(.int x0), (.int x1), (.int x2), (.int x3), (.int x4)] h0 n0 (fun v h => v = some (.int (fE x0 x1 x2 x3 x4)) ∧ h = h0) := by
  refine Con.of (plainFor_of_name pn2) hn (fun m => ef12 m x0 x1 x2 x3 x4) ?_
  intro p e s m below meth c s₀ hnm G0
  have G1 := G0.iloadN (v := x1) (pc' := 1) d12_0 rfl
  have G2 := G1.iconst (v := (-1 : Int32)) (pc' := 2) d12_1
  have G3 := G2.ixor (pc' := 3) d12_2
  have G4 := G3.bipush (v := (7 : Int32)) (pc' := 5) d12_3
  have G5 := G4.iand (pc' := 6) d12_5
  have G6 := G5.istore (L' := #[.val (.int x0), .val (.int x1), .val (.int x2), .val (.int x3), .val (.int x4), .val (.int ((x1 ^^^ (-1 : Int32)) &&& (7 : Int32))), .unset, .unset]) (pc' := 8) d12_6 rfl
  have G7 := G6.iloadN (v := x2) (pc' := 9) d12_8 rfl
  have G8 := G7.iconst (v := (-1 : Int32)) (pc' := 10) d12_9
  have G9 := G8.ixor (pc' := 11) d12_10
  have G10 := G9.bipush (v := (7 : Int32)) (pc' := 13) d12_11
  have G11 := G10.iand (pc' := 14) d12_13
  have G12 := G11.istore (L' := #[.val (.int x0), .val (.int x1), .val (.int x2), .val (.int x3), .val (.int x4), .val (.int ((x1 ^^^ (-1 : Int32)) &&& (7 : Int32))), .val (.int ((x2 ^^^ (-1 : Int32)) &&& (7 : Int32))), .unset]) (pc' := 16) d12_14 rfl
  have G13 := G12.iloadN (v := x3) (pc' := 17) d12_16 rfl
  have G14 := G13.iconst (v := (-1 : Int32)) (pc' := 18) d12_17
  have G15 := G14.ixor (pc' := 19) d12_18
  have G16 := G15.bipush (v := (7 : Int32)) (pc' := 21) d12_19
  have G17 := G16.iand (pc' := 22) d12_21
  have G18 := G17.istore (L' := #[.val (.int x0), .val (.int x1), .val (.int x2), .val (.int x3), .val (.int x4), .val (.int ((x1 ^^^ (-1 : Int32)) &&& (7 : Int32))), .val (.int ((x2 ^^^ (-1 : Int32)) &&& (7 : Int32))), .val (.int ((x3 ^^^ (-1 : Int32)) &&& (7 : Int32)))]) (pc' := 24) d12_22 rfl
  have G19 := G18.iloadN (v := x0) (pc' := 25) d12_24 rfl
  have G20 := G19.iconst (v := (0 : Int32)) (pc' := 26) d12_25
  obtain ⟨v21, h21, ⟨ev21, eh21⟩, g21⟩ := G20.callS (argsL := [(.int x0), (.int (0 : Int32))]) (rest := []) (pc' := 29) (k' := 0) (j' := 0) (cn2 l Z a0 hw x0 (0 : Int32) h0 n0 G20.size) rfl (hw _ (List.mem_of_getElem? (i := 5) rfl)) (hw _ (List.mem_of_getElem? (i := 6) rfl)) (hw _ (List.mem_of_getElem? (i := 3) rfl)) (hw _ (List.mem_of_getElem? (i := 7) rfl)) (by decide) d12_26 pd0 rfl (W := 0) rfl rfl (by decide) (by decide) (by decide) (by decide) rfl rfl rfl
  subst ev21
  rw [eh21] at g21
  have G21 := g21 [(.int (fIn x0 (0 : Int32)))] rfl
  have G22 := G21.iloadN (v := x1) (pc' := 30) d12_29 rfl
  have G23 := G22.iload (v := x4) (pc' := 32) d12_30 rfl
  have G24 := G23.ishr (pc' := 33) d12_32
  have G25 := G24.iconst (v := (1 : Int32)) (pc' := 34) d12_33
  have G26 := G25.iand (pc' := 35) d12_34
  have G27 := G26.imul (pc' := 36) d12_35
  have G28 := G27.iloadN (v := x0) (pc' := 37) d12_36 rfl
  have G29 := G28.iconst (v := (1 : Int32)) (pc' := 38) d12_37
  obtain ⟨v30, h30, ⟨ev30, eh30⟩, g30⟩ := G29.callS (argsL := [(.int x0), (.int (1 : Int32))]) (rest := [(.int ((fIn x0 (0 : Int32)) * ((x1 >>> (x4 &&& 31)) &&& (1 : Int32))))]) (pc' := 41) (k' := 0) (j' := 0) (cn2 l Z a0 hw x0 (1 : Int32) h0 n0 G29.size) rfl (hw _ (List.mem_of_getElem? (i := 5) rfl)) (hw _ (List.mem_of_getElem? (i := 6) rfl)) (hw _ (List.mem_of_getElem? (i := 3) rfl)) (hw _ (List.mem_of_getElem? (i := 7) rfl)) (by decide) d12_38 pd0 rfl (W := 1) rfl rfl (by decide) (by decide) (by decide) (by decide) rfl rfl rfl
  subst ev30
  rw [eh30] at g30
  have G30 := g30 [(.int (fIn x0 (1 : Int32))), (.int ((fIn x0 (0 : Int32)) * ((x1 >>> (x4 &&& 31)) &&& (1 : Int32))))] rfl
  have G31 := G30.iloadN (v := x2) (pc' := 42) d12_41 rfl
  have G32 := G31.iload (v := x4) (pc' := 44) d12_42 rfl
  have G33 := G32.ishr (pc' := 45) d12_44
  have G34 := G33.iconst (v := (1 : Int32)) (pc' := 46) d12_45
  have G35 := G34.iand (pc' := 47) d12_46
  have G36 := G35.imul (pc' := 48) d12_47
  have G37 := G36.iadd (pc' := 49) d12_48
  have G38 := G37.iloadN (v := x0) (pc' := 50) d12_49 rfl
  have G39 := G38.iconst (v := (2 : Int32)) (pc' := 51) d12_50
  obtain ⟨v40, h40, ⟨ev40, eh40⟩, g40⟩ := G39.callS (argsL := [(.int x0), (.int (2 : Int32))]) (rest := [(.int (((fIn x0 (0 : Int32)) * ((x1 >>> (x4 &&& 31)) &&& (1 : Int32))) + ((fIn x0 (1 : Int32)) * ((x2 >>> (x4 &&& 31)) &&& (1 : Int32)))))]) (pc' := 54) (k' := 0) (j' := 0) (cn2 l Z a0 hw x0 (2 : Int32) h0 n0 G39.size) rfl (hw _ (List.mem_of_getElem? (i := 5) rfl)) (hw _ (List.mem_of_getElem? (i := 6) rfl)) (hw _ (List.mem_of_getElem? (i := 3) rfl)) (hw _ (List.mem_of_getElem? (i := 7) rfl)) (by decide) d12_51 pd0 rfl (W := 1) rfl rfl (by decide) (by decide) (by decide) (by decide) rfl rfl rfl
  subst ev40
  rw [eh40] at g40
  have G40 := g40 [(.int (fIn x0 (2 : Int32))), (.int (((fIn x0 (0 : Int32)) * ((x1 >>> (x4 &&& 31)) &&& (1 : Int32))) + ((fIn x0 (1 : Int32)) * ((x2 >>> (x4 &&& 31)) &&& (1 : Int32)))))] rfl
  have G41 := G40.iloadN (v := x3) (pc' := 55) d12_54 rfl
  have G42 := G41.iload (v := x4) (pc' := 57) d12_55 rfl
  have G43 := G42.ishr (pc' := 58) d12_57
  have G44 := G43.iconst (v := (1 : Int32)) (pc' := 59) d12_58
  have G45 := G44.iand (pc' := 60) d12_59
  have G46 := G45.imul (pc' := 61) d12_60
  have G47 := G46.iadd (pc' := 62) d12_61
  have G48 := G47.iloadN (v := x0) (pc' := 63) d12_62 rfl
  have G49 := G48.iconst (v := (3 : Int32)) (pc' := 64) d12_63
  obtain ⟨v50, h50, ⟨ev50, eh50⟩, g50⟩ := G49.callS (argsL := [(.int x0), (.int (3 : Int32))]) (rest := [(.int ((((fIn x0 (0 : Int32)) * ((x1 >>> (x4 &&& 31)) &&& (1 : Int32))) + ((fIn x0 (1 : Int32)) * ((x2 >>> (x4 &&& 31)) &&& (1 : Int32)))) + ((fIn x0 (2 : Int32)) * ((x3 >>> (x4 &&& 31)) &&& (1 : Int32)))))]) (pc' := 67) (k' := 0) (j' := 0) (cn2 l Z a0 hw x0 (3 : Int32) h0 n0 G49.size) rfl (hw _ (List.mem_of_getElem? (i := 5) rfl)) (hw _ (List.mem_of_getElem? (i := 6) rfl)) (hw _ (List.mem_of_getElem? (i := 3) rfl)) (hw _ (List.mem_of_getElem? (i := 7) rfl)) (by decide) d12_64 pd0 rfl (W := 1) rfl rfl (by decide) (by decide) (by decide) (by decide) rfl rfl rfl
  subst ev50
  rw [eh50] at g50
  have G50 := g50 [(.int (fIn x0 (3 : Int32))), (.int ((((fIn x0 (0 : Int32)) * ((x1 >>> (x4 &&& 31)) &&& (1 : Int32))) + ((fIn x0 (1 : Int32)) * ((x2 >>> (x4 &&& 31)) &&& (1 : Int32)))) + ((fIn x0 (2 : Int32)) * ((x3 >>> (x4 &&& 31)) &&& (1 : Int32)))))] rfl
  have G51 := G50.iload (v := ((x1 ^^^ (-1 : Int32)) &&& (7 : Int32))) (pc' := 69) d12_67 rfl
  have G52 := G51.iload (v := x4) (pc' := 71) d12_69 rfl
  have G53 := G52.ishr (pc' := 72) d12_71
  have G54 := G53.iconst (v := (1 : Int32)) (pc' := 73) d12_72
  have G55 := G54.iand (pc' := 74) d12_73
  have G56 := G55.imul (pc' := 75) d12_74
  have G57 := G56.iadd (pc' := 76) d12_75
  have G58 := G57.iloadN (v := x0) (pc' := 77) d12_76 rfl
  have G59 := G58.iconst (v := (4 : Int32)) (pc' := 78) d12_77
  obtain ⟨v60, h60, ⟨ev60, eh60⟩, g60⟩ := G59.callS (argsL := [(.int x0), (.int (4 : Int32))]) (rest := [(.int (((((fIn x0 (0 : Int32)) * ((x1 >>> (x4 &&& 31)) &&& (1 : Int32))) + ((fIn x0 (1 : Int32)) * ((x2 >>> (x4 &&& 31)) &&& (1 : Int32)))) + ((fIn x0 (2 : Int32)) * ((x3 >>> (x4 &&& 31)) &&& (1 : Int32)))) + ((fIn x0 (3 : Int32)) * ((((x1 ^^^ (-1 : Int32)) &&& (7 : Int32)) >>> (x4 &&& 31)) &&& (1 : Int32)))))]) (pc' := 81) (k' := 0) (j' := 0) (cn2 l Z a0 hw x0 (4 : Int32) h0 n0 G59.size) rfl (hw _ (List.mem_of_getElem? (i := 5) rfl)) (hw _ (List.mem_of_getElem? (i := 6) rfl)) (hw _ (List.mem_of_getElem? (i := 3) rfl)) (hw _ (List.mem_of_getElem? (i := 7) rfl)) (by decide) d12_78 pd0 rfl (W := 1) rfl rfl (by decide) (by decide) (by decide) (by decide) rfl rfl rfl
  subst ev60
  rw [eh60] at g60
  have G60 := g60 [(.int (fIn x0 (4 : Int32))), (.int (((((fIn x0 (0 : Int32)) * ((x1 >>> (x4 &&& 31)) &&& (1 : Int32))) + ((fIn x0 (1 : Int32)) * ((x2 >>> (x4 &&& 31)) &&& (1 : Int32)))) + ((fIn x0 (2 : Int32)) * ((x3 >>> (x4 &&& 31)) &&& (1 : Int32)))) + ((fIn x0 (3 : Int32)) * ((((x1 ^^^ (-1 : Int32)) &&& (7 : Int32)) >>> (x4 &&& 31)) &&& (1 : Int32)))))] rfl
  have G61 := G60.iload (v := ((x2 ^^^ (-1 : Int32)) &&& (7 : Int32))) (pc' := 83) d12_81 rfl
  have G62 := G61.iload (v := x4) (pc' := 85) d12_83 rfl
  have G63 := G62.ishr (pc' := 86) d12_85
  have G64 := G63.iconst (v := (1 : Int32)) (pc' := 87) d12_86
  have G65 := G64.iand (pc' := 88) d12_87
  have G66 := G65.imul (pc' := 89) d12_88
  have G67 := G66.iadd (pc' := 90) d12_89
  have G68 := G67.iloadN (v := x0) (pc' := 91) d12_90 rfl
  have G69 := G68.iconst (v := (5 : Int32)) (pc' := 92) d12_91
  obtain ⟨v70, h70, ⟨ev70, eh70⟩, g70⟩ := G69.callS (argsL := [(.int x0), (.int (5 : Int32))]) (rest := [(.int ((((((fIn x0 (0 : Int32)) * ((x1 >>> (x4 &&& 31)) &&& (1 : Int32))) + ((fIn x0 (1 : Int32)) * ((x2 >>> (x4 &&& 31)) &&& (1 : Int32)))) + ((fIn x0 (2 : Int32)) * ((x3 >>> (x4 &&& 31)) &&& (1 : Int32)))) + ((fIn x0 (3 : Int32)) * ((((x1 ^^^ (-1 : Int32)) &&& (7 : Int32)) >>> (x4 &&& 31)) &&& (1 : Int32)))) + ((fIn x0 (4 : Int32)) * ((((x2 ^^^ (-1 : Int32)) &&& (7 : Int32)) >>> (x4 &&& 31)) &&& (1 : Int32)))))]) (pc' := 95) (k' := 0) (j' := 0) (cn2 l Z a0 hw x0 (5 : Int32) h0 n0 G69.size) rfl (hw _ (List.mem_of_getElem? (i := 5) rfl)) (hw _ (List.mem_of_getElem? (i := 6) rfl)) (hw _ (List.mem_of_getElem? (i := 3) rfl)) (hw _ (List.mem_of_getElem? (i := 7) rfl)) (by decide) d12_92 pd0 rfl (W := 1) rfl rfl (by decide) (by decide) (by decide) (by decide) rfl rfl rfl
  subst ev70
  rw [eh70] at g70
  have G70 := g70 [(.int (fIn x0 (5 : Int32))), (.int ((((((fIn x0 (0 : Int32)) * ((x1 >>> (x4 &&& 31)) &&& (1 : Int32))) + ((fIn x0 (1 : Int32)) * ((x2 >>> (x4 &&& 31)) &&& (1 : Int32)))) + ((fIn x0 (2 : Int32)) * ((x3 >>> (x4 &&& 31)) &&& (1 : Int32)))) + ((fIn x0 (3 : Int32)) * ((((x1 ^^^ (-1 : Int32)) &&& (7 : Int32)) >>> (x4 &&& 31)) &&& (1 : Int32)))) + ((fIn x0 (4 : Int32)) * ((((x2 ^^^ (-1 : Int32)) &&& (7 : Int32)) >>> (x4 &&& 31)) &&& (1 : Int32)))))] rfl
  have G71 := G70.iload (v := ((x3 ^^^ (-1 : Int32)) &&& (7 : Int32))) (pc' := 97) d12_95 rfl
  have G72 := G71.iload (v := x4) (pc' := 99) d12_97 rfl
  have G73 := G72.ishr (pc' := 100) d12_99
  have G74 := G73.iconst (v := (1 : Int32)) (pc' := 101) d12_100
  have G75 := G74.iand (pc' := 102) d12_101
  have G76 := G75.imul (pc' := 103) d12_102
  have G77 := G76.iadd (pc' := 104) d12_103
  exact G77.retI d12_104 rfl ⟨congrArg (fun z => some (Value.int z)) (by rw [fE]), rfl⟩
theorem d1_0 : decode method_2_code 0 = .ok (.iload_n 1, 1) := by decide +kernel
theorem d1_1 : decode method_2_code 1 = .ok (.istore_n 3, 1) := by decide +kernel
theorem d1_2 : decode method_2_code 2 = .ok (.iload_n 2, 1) := by decide +kernel
theorem d1_3 : decode method_2_code 3 = .ok (.iconst 1, 1) := by decide +kernel
theorem d1_4 : decode method_2_code 4 = .ok (.iand, 1) := by decide +kernel
theorem d1_5 : decode method_2_code 5 = .ok (.ifCond .eq 11, 3) := by decide +kernel
theorem d1_8 : decode method_2_code 8 = .ok (.aload_n 0, 1) := by decide +kernel
theorem d1_9 : decode method_2_code 9 = .ok (.iload_n 3, 1) := by decide +kernel
theorem d1_10 : decode method_2_code 10 = .ok (.iconst 0, 1) := by decide +kernel
theorem d1_11 : decode method_2_code 11 = .ok (.iastore, 1) := by decide +kernel
theorem d1_12 : decode method_2_code 12 = .ok (.iload_n 3, 1) := by decide +kernel
theorem d1_13 : decode method_2_code 13 = .ok (.iconst 1, 1) := by decide +kernel
theorem d1_14 : decode method_2_code 14 = .ok (.iadd, 1) := by decide +kernel
theorem d1_15 : decode method_2_code 15 = .ok (.istore_n 3, 1) := by decide +kernel
theorem d1_16 : decode method_2_code 16 = .ok (.iload_n 2, 1) := by decide +kernel
theorem d1_17 : decode method_2_code 17 = .ok (.iconst 2, 1) := by decide +kernel
theorem d1_18 : decode method_2_code 18 = .ok (.iand, 1) := by decide +kernel
theorem d1_19 : decode method_2_code 19 = .ok (.ifCond .eq 11, 3) := by decide +kernel
theorem d1_22 : decode method_2_code 22 = .ok (.aload_n 0, 1) := by decide +kernel
theorem d1_23 : decode method_2_code 23 = .ok (.iload_n 3, 1) := by decide +kernel
theorem d1_24 : decode method_2_code 24 = .ok (.iconst 1, 1) := by decide +kernel
theorem d1_25 : decode method_2_code 25 = .ok (.iastore, 1) := by decide +kernel
theorem d1_26 : decode method_2_code 26 = .ok (.iload_n 3, 1) := by decide +kernel
theorem d1_27 : decode method_2_code 27 = .ok (.iconst 1, 1) := by decide +kernel
theorem d1_28 : decode method_2_code 28 = .ok (.iadd, 1) := by decide +kernel
theorem d1_29 : decode method_2_code 29 = .ok (.istore_n 3, 1) := by decide +kernel
theorem d1_30 : decode method_2_code 30 = .ok (.iload_n 2, 1) := by decide +kernel
theorem d1_31 : decode method_2_code 31 = .ok (.iconst 4, 1) := by decide +kernel
theorem d1_32 : decode method_2_code 32 = .ok (.iand, 1) := by decide +kernel
theorem d1_33 : decode method_2_code 33 = .ok (.ifCond .eq 11, 3) := by decide +kernel
theorem d1_36 : decode method_2_code 36 = .ok (.aload_n 0, 1) := by decide +kernel
theorem d1_37 : decode method_2_code 37 = .ok (.iload_n 3, 1) := by decide +kernel
theorem d1_38 : decode method_2_code 38 = .ok (.iconst 2, 1) := by decide +kernel
theorem d1_39 : decode method_2_code 39 = .ok (.iastore, 1) := by decide +kernel
theorem d1_40 : decode method_2_code 40 = .ok (.iload_n 3, 1) := by decide +kernel
theorem d1_41 : decode method_2_code 41 = .ok (.iconst 1, 1) := by decide +kernel
theorem d1_42 : decode method_2_code 42 = .ok (.iadd, 1) := by decide +kernel
theorem d1_43 : decode method_2_code 43 = .ok (.istore_n 3, 1) := by decide +kernel
theorem d1_44 : decode method_2_code 44 = .ok (.iload_n 3, 1) := by decide +kernel
theorem d1_45 : decode method_2_code 45 = .ok (.ireturn, 1) := by decide +kernel
def own_bits (x : Int32) : List Nat := (if (x &&& (1 : Int32)) = (0 : Int32) then [] else [0]) ++ (if (x &&& (2 : Int32)) = (0 : Int32) then [] else [1]) ++ (if (x &&& (4 : Int32)) = (0 : Int32) then [] else [2])
theorem ef1 (m : MethodId) (P : List Nat) (ia : Addr) (x2 : Int32) : entryFrame m #[(.ref ia), (.int (Int32.ofNat P.length)), (.int x2)] 4 = mkF m 0 #[.val (.ref ia), .val (.int (Int32.ofNat P.length)), .val (.int x2), .unset] [] := by first | (simp [entryFrame, mkF, argsToLocals, Value.category]; done) | rfl
def rm1 : Room := { frames := 0, cells := 0, slots := 0, locals := 0 }
set_option maxRecDepth 65536 in
set_option maxHeartbeats 40000000 in
theorem cn1 (l : Launch) (Z : State) (a0 : Array Value) (hw : ∀ d ∈ tables_1, d.before a0 Z = true) (P : List Nat) (ia : Addr) (x2 : Int32) (h0 : Heap) (n0 : Nat) (hn : n0 ≤ h0.size) (vs : List Value) (len : Nat) (hlen : len ≤ 20) (V0 : Av Z h0 ia .int vs) (PR0 : own_pre vs len P) (hle : P.length + (own_bits x2).length ≤ len) (g_i : n0 ≤ ia) :
    Con l (⟨"com/example/rhumb/rhumb/InstanceTagsTagCountsPinLaw", "put", "([III)I"⟩ : MethodName) method_2_code 4 (some .int) [] rm1 rm1.cells rm1.slots Z #[(.ref ia), (.int (Int32.ofNat P.length)), (.int x2)] h0 n0 (fun v h => ∃ vs' : List Value, v = some (.int (Int32.ofNat (P ++ own_bits x2).length)) ∧ Keep h0 h [ia] ∧ Av Z h ia .int vs' ∧ own_pre vs' len (P ++ own_bits x2)) := by
  refine Con.of (plainFor_of_name pn2) hn (fun m => ef1 m P ia x2) ?_
  intro p e s m below meth c s₀ hnm G0
  have K0 : Keep h0 h0 [ia] := Keep.refl _ _
  have hl := hle
  unfold own_bits at hl
  simp only [List.length_append] at hl
  have G1 := G0.iloadN (v := (Int32.ofNat P.length)) (pc' := 1) d1_0 rfl
  have G2 := G1.istoreN (L' := #[.val (.ref ia), .val (.int (Int32.ofNat P.length)), .val (.int x2), .val (.int (Int32.ofNat P.length))]) (pc' := 2) d1_1 rfl
  have G3 := G2.iloadN (v := x2) (pc' := 3) d1_2 rfl
  have G4 := G3.iconst (v := (1 : Int32)) (pc' := 4) d1_3
  have G5 := G4.iand (pc' := 5) d1_4
  by_cases c5_5 : (x2 &&& (1 : Int32)) = (0 : Int32)
  · have G6 := G5.ifY d1_5 16 (Jvm.Free.XT.i0_eq_t c5_5)
    have G7 := G6.iloadN (v := x2) (pc' := 17) d1_16 rfl
    have G8 := G7.iconst (v := (2 : Int32)) (pc' := 18) d1_17
    have G9 := G8.iand (pc' := 19) d1_18
    by_cases c19_9 : (x2 &&& (2 : Int32)) = (0 : Int32)
    · have G10 := G9.ifY d1_19 30 (Jvm.Free.XT.i0_eq_t c19_9)
      have G11 := G10.iloadN (v := x2) (pc' := 31) d1_30 rfl
      have G12 := G11.iconst (v := (4 : Int32)) (pc' := 32) d1_31
      have G13 := G12.iand (pc' := 33) d1_32
      by_cases c33_13 : (x2 &&& (4 : Int32)) = (0 : Int32)
      · have G14 := G13.ifY d1_33 44 (Jvm.Free.XT.i0_eq_t c33_13)
        have G15 := G14.iloadN (v := (Int32.ofNat P.length)) (pc' := 45) d1_44 rfl
        have eb : own_bits x2 = [] := by unfold own_bits; rw [if_pos c5_5, if_pos c19_9, if_pos c33_13]; rfl
        exact G15.retI d1_45 rfl ⟨_, by rw [eb, List.length_append]; rfl, K0, V0, by rw [eb]; simpa using PR0⟩
      · have G16 := G13.ifN d1_33 36 (Jvm.Free.XT.i0_eq_f c33_13)
        have G17 := G16.aloadN (v := (.ref ia)) (pc' := 37) d1_36 rfl
        have G18 := G17.iloadN (v := (Int32.ofNat P.length)) (pc' := 38) d1_37 rfl
        have G19 := G18.iconst (v := (2 : Int32)) (pc' := 39) d1_38
        have hq19 : P.length < len := by
          rw [if_pos c5_5] at hl; rw [if_pos c19_9] at hl; rw [if_neg c33_13] at hl; simp only [List.length_cons, List.length_nil] at hl; omega
        obtain ⟨h20, W20, V20, G20⟩ := G19.stI (i := P.length) (pc' := 40) V0 g_i (own_i _ (by omega)) (by rw [PR0.1]; exact hq19) d1_39
        have K21 : Keep h0 h20 [ia] := K0.wr W20 (Or.inl (List.mem_of_getElem? (i := 0) rfl))
        have PR21 : own_pre (List.set vs (P.length) (.int (2 : Int32))) len (P ++ [2]) := own_preS 2 PR0 hq19
        have G22 := G20.iloadN (v := (Int32.ofNat P.length)) (pc' := 41) d1_40 rfl
        have G23 := G22.iconst (v := (1 : Int32)) (pc' := 42) d1_41
        have G24 := G23.iadd (pc' := 43) d1_42
        rw [own_a1] at G24
        have G25 := G24.istoreN (L' := #[.val (.ref ia), .val (.int (Int32.ofNat P.length)), .val (.int x2), .val (.int (Int32.ofNat (P.length + 1)))]) (pc' := 44) d1_43 rfl
        have G26 := G25.iloadN (v := (Int32.ofNat (P.length + 1))) (pc' := 45) d1_44 rfl
        have eb : own_bits x2 = [2] := by unfold own_bits; rw [if_pos c5_5, if_pos c19_9, if_neg c33_13]; rfl
        exact G26.retI d1_45 rfl ⟨_, by rw [eb, List.length_append]; rfl, K21, V20, by rw [eb]; simpa using PR21⟩
    · have G27 := G9.ifN d1_19 22 (Jvm.Free.XT.i0_eq_f c19_9)
      have G28 := G27.aloadN (v := (.ref ia)) (pc' := 23) d1_22 rfl
      have G29 := G28.iloadN (v := (Int32.ofNat P.length)) (pc' := 24) d1_23 rfl
      have G30 := G29.iconst (v := (1 : Int32)) (pc' := 25) d1_24
      have hq30 : P.length < len := by
        rw [if_pos c5_5] at hl; rw [if_neg c19_9] at hl; simp only [List.length_cons, List.length_nil] at hl; omega
      obtain ⟨h31, W31, V31, G31⟩ := G30.stI (i := P.length) (pc' := 26) V0 g_i (own_i _ (by omega)) (by rw [PR0.1]; exact hq30) d1_25
      have K32 : Keep h0 h31 [ia] := K0.wr W31 (Or.inl (List.mem_of_getElem? (i := 0) rfl))
      have PR32 : own_pre (List.set vs (P.length) (.int (1 : Int32))) len (P ++ [1]) := own_preS 1 PR0 hq30
      have G33 := G31.iloadN (v := (Int32.ofNat P.length)) (pc' := 27) d1_26 rfl
      have G34 := G33.iconst (v := (1 : Int32)) (pc' := 28) d1_27
      have G35 := G34.iadd (pc' := 29) d1_28
      rw [own_a1] at G35
      have G36 := G35.istoreN (L' := #[.val (.ref ia), .val (.int (Int32.ofNat P.length)), .val (.int x2), .val (.int (Int32.ofNat (P.length + 1)))]) (pc' := 30) d1_29 rfl
      have G37 := G36.iloadN (v := x2) (pc' := 31) d1_30 rfl
      have G38 := G37.iconst (v := (4 : Int32)) (pc' := 32) d1_31
      have G39 := G38.iand (pc' := 33) d1_32
      by_cases c33_39 : (x2 &&& (4 : Int32)) = (0 : Int32)
      · have G40 := G39.ifY d1_33 44 (Jvm.Free.XT.i0_eq_t c33_39)
        have G41 := G40.iloadN (v := (Int32.ofNat (P.length + 1))) (pc' := 45) d1_44 rfl
        have eb : own_bits x2 = [1] := by unfold own_bits; rw [if_pos c5_5, if_neg c19_9, if_pos c33_39]; rfl
        exact G41.retI d1_45 rfl ⟨_, by rw [eb, List.length_append]; rfl, K32, V31, by rw [eb]; simpa using PR32⟩
      · have G42 := G39.ifN d1_33 36 (Jvm.Free.XT.i0_eq_f c33_39)
        have G43 := G42.aloadN (v := (.ref ia)) (pc' := 37) d1_36 rfl
        have G44 := G43.iloadN (v := (Int32.ofNat (P.length + 1))) (pc' := 38) d1_37 rfl
        have G45 := G44.iconst (v := (2 : Int32)) (pc' := 39) d1_38
        have hq45 : (P.length + 1) < len := by
          rw [if_pos c5_5] at hl; rw [if_neg c19_9] at hl; rw [if_neg c33_39] at hl; simp only [List.length_cons, List.length_nil] at hl; omega
        obtain ⟨h46, W46, V46, G46⟩ := G45.stI (i := (P.length + 1)) (pc' := 40) V31 g_i (own_i _ (by omega)) (by rw [PR32.1]; exact hq45) d1_39
        have K47 : Keep h0 h46 [ia] := K32.wr W46 (Or.inl (List.mem_of_getElem? (i := 0) rfl))
        have PR47 : own_pre (List.set (List.set vs (P.length) (.int (1 : Int32))) ((P.length + 1)) (.int (2 : Int32))) len ((P ++ [1]) ++ [2]) := by
          have z := own_preS 2 PR32 (by rw [show List.length ((P ++ [1]) : List Nat) = P.length + 1 by simp]; exact hq45)
          rw [show List.length ((P ++ [1]) : List Nat) = P.length + 1 by simp] at z
          exact z
        have G48 := G46.iloadN (v := (Int32.ofNat (P.length + 1))) (pc' := 41) d1_40 rfl
        have G49 := G48.iconst (v := (1 : Int32)) (pc' := 42) d1_41
        have G50 := G49.iadd (pc' := 43) d1_42
        rw [own_a1] at G50
        have G51 := G50.istoreN (L' := #[.val (.ref ia), .val (.int (Int32.ofNat P.length)), .val (.int x2), .val (.int (Int32.ofNat ((P.length + 1) + 1)))]) (pc' := 44) d1_43 rfl
        have G52 := G51.iloadN (v := (Int32.ofNat ((P.length + 1) + 1))) (pc' := 45) d1_44 rfl
        have eb : own_bits x2 = [1, 2] := by unfold own_bits; rw [if_pos c5_5, if_neg c19_9, if_neg c33_39]; rfl
        exact G52.retI d1_45 rfl ⟨_, by rw [eb, List.length_append]; rfl, K47, V46, by rw [eb]; simpa using PR47⟩
  · have G53 := G5.ifN d1_5 8 (Jvm.Free.XT.i0_eq_f c5_5)
    have G54 := G53.aloadN (v := (.ref ia)) (pc' := 9) d1_8 rfl
    have G55 := G54.iloadN (v := (Int32.ofNat P.length)) (pc' := 10) d1_9 rfl
    have G56 := G55.iconst (v := (0 : Int32)) (pc' := 11) d1_10
    have hq56 : P.length < len := by
      rw [if_neg c5_5] at hl; simp only [List.length_cons, List.length_nil] at hl; omega
    obtain ⟨h57, W57, V57, G57⟩ := G56.stI (i := P.length) (pc' := 12) V0 g_i (own_i _ (by omega)) (by rw [PR0.1]; exact hq56) d1_11
    have K58 : Keep h0 h57 [ia] := K0.wr W57 (Or.inl (List.mem_of_getElem? (i := 0) rfl))
    have PR58 : own_pre (List.set vs (P.length) (.int (0 : Int32))) len (P ++ [0]) := own_preS 0 PR0 hq56
    have G59 := G57.iloadN (v := (Int32.ofNat P.length)) (pc' := 13) d1_12 rfl
    have G60 := G59.iconst (v := (1 : Int32)) (pc' := 14) d1_13
    have G61 := G60.iadd (pc' := 15) d1_14
    rw [own_a1] at G61
    have G62 := G61.istoreN (L' := #[.val (.ref ia), .val (.int (Int32.ofNat P.length)), .val (.int x2), .val (.int (Int32.ofNat (P.length + 1)))]) (pc' := 16) d1_15 rfl
    have G63 := G62.iloadN (v := x2) (pc' := 17) d1_16 rfl
    have G64 := G63.iconst (v := (2 : Int32)) (pc' := 18) d1_17
    have G65 := G64.iand (pc' := 19) d1_18
    by_cases c19_65 : (x2 &&& (2 : Int32)) = (0 : Int32)
    · have G66 := G65.ifY d1_19 30 (Jvm.Free.XT.i0_eq_t c19_65)
      have G67 := G66.iloadN (v := x2) (pc' := 31) d1_30 rfl
      have G68 := G67.iconst (v := (4 : Int32)) (pc' := 32) d1_31
      have G69 := G68.iand (pc' := 33) d1_32
      by_cases c33_69 : (x2 &&& (4 : Int32)) = (0 : Int32)
      · have G70 := G69.ifY d1_33 44 (Jvm.Free.XT.i0_eq_t c33_69)
        have G71 := G70.iloadN (v := (Int32.ofNat (P.length + 1))) (pc' := 45) d1_44 rfl
        have eb : own_bits x2 = [0] := by unfold own_bits; rw [if_neg c5_5, if_pos c19_65, if_pos c33_69]; rfl
        exact G71.retI d1_45 rfl ⟨_, by rw [eb, List.length_append]; rfl, K58, V57, by rw [eb]; simpa using PR58⟩
      · have G72 := G69.ifN d1_33 36 (Jvm.Free.XT.i0_eq_f c33_69)
        have G73 := G72.aloadN (v := (.ref ia)) (pc' := 37) d1_36 rfl
        have G74 := G73.iloadN (v := (Int32.ofNat (P.length + 1))) (pc' := 38) d1_37 rfl
        have G75 := G74.iconst (v := (2 : Int32)) (pc' := 39) d1_38
        have hq75 : (P.length + 1) < len := by
          rw [if_neg c5_5] at hl; rw [if_pos c19_65] at hl; rw [if_neg c33_69] at hl; simp only [List.length_cons, List.length_nil] at hl; omega
        obtain ⟨h76, W76, V76, G76⟩ := G75.stI (i := (P.length + 1)) (pc' := 40) V57 g_i (own_i _ (by omega)) (by rw [PR58.1]; exact hq75) d1_39
        have K77 : Keep h0 h76 [ia] := K58.wr W76 (Or.inl (List.mem_of_getElem? (i := 0) rfl))
        have PR77 : own_pre (List.set (List.set vs (P.length) (.int (0 : Int32))) ((P.length + 1)) (.int (2 : Int32))) len ((P ++ [0]) ++ [2]) := by
          have z := own_preS 2 PR58 (by rw [show List.length ((P ++ [0]) : List Nat) = P.length + 1 by simp]; exact hq75)
          rw [show List.length ((P ++ [0]) : List Nat) = P.length + 1 by simp] at z
          exact z
        have G78 := G76.iloadN (v := (Int32.ofNat (P.length + 1))) (pc' := 41) d1_40 rfl
        have G79 := G78.iconst (v := (1 : Int32)) (pc' := 42) d1_41
        have G80 := G79.iadd (pc' := 43) d1_42
        rw [own_a1] at G80
        have G81 := G80.istoreN (L' := #[.val (.ref ia), .val (.int (Int32.ofNat P.length)), .val (.int x2), .val (.int (Int32.ofNat ((P.length + 1) + 1)))]) (pc' := 44) d1_43 rfl
        have G82 := G81.iloadN (v := (Int32.ofNat ((P.length + 1) + 1))) (pc' := 45) d1_44 rfl
        have eb : own_bits x2 = [0, 2] := by unfold own_bits; rw [if_neg c5_5, if_pos c19_65, if_neg c33_69]; rfl
        exact G82.retI d1_45 rfl ⟨_, by rw [eb, List.length_append]; rfl, K77, V76, by rw [eb]; simpa using PR77⟩
    · have G83 := G65.ifN d1_19 22 (Jvm.Free.XT.i0_eq_f c19_65)
      have G84 := G83.aloadN (v := (.ref ia)) (pc' := 23) d1_22 rfl
      have G85 := G84.iloadN (v := (Int32.ofNat (P.length + 1))) (pc' := 24) d1_23 rfl
      have G86 := G85.iconst (v := (1 : Int32)) (pc' := 25) d1_24
      have hq86 : (P.length + 1) < len := by
        rw [if_neg c5_5] at hl; rw [if_neg c19_65] at hl; simp only [List.length_cons, List.length_nil] at hl; omega
      obtain ⟨h87, W87, V87, G87⟩ := G86.stI (i := (P.length + 1)) (pc' := 26) V57 g_i (own_i _ (by omega)) (by rw [PR58.1]; exact hq86) d1_25
      have K88 : Keep h0 h87 [ia] := K58.wr W87 (Or.inl (List.mem_of_getElem? (i := 0) rfl))
      have PR88 : own_pre (List.set (List.set vs (P.length) (.int (0 : Int32))) ((P.length + 1)) (.int (1 : Int32))) len ((P ++ [0]) ++ [1]) := by
        have z := own_preS 1 PR58 (by rw [show List.length ((P ++ [0]) : List Nat) = P.length + 1 by simp]; exact hq86)
        rw [show List.length ((P ++ [0]) : List Nat) = P.length + 1 by simp] at z
        exact z
      have G89 := G87.iloadN (v := (Int32.ofNat (P.length + 1))) (pc' := 27) d1_26 rfl
      have G90 := G89.iconst (v := (1 : Int32)) (pc' := 28) d1_27
      have G91 := G90.iadd (pc' := 29) d1_28
      rw [own_a1] at G91
      have G92 := G91.istoreN (L' := #[.val (.ref ia), .val (.int (Int32.ofNat P.length)), .val (.int x2), .val (.int (Int32.ofNat ((P.length + 1) + 1)))]) (pc' := 30) d1_29 rfl
      have G93 := G92.iloadN (v := x2) (pc' := 31) d1_30 rfl
      have G94 := G93.iconst (v := (4 : Int32)) (pc' := 32) d1_31
      have G95 := G94.iand (pc' := 33) d1_32
      by_cases c33_95 : (x2 &&& (4 : Int32)) = (0 : Int32)
      · have G96 := G95.ifY d1_33 44 (Jvm.Free.XT.i0_eq_t c33_95)
        have G97 := G96.iloadN (v := (Int32.ofNat ((P.length + 1) + 1))) (pc' := 45) d1_44 rfl
        have eb : own_bits x2 = [0, 1] := by unfold own_bits; rw [if_neg c5_5, if_neg c19_65, if_pos c33_95]; rfl
        exact G97.retI d1_45 rfl ⟨_, by rw [eb, List.length_append]; rfl, K88, V87, by rw [eb]; simpa using PR88⟩
      · have G98 := G95.ifN d1_33 36 (Jvm.Free.XT.i0_eq_f c33_95)
        have G99 := G98.aloadN (v := (.ref ia)) (pc' := 37) d1_36 rfl
        have G100 := G99.iloadN (v := (Int32.ofNat ((P.length + 1) + 1))) (pc' := 38) d1_37 rfl
        have G101 := G100.iconst (v := (2 : Int32)) (pc' := 39) d1_38
        have hq101 : ((P.length + 1) + 1) < len := by
          rw [if_neg c5_5] at hl; rw [if_neg c19_65] at hl; rw [if_neg c33_95] at hl; simp only [List.length_cons, List.length_nil] at hl; omega
        obtain ⟨h102, W102, V102, G102⟩ := G101.stI (i := ((P.length + 1) + 1)) (pc' := 40) V87 g_i (own_i _ (by omega)) (by rw [PR88.1]; exact hq101) d1_39
        have K103 : Keep h0 h102 [ia] := K88.wr W102 (Or.inl (List.mem_of_getElem? (i := 0) rfl))
        have PR103 : own_pre (List.set (List.set (List.set vs (P.length) (.int (0 : Int32))) ((P.length + 1)) (.int (1 : Int32))) (((P.length + 1) + 1)) (.int (2 : Int32))) len (((P ++ [0]) ++ [1]) ++ [2]) := by
          have z := own_preS 2 PR88 (by rw [show List.length (((P ++ [0]) ++ [1]) : List Nat) = P.length + 1 + 1 by simp]; exact hq101)
          rw [show List.length (((P ++ [0]) ++ [1]) : List Nat) = P.length + 1 + 1 by simp] at z
          exact z
        have G104 := G102.iloadN (v := (Int32.ofNat ((P.length + 1) + 1))) (pc' := 41) d1_40 rfl
        have G105 := G104.iconst (v := (1 : Int32)) (pc' := 42) d1_41
        have G106 := G105.iadd (pc' := 43) d1_42
        rw [own_a1] at G106
        have G107 := G106.istoreN (L' := #[.val (.ref ia), .val (.int (Int32.ofNat P.length)), .val (.int x2), .val (.int (Int32.ofNat (((P.length + 1) + 1) + 1)))]) (pc' := 44) d1_43 rfl
        have G108 := G107.iloadN (v := (Int32.ofNat (((P.length + 1) + 1) + 1))) (pc' := 45) d1_44 rfl
        have eb : own_bits x2 = [0, 1, 2] := by unfold own_bits; rw [if_neg c5_5, if_neg c19_65, if_neg c33_95]; rfl
        exact G108.retI d1_45 rfl ⟨_, by rw [eb, List.length_append]; rfl, K103, V102, by rw [eb]; simpa using PR103⟩
theorem d11_0 : decode prog_15_method_9_code 0 = .ok (.aload_n 0, 1) := by decide +kernel
theorem d11_1 : decode prog_15_method_9_code 1 = .ok (.getfield 13, 3) := by decide +kernel
theorem d11_4 : decode prog_15_method_9_code 4 = .ok (.newarray .int, 2) := by decide +kernel
theorem d11_6 : decode prog_15_method_9_code 6 = .ok (.astore_n 2, 1) := by decide +kernel
theorem d11_7 : decode prog_15_method_9_code 7 = .ok (.aload_n 1, 1) := by decide +kernel
theorem d11_8 : decode prog_15_method_9_code 8 = .ok (.astore_n 3, 1) := by decide +kernel
theorem d11_9 : decode prog_15_method_9_code 9 = .ok (.aload_n 3, 1) := by decide +kernel
theorem d11_10 : decode prog_15_method_9_code 10 = .ok (.arraylength, 1) := by decide +kernel
theorem d11_11 : decode prog_15_method_9_code 11 = .ok (.istore 4, 2) := by decide +kernel
theorem d11_13 : decode prog_15_method_9_code 13 = .ok (.iconst 0, 1) := by decide +kernel
theorem d11_14 : decode prog_15_method_9_code 14 = .ok (.istore 5, 2) := by decide +kernel
theorem d11_16 : decode prog_15_method_9_code 16 = .ok (.iload 5, 2) := by decide +kernel
theorem d11_18 : decode prog_15_method_9_code 18 = .ok (.iload 4, 2) := by decide +kernel
theorem d11_20 : decode prog_15_method_9_code 20 = .ok (.if_icmp .ge 57, 3) := by decide +kernel
theorem d11_23 : decode prog_15_method_9_code 23 = .ok (.aload_n 3, 1) := by decide +kernel
theorem d11_24 : decode prog_15_method_9_code 24 = .ok (.iload 5, 2) := by decide +kernel
theorem d11_26 : decode prog_15_method_9_code 26 = .ok (.iaload, 1) := by decide +kernel
theorem d11_27 : decode prog_15_method_9_code 27 = .ok (.istore 6, 2) := by decide +kernel
theorem d11_29 : decode prog_15_method_9_code 29 = .ok (.aload_n 0, 1) := by decide +kernel
theorem d11_30 : decode prog_15_method_9_code 30 = .ok (.getfield 17, 3) := by decide +kernel
theorem d11_33 : decode prog_15_method_9_code 33 = .ok (.iload 6, 2) := by decide +kernel
theorem d11_35 : decode prog_15_method_9_code 35 = .ok (.iaload, 1) := by decide +kernel
theorem d11_36 : decode prog_15_method_9_code 36 = .ok (.istore 7, 2) := by decide +kernel
theorem d11_38 : decode prog_15_method_9_code 38 = .ok (.iload 7, 2) := by decide +kernel
theorem d11_40 : decode prog_15_method_9_code 40 = .ok (.aload_n 0, 1) := by decide +kernel
theorem d11_41 : decode prog_15_method_9_code 41 = .ok (.getfield 17, 3) := by decide +kernel
theorem d11_44 : decode prog_15_method_9_code 44 = .ok (.iload 6, 2) := by decide +kernel
theorem d11_46 : decode prog_15_method_9_code 46 = .ok (.iconst 1, 1) := by decide +kernel
theorem d11_47 : decode prog_15_method_9_code 47 = .ok (.iadd, 1) := by decide +kernel
theorem d11_48 : decode prog_15_method_9_code 48 = .ok (.iaload, 1) := by decide +kernel
theorem d11_49 : decode prog_15_method_9_code 49 = .ok (.if_icmp .ge 22, 3) := by decide +kernel
theorem d11_52 : decode prog_15_method_9_code 52 = .ok (.aload_n 2, 1) := by decide +kernel
theorem d11_53 : decode prog_15_method_9_code 53 = .ok (.aload_n 0, 1) := by decide +kernel
theorem d11_54 : decode prog_15_method_9_code 54 = .ok (.getfield 21, 3) := by decide +kernel
theorem d11_57 : decode prog_15_method_9_code 57 = .ok (.iload 7, 2) := by decide +kernel
theorem d11_59 : decode prog_15_method_9_code 59 = .ok (.iaload, 1) := by decide +kernel
theorem d11_60 : decode prog_15_method_9_code 60 = .ok (.dup2, 1) := by decide +kernel
theorem d11_61 : decode prog_15_method_9_code 61 = .ok (.iaload, 1) := by decide +kernel
theorem d11_62 : decode prog_15_method_9_code 62 = .ok (.iconst 1, 1) := by decide +kernel
theorem d11_63 : decode prog_15_method_9_code 63 = .ok (.iadd, 1) := by decide +kernel
theorem d11_64 : decode prog_15_method_9_code 64 = .ok (.iastore, 1) := by decide +kernel
theorem d11_65 : decode prog_15_method_9_code 65 = .ok (.iinc 7 1, 3) := by decide +kernel
theorem d11_68 : decode prog_15_method_9_code 68 = .ok (.goto (-30), 3) := by decide +kernel
theorem d11_71 : decode prog_15_method_9_code 71 = .ok (.iinc 5 1, 3) := by decide +kernel
theorem d11_74 : decode prog_15_method_9_code 74 = .ok (.goto (-58), 3) := by decide +kernel
theorem d11_77 : decode prog_15_method_9_code 77 = .ok (.aload_n 2, 1) := by decide +kernel
theorem d11_78 : decode prog_15_method_9_code 78 = .ok (.areturn, 1) := by decide +kernel
def own_sg1 (I S : Nat → Nat) (x t : Nat) : Nat := own_cn I (S (x + 1)) t - own_cn I (S x) t
def own_mc (I S mem : Nat → Nat) : Nat → Nat → Nat
  | 0, _ => 0
  | j + 1, t => own_mc I S mem j t + own_sg1 I S (mem j) t
theorem own_cup (I : Nat → Nat) (F : Nat → Nat) (b u t : Nat) (h : b ≤ u) : (if t = I u then F (I u) + (own_cn I u (I u) - own_cn I b (I u)) + 1 else F t + (own_cn I u t - own_cn I b t)) = F t + (own_cn I (u + 1) t - own_cn I b t) := by
  have m1 := own_cnm I t b (u - b)
  rw [show b + (u - b) = u by omega] at m1
  rw [own_cn]
  by_cases q : t = I u
  · subst q; rw [if_pos rfl, if_pos rfl]; omega
  · rw [if_neg q, if_neg (fun z => q z.symm)]; omega
theorem own_mcl {tc N M : Nat} {S I : Nat → Nat} (H : own_H tc N M S I) (mem : Nat → Nat) (hm : ∀ j, mem j < N) (t : Nat) : ∀ j, own_mc I S mem j t ≤ 20 * j
  | 0 => Nat.le_refl _
  | j + 1 => by
    have := own_mcl H mem hm t j
    have q := own_cnl I t (S (mem j + 1))
    have r := own_Hl H (show mem j + 1 ≤ N from hm j)
    have z := H.1.2.2.1
    rw [own_mc]
    unfold own_sg1
    omega
set_option maxRecDepth 65536 in
set_option maxHeartbeats 40000000 in
theorem own_tmI (p : Program) (l : Launch) (e : Env) (R : Room) (s : State) (m : MethodId) (args : Array Value) (below : List Frame) (meth : Method) (c : Code) (Z : State) (a0 : Array Value) (hw : ∀ d ∈ tables_1, d.before a0 Z = true) (n0 : Nat) (s₀ : State) (h0 : Heap) (k j : Nat) (tc N M : Nat) (S I : Nat → Nat) (H : own_H tc N M S I) (a sa da ma ra : Addr) (vS vI vM : List Value) (Fs : Fld Z h0 a "com/example/rhumb/rhumb/InstanceTags" "tagStart" "[I" (.ref sa)) (Fd : Fld Z h0 a "com/example/rhumb/rhumb/InstanceTags" "tagIds" "[I" (.ref da)) (VS : Av Z h0 sa .int vS) (AS : own_A vS (N + 1) S) (VI : Av Z h0 da .int vI) (AI : own_A vI M I) (VM : Av Z h0 ma .int vM) (n : Nat) (hn6 : n ≤ 6) (mem : Nat → Nat) (AM : own_A vM n mem) (hmem : ∀ j, mem j < N) (g_r : n0 ≤ ra) (ne_a : a ≠ ra) (ne_sa : sa ≠ ra) (ne_da : da ≠ ra) (ne_ma : ma ≠ ra) (jx mj : Nat) (hmj : mj < N) (F : Nat → Nat) (hF : ∀ t, F t ≤ 200) : ∀ (q u : Nat) (hh : Heap) (vr : List Value), u + q = S (mj + 1) → S mj ≤ u → Keep h0 hh [ra] → Av Z hh ra .int vr → own_A vr tc (fun t => F t + (own_cn I u t - own_cn I (S mj) t)) → Go p l e R s m args below meth c Z "com/example/rhumb/rhumb/InstanceTags" prog_15_method_9_code 8 (some (.array .int)) n0 s₀ hh k j 38 #[.val (.ref a), .val (.ref ma), .val (.ref ra), .val (.ref ma), .val (.int (Int32.ofNat n)), .val (.int (Int32.ofNat jx)), .val (.int (Int32.ofNat mj)), .val (.int (Int32.ofNat u))] [] → ∃ hh' vr', Keep h0 hh' [ra] ∧ Av Z hh' ra .int vr' ∧ own_A vr' tc (fun t => F t + (own_cn I (S (mj + 1)) t - own_cn I (S mj) t)) ∧ Go p l e R s m args below meth c Z "com/example/rhumb/rhumb/InstanceTags" prog_15_method_9_code 8 (some (.array .int)) n0 s₀ hh' k j 71 #[.val (.ref a), .val (.ref ma), .val (.ref ra), .val (.ref ma), .val (.int (Int32.ofNat n)), .val (.int (Int32.ofNat jx)), .val (.int (Int32.ofNat mj)), .val (.int (Int32.ofNat (S (mj + 1))))] [] := by
  intro q
  induction q with
  | zero =>
    intro u hh vr hq hu Kp VR AR G0
    have hM := H.1.2.2.1
    have hN := H.1.2.1
    have htc := H.1.1
    have hS1 := own_Hl H (show mj + 1 ≤ N by omega)
    have B1 : Fld Z hh a "com/example/rhumb/rhumb/InstanceTags" "tagStart" "[I" (.ref sa) := Fs.keep Kp (ninS ne_a nin0)
    have B2 : Fld Z hh a "com/example/rhumb/rhumb/InstanceTags" "tagIds" "[I" (.ref da) := Fd.keep Kp (ninS ne_a nin0)
    have B3 : Av Z hh sa .int vS := VS.keep Kp (ninS ne_sa nin0)
    have B4 : Av Z hh da .int vI := VI.keep Kp (ninS ne_da nin0)
    have B5 : Av Z hh ma .int vM := VM.keep Kp (ninS ne_ma nin0)
    have G6 := G0.iload (v := (Int32.ofNat u)) (pc' := 40) d11_38 rfl
    have G7 := G6.aloadN (v := (.ref a)) (pc' := 41) d11_40 rfl
    have G8 := G7.getF (pc' := 44) (v := (.ref sa)) (host := "") (Or.inl (hw _ (List.mem_of_getElem? (i := 25) rfl))) Via.refl B1 d11_41
    have G9 := G8.iload (v := (Int32.ofNat mj)) (pc' := 46) d11_44 rfl
    have G10 := G9.iconst (v := (1 : Int32)) (pc' := 47) d11_46
    have G11 := G10.iadd (pc' := 48) d11_47
    rw [own_a1] at G11
    have G12 := G11.ldI (i := (mj + 1)) (v := (.int (Int32.ofNat (S (mj + 1))))) (pc' := 49) B3 (own_i _ (by omega)) (AS.2 _ (by omega)) d11_48
    have G13 := G12.icmpY d11_49 71 (Jvm.Free.XT.ii_ge_t (fun q => by have := (own_lt _ _ (by omega) (by omega)).mp q; omega))
    obtain rfl : u = S (mj + 1) := by omega
    exact ⟨_, _, Kp, VR, AR, G13⟩
  | succ q ih =>
    intro u hh vr hq hu Kp VR AR G0
    have hM := H.1.2.2.1
    have hN := H.1.2.1
    have htc := H.1.1
    have hS1 := own_Hl H (show mj + 1 ≤ N by omega)
    have B1 : Fld Z hh a "com/example/rhumb/rhumb/InstanceTags" "tagStart" "[I" (.ref sa) := Fs.keep Kp (ninS ne_a nin0)
    have B2 : Fld Z hh a "com/example/rhumb/rhumb/InstanceTags" "tagIds" "[I" (.ref da) := Fd.keep Kp (ninS ne_a nin0)
    have B3 : Av Z hh sa .int vS := VS.keep Kp (ninS ne_sa nin0)
    have B4 : Av Z hh da .int vI := VI.keep Kp (ninS ne_da nin0)
    have B5 : Av Z hh ma .int vM := VM.keep Kp (ninS ne_ma nin0)
    have G6 := G0.iload (v := (Int32.ofNat u)) (pc' := 40) d11_38 rfl
    have G7 := G6.aloadN (v := (.ref a)) (pc' := 41) d11_40 rfl
    have G8 := G7.getF (pc' := 44) (v := (.ref sa)) (host := "") (Or.inl (hw _ (List.mem_of_getElem? (i := 25) rfl))) Via.refl B1 d11_41
    have G9 := G8.iload (v := (Int32.ofNat mj)) (pc' := 46) d11_44 rfl
    have G10 := G9.iconst (v := (1 : Int32)) (pc' := 47) d11_46
    have G11 := G10.iadd (pc' := 48) d11_47
    rw [own_a1] at G11
    have G12 := G11.ldI (i := (mj + 1)) (v := (.int (Int32.ofNat (S (mj + 1))))) (pc' := 49) B3 (own_i _ (by omega)) (AS.2 _ (by omega)) d11_48
    have G14 := G12.icmpN d11_49 52 (Jvm.Free.XT.ii_ge_f ((own_lt _ _ (by omega) (by omega)).mpr (by omega)))
    have hI0 := own_Hi H (show u < M by omega)
    have hF0 := hF (I u)
    have hc0 := own_cnl I (I u) u
    have G15 := G14.aloadN (v := (.ref ra)) (pc' := 53) d11_52 rfl
    have G16 := G15.aloadN (v := (.ref a)) (pc' := 54) d11_53 rfl
    have G17 := G16.getF (pc' := 57) (v := (.ref da)) (host := "") (Or.inl (hw _ (List.mem_of_getElem? (i := 27) rfl))) Via.refl B2 d11_54
    have G18 := G17.iload (v := (Int32.ofNat u)) (pc' := 59) d11_57 rfl
    have G19 := G18.ldI (i := u) (v := (.int (Int32.ofNat (I u)))) (pc' := 60) B4 (own_i _ (by omega)) (AI.2 _ (by omega)) d11_59
    have G20 := G19.dup2 (pc' := 61) d11_60
    have G21 := G20.ldI (i := (I u)) (v := (.int (Int32.ofNat (F (I u) + (own_cn I u (I u) - own_cn I (S mj) (I u)))))) (pc' := 62) VR (own_i _ (by omega)) (AR.2 _ (by omega)) d11_61
    have G22 := G21.iconst (v := (1 : Int32)) (pc' := 63) d11_62
    have G23 := G22.iadd (pc' := 64) d11_63
    rw [own_a1] at G23
    obtain ⟨h24, W24, V24, G24⟩ := G23.stI (i := (I u)) (pc' := 65) VR g_r (own_i _ (by omega)) (by rw [AR.1]; omega) d11_64
    have K25 : Keep h0 h24 [ra] := Kp.wr W24 (Or.inl (List.mem_of_getElem? (i := 0) rfl))
    have F26 : Fld Z h24 a "com/example/rhumb/rhumb/InstanceTags" "tagStart" "[I" (.ref sa) := B1.other W24 (Or.inl ne_a)
    have F27 : Fld Z h24 a "com/example/rhumb/rhumb/InstanceTags" "tagIds" "[I" (.ref da) := B2.other W24 (Or.inl ne_a)
    have V28 : Av Z h24 sa .int vS := B3.other W24 ne_sa
    have V29 : Av Z h24 da .int vI := B4.other W24 ne_da
    have V30 : Av Z h24 ma .int vM := B5.other W24 ne_ma
    have G31 := G24.iinc (v := (1 : Int32)) (x := (Int32.ofNat u)) (L' := #[.val (.ref a), .val (.ref ma), .val (.ref ra), .val (.ref ma), .val (.int (Int32.ofNat n)), .val (.int (Int32.ofNat jx)), .val (.int (Int32.ofNat mj)), .val (.int ((Int32.ofNat u) + (1 : Int32)))]) (pc' := 68) d11_65 rfl rfl
    have G32 := G31.goto d11_68 38
    rw [own_a1] at G32
    exact ih (u + 1) _ _ (by omega) (by omega) K25 V24 (own_Ac (own_As AR (by omega)) (fun t _ => own_cup I F (S mj) u t hu)) G32
set_option maxRecDepth 65536 in
set_option maxHeartbeats 40000000 in
theorem own_tmO (p : Program) (l : Launch) (e : Env) (R : Room) (s : State) (m : MethodId) (args : Array Value) (below : List Frame) (meth : Method) (c : Code) (Z : State) (a0 : Array Value) (hw : ∀ d ∈ tables_1, d.before a0 Z = true) (n0 : Nat) (s₀ : State) (h0 : Heap) (k j : Nat) (tc N M : Nat) (S I : Nat → Nat) (H : own_H tc N M S I) (a sa da ma ra : Addr) (vS vI vM : List Value) (Fs : Fld Z h0 a "com/example/rhumb/rhumb/InstanceTags" "tagStart" "[I" (.ref sa)) (Fd : Fld Z h0 a "com/example/rhumb/rhumb/InstanceTags" "tagIds" "[I" (.ref da)) (VS : Av Z h0 sa .int vS) (AS : own_A vS (N + 1) S) (VI : Av Z h0 da .int vI) (AI : own_A vI M I) (VM : Av Z h0 ma .int vM) (n : Nat) (hn6 : n ≤ 6) (mem : Nat → Nat) (AM : own_A vM n mem) (hmem : ∀ j, mem j < N) (g_r : n0 ≤ ra) (ne_a : a ≠ ra) (ne_sa : sa ≠ ra) (ne_da : da ≠ ra) (ne_ma : ma ≠ ra) : ∀ (q jx : Nat) (hh : Heap) (vr : List Value) (o6 o7 : Slot), jx + q = n → Keep h0 hh [ra] → Av Z hh ra .int vr → own_A vr tc (own_mc I S mem jx) → One o6 → One o7 → Go p l e R s m args below meth c Z "com/example/rhumb/rhumb/InstanceTags" prog_15_method_9_code 8 (some (.array .int)) n0 s₀ hh k j 16 #[.val (.ref a), .val (.ref ma), .val (.ref ra), .val (.ref ma), .val (.int (Int32.ofNat n)), .val (.int (Int32.ofNat jx)), o6, o7] [] → ∃ hh' vr' o8 o9, Keep h0 hh' [ra] ∧ Av Z hh' ra .int vr' ∧ own_A vr' tc (own_mc I S mem n) ∧ Go p l e R s m args below meth c Z "com/example/rhumb/rhumb/InstanceTags" prog_15_method_9_code 8 (some (.array .int)) n0 s₀ hh' k j 77 #[.val (.ref a), .val (.ref ma), .val (.ref ra), .val (.ref ma), .val (.int (Int32.ofNat n)), .val (.int (Int32.ofNat n)), o8, o9] [] := by
  intro q
  induction q with
  | zero =>
    intro jx hh vr o6 o7 hq Kp VR AR ho6 ho7 G0
    have hM := H.1.2.2.1
    have hN := H.1.2.1
    have htc := H.1.1
    have B1 : Fld Z hh a "com/example/rhumb/rhumb/InstanceTags" "tagStart" "[I" (.ref sa) := Fs.keep Kp (ninS ne_a nin0)
    have B2 : Fld Z hh a "com/example/rhumb/rhumb/InstanceTags" "tagIds" "[I" (.ref da) := Fd.keep Kp (ninS ne_a nin0)
    have B3 : Av Z hh sa .int vS := VS.keep Kp (ninS ne_sa nin0)
    have B4 : Av Z hh da .int vI := VI.keep Kp (ninS ne_da nin0)
    have B5 : Av Z hh ma .int vM := VM.keep Kp (ninS ne_ma nin0)
    have G6 := G0.iload (v := (Int32.ofNat jx)) (pc' := 18) d11_16 rfl
    have G7 := G6.iload (v := (Int32.ofNat n)) (pc' := 20) d11_18 rfl
    have G8 := G7.icmpY d11_20 77 (Jvm.Free.XT.ii_ge_t (fun q => by have := (own_lt _ _ (by omega) (by omega)).mp q; omega))
    obtain rfl : jx = n := by omega
    exact ⟨_, _, _, _, Kp, VR, AR, G8⟩
  | succ q ih =>
    intro jx hh vr o6 o7 hq Kp VR AR ho6 ho7 G0
    have hM := H.1.2.2.1
    have hN := H.1.2.1
    have htc := H.1.1
    have B1 : Fld Z hh a "com/example/rhumb/rhumb/InstanceTags" "tagStart" "[I" (.ref sa) := Fs.keep Kp (ninS ne_a nin0)
    have B2 : Fld Z hh a "com/example/rhumb/rhumb/InstanceTags" "tagIds" "[I" (.ref da) := Fd.keep Kp (ninS ne_a nin0)
    have B3 : Av Z hh sa .int vS := VS.keep Kp (ninS ne_sa nin0)
    have B4 : Av Z hh da .int vI := VI.keep Kp (ninS ne_da nin0)
    have B5 : Av Z hh ma .int vM := VM.keep Kp (ninS ne_ma nin0)
    have G6 := G0.iload (v := (Int32.ofNat jx)) (pc' := 18) d11_16 rfl
    have G7 := G6.iload (v := (Int32.ofNat n)) (pc' := 20) d11_18 rfl
    have G9 := G7.icmpN d11_20 23 (Jvm.Free.XT.ii_ge_f ((own_lt _ _ (by omega) (by omega)).mpr (by omega)))
    have hm0 := hmem jx
    have hS0 := own_Hl H (show mem jx ≤ N by omega)
    have hS2 := H.2.1 (mem jx) hm0
    have G10 := G9.aloadN (v := (.ref ma)) (pc' := 24) d11_23 rfl
    have G11 := G10.iload (v := (Int32.ofNat jx)) (pc' := 26) d11_24 rfl
    have G12 := G11.ldI (i := jx) (v := (.int (Int32.ofNat (mem jx)))) (pc' := 27) B5 (own_i _ (by omega)) (AM.2 _ (by omega)) d11_26
    have G13 := G12.istore (L' := #[.val (.ref a), .val (.ref ma), .val (.ref ra), .val (.ref ma), .val (.int (Int32.ofNat n)), .val (.int (Int32.ofNat jx)), .val (.int (Int32.ofNat (mem jx))), o7]) (pc' := 29) d11_27 (XS.store1 (o := o6) rfl ho6 rfl)
    have G14 := G13.aloadN (v := (.ref a)) (pc' := 30) d11_29 rfl
    have G15 := G14.getF (pc' := 33) (v := (.ref sa)) (host := "") (Or.inl (hw _ (List.mem_of_getElem? (i := 25) rfl))) Via.refl B1 d11_30
    have G16 := G15.iload (v := (Int32.ofNat (mem jx))) (pc' := 35) d11_33 rfl
    have G17 := G16.ldI (i := (mem jx)) (v := (.int (Int32.ofNat (S (mem jx))))) (pc' := 36) B3 (own_i _ (by omega)) (AS.2 _ (by omega)) d11_35
    have G18 := G17.istore (L' := #[.val (.ref a), .val (.ref ma), .val (.ref ra), .val (.ref ma), .val (.int (Int32.ofNat n)), .val (.int (Int32.ofNat jx)), .val (.int (Int32.ofNat (mem jx))), .val (.int (Int32.ofNat (S (mem jx))))]) (pc' := 38) d11_36 (XS.store1 (o := o7) rfl ho7 rfl)
    obtain ⟨h9, vr9, K9, V9, A9, G9⟩ := own_tmI p l e R s m args below meth c Z a0 hw n0 s₀ h0 k j tc N M S I H a sa da ma ra vS vI vM Fs Fd VS AS VI AI VM n hn6 mem AM hmem g_r ne_a ne_sa ne_da ne_ma jx (mem jx) hm0 (own_mc I S mem jx) (fun t => by have := own_mcl H mem hmem t jx; omega) (S (mem jx + 1) - S (mem jx)) (S (mem jx)) _ _ (by omega) (Nat.le_refl _) Kp VR (own_Ac AR (fun t _ => by omega)) G18
    have G19 := G9.iinc (v := (1 : Int32)) (x := (Int32.ofNat jx)) (L' := #[.val (.ref a), .val (.ref ma), .val (.ref ra), .val (.ref ma), .val (.int (Int32.ofNat n)), .val (.int ((Int32.ofNat jx) + (1 : Int32))), .val (.int (Int32.ofNat (mem jx))), .val (.int (Int32.ofNat (S (mem jx + 1))))]) (pc' := 74) d11_71 rfl rfl
    have G20 := G19.goto d11_74 16
    rw [own_a1] at G20
    exact ih (jx + 1) _ _ _ _ (by omega) K9 V9 A9 (One.val (w := (.int (Int32.ofNat (mem jx)))) rfl) (One.val (w := (.int (Int32.ofNat (S (mem jx + 1))))) rfl) G20
theorem ef11 (m : MethodId) (a : Addr) (ma : Addr) : entryFrame m #[(.ref a), (.ref ma)] 8 = mkF m 0 #[.val (.ref a), .val (.ref ma), .unset, .unset, .unset, .unset, .unset, .unset] [] := by first | (simp [entryFrame, mkF, argsToLocals, Value.category]; done) | rfl
def rm11 : Room := { frames := 0, cells := 1, slots := 4, locals := 0 }
set_option maxRecDepth 65536 in
set_option maxHeartbeats 40000000 in
theorem cn11 (l : Launch) (Z : State) (a0 : Array Value) (hw : ∀ d ∈ tables_1, d.before a0 Z = true) (a : Addr) (ma : Addr) (h0 : Heap) (n0 : Nat) (hn : n0 ≤ h0.size) (tc N M : Nat) (S I : Nat → Nat) (H : own_H tc N M S I) (sa da : Addr) (vS vI vM : List Value) (Fs : Fld Z h0 a "com/example/rhumb/rhumb/InstanceTags" "tagStart" "[I" (.ref sa)) (Fd : Fld Z h0 a "com/example/rhumb/rhumb/InstanceTags" "tagIds" "[I" (.ref da)) (VS : Av Z h0 sa .int vS) (AS : own_A vS (N + 1) S) (VI : Av Z h0 da .int vI) (AI : own_A vI M I) (VM : Av Z h0 ma .int vM) (n : Nat) (hn6 : n ≤ 6) (mem : Nat → Nat) (AM : own_A vM n mem) (hmem : ∀ j, mem j < N) (F1 : Fld Z h0 a "com/example/rhumb/rhumb/InstanceTags" "tagCount" "I" (.int (Int32.ofNat tc))) :
    Con l (⟨"com/example/rhumb/rhumb/InstanceTags", "tagCounts", "([I)[I"⟩ : MethodName) prog_15_method_9_code 8 (some (.array .int)) [] rm11 rm11.cells rm11.slots Z #[(.ref a), (.ref ma)] h0 n0 (fun v h => ∃ (ra : Addr) (vr : List Value), v = some (.ref ra) ∧ Keep h0 h [] ∧ h0.size ≤ ra ∧ Av Z h ra .int vr ∧ own_A vr tc (own_mc I S mem n)) := by
  refine Con.of (plainFor_of_name pn0) hn (fun m => ef11 m a ma) ?_
  intro p e s m below meth c s₀ hnm G0
  have K0 : Keep h0 h0 [] := Keep.refl _ _
  have htc := H.1.1
  have G1 := G0.aloadN (v := (.ref a)) (pc' := 1) d11_0 rfl
  have G2 := G1.getF (pc' := 4) (v := (.int (Int32.ofNat tc))) (host := "") (Or.inl (hw _ (List.mem_of_getElem? (i := 23) rfl))) Via.refl F1 d11_1
  obtain ⟨a3, h3, ea3, g_a3, X3, V3, G3⟩ := G2.newA (ty := .int) (dv := (.int (0 : Int32))) (N := tc) (cap := 4) (pc' := 6) (k' := 1) (j' := 4) (hw _ (List.mem_of_getElem? (i := 0) rfl)) d11_4 rfl rfl (own_i _ (by omega)) H.1.1 (by decide) rfl rfl rfl (by decide) (by decide)
  have ne4 : a ≠ a3 := by rw [ea3]; exact Nat.ne_of_lt Fs.lt
  have ne5 : sa ≠ a3 := by rw [ea3]; exact Nat.ne_of_lt VS.lt
  have ne6 : da ≠ a3 := by rw [ea3]; exact Nat.ne_of_lt VI.lt
  have ne7 : ma ≠ a3 := by rw [ea3]; exact Nat.ne_of_lt VM.lt
  have sz3 : h0.size ≤ a3 := by rw [ea3]; exact K0.1
  have F8 : Fld Z h3 a "com/example/rhumb/rhumb/InstanceTags" "tagStart" "[I" (.ref sa) := Fs.ext X3
  have F9 : Fld Z h3 a "com/example/rhumb/rhumb/InstanceTags" "tagIds" "[I" (.ref da) := Fd.ext X3
  have V10 : Av Z h3 sa .int vS := VS.ext X3
  have V11 : Av Z h3 da .int vI := VI.ext X3
  have V12 : Av Z h3 ma .int vM := VM.ext X3
  have F13 : Fld Z h3 a "com/example/rhumb/rhumb/InstanceTags" "tagCount" "I" (.int (Int32.ofNat tc)) := F1.ext X3
  have K14 : Keep h0 h3 [] := K0.ext X3
  have G15 := G3.astoreN (L' := #[.val (.ref a), .val (.ref ma), .val (.ref a3), .unset, .unset, .unset, .unset, .unset]) (pc' := 7) d11_6 rfl
  have G16 := G15.aloadN (v := (.ref ma)) (pc' := 8) d11_7 rfl
  have G17 := G16.astoreN (L' := #[.val (.ref a), .val (.ref ma), .val (.ref a3), .val (.ref ma), .unset, .unset, .unset, .unset]) (pc' := 9) d11_8 rfl
  have G18 := G17.aloadN (v := (.ref ma)) (pc' := 10) d11_9 rfl
  have G19 := G18.arrlen (pc' := 11) (v := (Int32.ofNat n)) V12 (by rw [AM.1]; exact own_i _ (by omega)) d11_10
  have G20 := G19.istore (L' := #[.val (.ref a), .val (.ref ma), .val (.ref a3), .val (.ref ma), .val (.int (Int32.ofNat n)), .unset, .unset, .unset]) (pc' := 13) d11_11 rfl
  have G21 := G20.iconst (v := (0 : Int32)) (pc' := 14) d11_13
  have G22 := G21.istore (L' := #[.val (.ref a), .val (.ref ma), .val (.ref a3), .val (.ref ma), .val (.int (Int32.ofNat n)), .val (.int (0 : Int32)), .unset, .unset]) (pc' := 16) d11_14 rfl
  obtain ⟨h9, vr9, o8, o9, K9, V9, A9, G9⟩ := own_tmO p l e rm11 s m _ below meth c Z a0 hw n0 s₀ h3 1 4 tc N M S I H a sa da ma a3 vS vI vM F8 F9 V10 AS V11 AI V12 n hn6 mem AM hmem g_a3 ne4 ne5 ne6 ne7 n 0 _ _ _ _ (by omega) (Keep.refl _ _) V3 (own_A0 tc) One.u One.u G22
  have GA := G9.aloadN (v := (.ref a3)) (pc' := 78) d11_77 rfl
  exact GA.retA d11_78 rfl rfl rfl ⟨a3, vr9, rfl, K14.trans K9 (allS (Or.inr sz3) all0), sz3, V9, A9⟩
def own_one (s : Int32) (i : Nat) : List Nat := if (fIn s (Int32.ofNat i)) = (0 : Int32) then [] else [i]
theorem d3_0 : decode method_4_code 0 = .ok (.iload_n 2, 1) := by decide +kernel
theorem d3_1 : decode method_4_code 1 = .ok (.iload_n 3, 1) := by decide +kernel
theorem d3_2 : decode method_4_code 2 = .ok (.invokestatic 7, 3) := by decide +kernel
theorem d3_5 : decode method_4_code 5 = .ok (.ifCond .eq 11, 3) := by decide +kernel
theorem d3_8 : decode method_4_code 8 = .ok (.aload_n 0, 1) := by decide +kernel
theorem d3_9 : decode method_4_code 9 = .ok (.iload_n 1, 1) := by decide +kernel
theorem d3_10 : decode method_4_code 10 = .ok (.iload_n 3, 1) := by decide +kernel
theorem d3_11 : decode method_4_code 11 = .ok (.iastore, 1) := by decide +kernel
theorem d3_12 : decode method_4_code 12 = .ok (.iload_n 1, 1) := by decide +kernel
theorem d3_13 : decode method_4_code 13 = .ok (.iconst 1, 1) := by decide +kernel
theorem d3_14 : decode method_4_code 14 = .ok (.iadd, 1) := by decide +kernel
theorem d3_15 : decode method_4_code 15 = .ok (.ireturn, 1) := by decide +kernel
theorem d3_16 : decode method_4_code 16 = .ok (.iload_n 1, 1) := by decide +kernel
theorem d3_17 : decode method_4_code 17 = .ok (.ireturn, 1) := by decide +kernel
theorem ef3 (m : MethodId) (P : List Nat) (i : Nat) (ma : Addr) (x2 : Int32) : entryFrame m #[(.ref ma), (.int (Int32.ofNat P.length)), (.int x2), (.int (Int32.ofNat i))] 4 = mkF m 0 #[.val (.ref ma), .val (.int (Int32.ofNat P.length)), .val (.int x2), .val (.int (Int32.ofNat i))] [] := by first | (simp [entryFrame, mkF, argsToLocals, Value.category]; done) | rfl
def rm3 : Room := { frames := 1, cells := 0, slots := 0, locals := 13 }
set_option maxRecDepth 65536 in
set_option maxHeartbeats 40000000 in
theorem cn3 (l : Launch) (Z : State) (a0 : Array Value) (hw : ∀ d ∈ tables_1, d.before a0 Z = true) (P : List Nat) (i : Nat) (ma : Addr) (x2 : Int32) (h0 : Heap) (n0 : Nat) (hn : n0 ≤ h0.size) (vs : List Value) (len : Nat) (hlen : len ≤ 20) (hi5 : i ≤ 5) (V0 : Av Z h0 ma .int vs) (PR0 : own_pre vs len P) (hle : P.length + (own_one x2 i).length ≤ len) (g_m : n0 ≤ ma) :
    Con l (⟨"com/example/rhumb/rhumb/InstanceTagsTagCountsPinLaw", "addIf", "([IIII)I"⟩ : MethodName) method_4_code 4 (some .int) [] rm3 rm3.cells rm3.slots Z #[(.ref ma), (.int (Int32.ofNat P.length)), (.int x2), (.int (Int32.ofNat i))] h0 n0 (fun v h => ∃ vs' : List Value, v = some (.int (Int32.ofNat (P ++ own_one x2 i).length)) ∧ Keep h0 h [ma] ∧ Av Z h ma .int vs' ∧ own_pre vs' len (P ++ own_one x2 i)) := by
  refine Con.of (plainFor_of_name pn2) hn (fun m => ef3 m P i ma x2) ?_
  intro p e s m below meth c s₀ hnm G0
  have K0 : Keep h0 h0 [ma] := Keep.refl _ _
  have G1 := G0.iloadN (v := x2) (pc' := 1) d3_0 rfl
  have G2 := G1.iloadN (v := (Int32.ofNat i)) (pc' := 2) d3_1 rfl
  obtain ⟨v3, h3, ⟨ev3, eh3⟩, g3⟩ := G2.callS (argsL := [(.int x2), (.int (Int32.ofNat i))]) (rest := []) (pc' := 5) (k' := 0) (j' := 0) (cn2 l Z a0 hw x2 (Int32.ofNat i) h0 n0 G2.size) rfl (hw _ (List.mem_of_getElem? (i := 5) rfl)) (hw _ (List.mem_of_getElem? (i := 6) rfl)) (hw _ (List.mem_of_getElem? (i := 3) rfl)) (hw _ (List.mem_of_getElem? (i := 7) rfl)) (by decide) d3_2 pd0 rfl (W := 0) rfl rfl (by decide) (by decide) (by decide) (by decide) rfl rfl rfl
  subst ev3
  rw [eh3] at g3
  have G3 := g3 [(.int (fIn x2 (Int32.ofNat i)))] rfl
  by_cases c : (fIn x2 (Int32.ofNat i)) = (0 : Int32)
  · have G4 := G3.ifY d3_5 16 (Jvm.Free.XT.i0_eq_t c)
    have G5 := G4.iloadN (v := (Int32.ofNat P.length)) (pc' := 17) d3_16 rfl
    have eb : own_one x2 i = [] := if_pos c
    exact G5.retI d3_17 rfl ⟨_, by rw [eb, List.append_nil], K0, V0, by rw [eb, List.append_nil]; exact PR0⟩
  · have G6 := G3.ifN d3_5 8 (Jvm.Free.XT.i0_eq_f c)
    have eb : own_one x2 i = [i] := if_neg c
    have hlt : P.length < len := by rw [eb] at hle; simp only [List.length_cons, List.length_nil] at hle; omega
    have G7 := G6.aloadN (v := (.ref ma)) (pc' := 9) d3_8 rfl
    have G8 := G7.iloadN (v := (Int32.ofNat P.length)) (pc' := 10) d3_9 rfl
    have G9 := G8.iloadN (v := (Int32.ofNat i)) (pc' := 11) d3_10 rfl
    obtain ⟨h10, W10, V10, G10⟩ := G9.stI (i := P.length) (pc' := 12) V0 g_m (own_i _ (by omega)) (by rw [PR0.1]; exact hlt) d3_11
    have K11 : Keep h0 h10 [ma] := K0.wr W10 (Or.inl (List.mem_of_getElem? (i := 0) rfl))
    have G12 := G10.iloadN (v := (Int32.ofNat P.length)) (pc' := 13) d3_12 rfl
    have G13 := G12.iconst (v := (1 : Int32)) (pc' := 14) d3_13
    have G14 := G13.iadd (pc' := 15) d3_14
    rw [own_a1] at G14
    exact G14.retI d3_15 rfl ⟨_, by rw [eb, List.length_append]; rfl, K11, V10, by rw [eb]; exact own_preS i PR0 hlt⟩
theorem own_b8 : ∀ k : Fin 8, (own_bits (Int32.ofNat k.val)).length + (own_bits (Int32.ofNat (7 - k.val))).length = 3 ∧ ((Int32.ofNat k.val ^^^ (-1 : Int32)) &&& (7 : Int32)) = Int32.ofNat (7 - k.val) := by decide +kernel
theorem own_ba : ∀ k : Fin 8, ∀ i : Fin 3, i.val < (own_bits (Int32.ofNat k.val)).length → (own_bits (Int32.ofNat k.val)).getD i.val 0 < 3 ∧ (i.val = 0 ∨ (own_bits (Int32.ofNat k.val)).getD (i.val - 1) 0 < (own_bits (Int32.ofNat k.val)).getD i.val 0) := by decide +kernel
theorem own_bb : ∀ t : Fin 3, ∀ k : Fin 8, ((Int32.ofNat k.val >>> (Int32.ofNat t.val &&& 31)) &&& (1 : Int32)) = Int32.ofNat ((own_bits (Int32.ofNat k.val)).count t.val) := by decide +kernel
theorem own_n64 : ∀ sv : Fin 64, ((((((fIn (Int32.ofNat sv.val) (0 : Int32)) + (fIn (Int32.ofNat sv.val) (1 : Int32))) + (fIn (Int32.ofNat sv.val) (2 : Int32))) + (fIn (Int32.ofNat sv.val) (3 : Int32))) + (fIn (Int32.ofNat sv.val) (4 : Int32))) + (fIn (Int32.ofNat sv.val) (5 : Int32))) = Int32.ofNat ((own_one (Int32.ofNat sv.val) 0).length + (own_one (Int32.ofNat sv.val) 1).length + (own_one (Int32.ofNat sv.val) 2).length + (own_one (Int32.ofNat sv.val) 3).length + (own_one (Int32.ofNat sv.val) 4).length + (own_one (Int32.ofNat sv.val) 5).length) := by decide +kernel
theorem own_o6 : ∀ sv : Fin 64, ∀ i : Fin 6, fIn (Int32.ofNat sv.val) (Int32.ofNat i.val) = Int32.ofNat (own_one (Int32.ofNat sv.val) i.val).length := by decide +kernel
theorem own_ol (s : Int32) (i : Nat) : (own_one s i).length ≤ 1 := by
  unfold own_one
  split <;> simp
theorem own_bas (A : Nat) (hA : A < 8) : own_asc (own_bits (Int32.ofNat A)) 3 := fun i hi => by
  have l := (own_b8 ⟨A, hA⟩).1
  dsimp only at l
  exact own_ba ⟨A, hA⟩ ⟨i, by omega⟩ hi
def own_L (A B D : Nat) : List Nat := ((((((([] : List Nat) ++ (own_bits (Int32.ofNat A))) ++ (own_bits (Int32.ofNat B))) ++ (own_bits (Int32.ofNat D))) ++ (own_bits (Int32.ofNat (7 - A)))) ++ (own_bits (Int32.ofNat (7 - B)))) ++ (own_bits (Int32.ofNat (7 - D))))
def own_S (A B D : Nat) : Nat → Nat
  | 0 => 0
  | 1 => (([] : List Nat) ++ (own_bits (Int32.ofNat A))).length
  | 2 => ((([] : List Nat) ++ (own_bits (Int32.ofNat A))) ++ (own_bits (Int32.ofNat B))).length
  | 3 => (((([] : List Nat) ++ (own_bits (Int32.ofNat A))) ++ (own_bits (Int32.ofNat B))) ++ (own_bits (Int32.ofNat D))).length
  | 4 => ((((([] : List Nat) ++ (own_bits (Int32.ofNat A))) ++ (own_bits (Int32.ofNat B))) ++ (own_bits (Int32.ofNat D))) ++ (own_bits (Int32.ofNat (7 - A)))).length
  | 5 => (((((([] : List Nat) ++ (own_bits (Int32.ofNat A))) ++ (own_bits (Int32.ofNat B))) ++ (own_bits (Int32.ofNat D))) ++ (own_bits (Int32.ofNat (7 - A)))) ++ (own_bits (Int32.ofNat (7 - B)))).length
  | _ => ((((((([] : List Nat) ++ (own_bits (Int32.ofNat A))) ++ (own_bits (Int32.ofNat B))) ++ (own_bits (Int32.ofNat D))) ++ (own_bits (Int32.ofNat (7 - A)))) ++ (own_bits (Int32.ofNat (7 - B)))) ++ (own_bits (Int32.ofNat (7 - D)))).length
theorem own_S0 (A B D : Nat) : own_S A B D 0 = ([] : List Nat).length := rfl
theorem own_l9 (A B D : Nat) (hA : A < 8) (hB : B < 8) (hD : D < 8) : (own_L A B D).length = 9 := by
  have l1 := (own_b8 ⟨A, hA⟩).1
  have l2 := (own_b8 ⟨B, hB⟩).1
  have l3 := (own_b8 ⟨D, hD⟩).1
  dsimp only at l1 l2 l3
  unfold own_L
  simp only [List.length_append, List.length_nil]
  omega
theorem own_HH (A B D : Nat) (hA : A < 8) (hB : B < 8) (hD : D < 8) : own_H 3 6 (own_L A B D).length (own_S A B D) (fun i => (own_L A B D).getD i 0) := by
  have a1 := own_bas A hA
  have a2 := own_bas B hB
  have a3 := own_bas D hD
  have a4 := own_bas (7 - A) (by omega)
  have a5 := own_bas (7 - B) (by omega)
  have a6 := own_bas (7 - D) (by omega)
  refine ⟨⟨by decide, by decide, by rw [own_l9 A B D hA hB hD]; decide, rfl, rfl⟩, fun i hi => ?_, fun i hi p h1 h2 => ?_⟩
  · have : i = 0 ∨ i = 1 ∨ i = 2 ∨ i = 3 ∨ i = 4 ∨ i = 5 := by omega
    rcases this with rfl | rfl | rfl | rfl | rfl | rfl <;> (simp only [own_S, List.length_append, List.length_nil]; omega)
  · have : i = 0 ∨ i = 1 ∨ i = 2 ∨ i = 3 ∨ i = 4 ∨ i = 5 := by omega
    rcases this with rfl | rfl | rfl | rfl | rfl | rfl
    · have z := own_sg ([] : List Nat) (own_bits (Int32.ofNat A)) ((own_bits (Int32.ofNat B)) ++ (own_bits (Int32.ofNat D)) ++ (own_bits (Int32.ofNat (7 - A))) ++ (own_bits (Int32.ofNat (7 - B))) ++ (own_bits (Int32.ofNat (7 - D)))) 3 a1 p (by exact Nat.zero_le _) (by simp only [own_S, List.length_append] at h2 ⊢; exact h2)
      simp only [List.append_assoc, List.append_nil] at z
      unfold own_L
      simp only [own_S, List.append_assoc]
      exact z
    · have z := own_sg (([] : List Nat) ++ (own_bits (Int32.ofNat A))) (own_bits (Int32.ofNat B)) ((own_bits (Int32.ofNat D)) ++ (own_bits (Int32.ofNat (7 - A))) ++ (own_bits (Int32.ofNat (7 - B))) ++ (own_bits (Int32.ofNat (7 - D)))) 3 a2 p h1 (by simp only [own_S, List.length_append] at h2 ⊢; exact h2)
      simp only [List.append_assoc, List.append_nil] at z
      unfold own_L
      simp only [own_S, List.append_assoc]
      exact z
    · have z := own_sg ((([] : List Nat) ++ (own_bits (Int32.ofNat A))) ++ (own_bits (Int32.ofNat B))) (own_bits (Int32.ofNat D)) ((own_bits (Int32.ofNat (7 - A))) ++ (own_bits (Int32.ofNat (7 - B))) ++ (own_bits (Int32.ofNat (7 - D)))) 3 a3 p h1 (by simp only [own_S, List.length_append] at h2 ⊢; exact h2)
      simp only [List.append_assoc, List.append_nil] at z
      unfold own_L
      simp only [own_S, List.append_assoc]
      exact z
    · have z := own_sg (((([] : List Nat) ++ (own_bits (Int32.ofNat A))) ++ (own_bits (Int32.ofNat B))) ++ (own_bits (Int32.ofNat D))) (own_bits (Int32.ofNat (7 - A))) ((own_bits (Int32.ofNat (7 - B))) ++ (own_bits (Int32.ofNat (7 - D)))) 3 a4 p h1 (by simp only [own_S, List.length_append] at h2 ⊢; exact h2)
      simp only [List.append_assoc, List.append_nil] at z
      unfold own_L
      simp only [own_S, List.append_assoc]
      exact z
    · have z := own_sg ((((([] : List Nat) ++ (own_bits (Int32.ofNat A))) ++ (own_bits (Int32.ofNat B))) ++ (own_bits (Int32.ofNat D))) ++ (own_bits (Int32.ofNat (7 - A)))) (own_bits (Int32.ofNat (7 - B))) ((own_bits (Int32.ofNat (7 - D)))) 3 a5 p h1 (by simp only [own_S, List.length_append] at h2 ⊢; exact h2)
      simp only [List.append_assoc, List.append_nil] at z
      unfold own_L
      simp only [own_S, List.append_assoc]
      exact z
    · have z := own_sg (((((([] : List Nat) ++ (own_bits (Int32.ofNat A))) ++ (own_bits (Int32.ofNat B))) ++ (own_bits (Int32.ofNat D))) ++ (own_bits (Int32.ofNat (7 - A)))) ++ (own_bits (Int32.ofNat (7 - B)))) (own_bits (Int32.ofNat (7 - D))) ([]) 3 a6 p h1 (by simp only [own_S, List.length_append] at h2 ⊢; exact h2)
      simp only [List.append_assoc, List.append_nil] at z
      unfold own_L
      simp only [own_S, List.append_assoc]
      exact z
theorem own_AS (A B D : Nat) : own_A [.int (0 : Int32), .int (Int32.ofNat (([] : List Nat) ++ (own_bits (Int32.ofNat A))).length), .int (Int32.ofNat ((([] : List Nat) ++ (own_bits (Int32.ofNat A))) ++ (own_bits (Int32.ofNat B))).length), .int (Int32.ofNat (((([] : List Nat) ++ (own_bits (Int32.ofNat A))) ++ (own_bits (Int32.ofNat B))) ++ (own_bits (Int32.ofNat D))).length), .int (Int32.ofNat ((((([] : List Nat) ++ (own_bits (Int32.ofNat A))) ++ (own_bits (Int32.ofNat B))) ++ (own_bits (Int32.ofNat D))) ++ (own_bits (Int32.ofNat (7 - A)))).length), .int (Int32.ofNat (((((([] : List Nat) ++ (own_bits (Int32.ofNat A))) ++ (own_bits (Int32.ofNat B))) ++ (own_bits (Int32.ofNat D))) ++ (own_bits (Int32.ofNat (7 - A)))) ++ (own_bits (Int32.ofNat (7 - B)))).length), .int (Int32.ofNat ((((((([] : List Nat) ++ (own_bits (Int32.ofNat A))) ++ (own_bits (Int32.ofNat B))) ++ (own_bits (Int32.ofNat D))) ++ (own_bits (Int32.ofNat (7 - A)))) ++ (own_bits (Int32.ofNat (7 - B)))) ++ (own_bits (Int32.ofNat (7 - D)))).length)] (6 + 1) (own_S A B D) := ⟨rfl, fun i hi => by
  have : i = 0 ∨ i = 1 ∨ i = 2 ∨ i = 3 ∨ i = 4 ∨ i = 5 ∨ i = 6 := by omega
  rcases this with rfl | rfl | rfl | rfl | rfl | rfl | rfl <;> rfl⟩
def own_c (A B D t : Nat) : Nat → Nat
  | 0 => (own_bits (Int32.ofNat A)).count t
  | 1 => (own_bits (Int32.ofNat B)).count t
  | 2 => (own_bits (Int32.ofNat D)).count t
  | 3 => (own_bits (Int32.ofNat (7 - A))).count t
  | 4 => (own_bits (Int32.ofNat (7 - B))).count t
  | _ => (own_bits (Int32.ofNat (7 - D))).count t
theorem own_tk (P X L : List Nat) (t : Nat) (e : L = P ++ X) : own_cn (fun i => L.getD i 0) P.length t = P.count t := by
  rw [own_cnL L t _ (by rw [e, List.length_append]; omega), e, List.take_left]
theorem own_sc (A B D t : Nat) : ∀ i, i < 6 → own_sg1 (fun i => (own_L A B D).getD i 0) (own_S A B D) i t = own_c A B D t i
  | 0, _ => by
    have e1 := own_tk ([] : List Nat) ((own_bits (Int32.ofNat A)) ++ (own_bits (Int32.ofNat B)) ++ (own_bits (Int32.ofNat D)) ++ (own_bits (Int32.ofNat (7 - A))) ++ (own_bits (Int32.ofNat (7 - B))) ++ (own_bits (Int32.ofNat (7 - D)))) (own_L A B D) t (by unfold own_L; simp only [List.append_assoc, List.append_nil])
    have e2 := own_tk (([] : List Nat) ++ (own_bits (Int32.ofNat A))) ((own_bits (Int32.ofNat B)) ++ (own_bits (Int32.ofNat D)) ++ (own_bits (Int32.ofNat (7 - A))) ++ (own_bits (Int32.ofNat (7 - B))) ++ (own_bits (Int32.ofNat (7 - D)))) (own_L A B D) t (by unfold own_L; simp only [List.append_assoc, List.append_nil])
    show own_cn _ (([] : List Nat) ++ (own_bits (Int32.ofNat A))).length t - own_cn _ ([] : List Nat).length t = (own_bits (Int32.ofNat A)).count t
    rw [e1, e2]
    simp only [List.count_append]
    omega
  | 1, _ => by
    have e1 := own_tk (([] : List Nat) ++ (own_bits (Int32.ofNat A))) ((own_bits (Int32.ofNat B)) ++ (own_bits (Int32.ofNat D)) ++ (own_bits (Int32.ofNat (7 - A))) ++ (own_bits (Int32.ofNat (7 - B))) ++ (own_bits (Int32.ofNat (7 - D)))) (own_L A B D) t (by unfold own_L; simp only [List.append_assoc, List.append_nil])
    have e2 := own_tk ((([] : List Nat) ++ (own_bits (Int32.ofNat A))) ++ (own_bits (Int32.ofNat B))) ((own_bits (Int32.ofNat D)) ++ (own_bits (Int32.ofNat (7 - A))) ++ (own_bits (Int32.ofNat (7 - B))) ++ (own_bits (Int32.ofNat (7 - D)))) (own_L A B D) t (by unfold own_L; simp only [List.append_assoc, List.append_nil])
    show own_cn _ ((([] : List Nat) ++ (own_bits (Int32.ofNat A))) ++ (own_bits (Int32.ofNat B))).length t - own_cn _ (([] : List Nat) ++ (own_bits (Int32.ofNat A))).length t = (own_bits (Int32.ofNat B)).count t
    rw [e1, e2]
    simp only [List.count_append]
    omega
  | 2, _ => by
    have e1 := own_tk ((([] : List Nat) ++ (own_bits (Int32.ofNat A))) ++ (own_bits (Int32.ofNat B))) ((own_bits (Int32.ofNat D)) ++ (own_bits (Int32.ofNat (7 - A))) ++ (own_bits (Int32.ofNat (7 - B))) ++ (own_bits (Int32.ofNat (7 - D)))) (own_L A B D) t (by unfold own_L; simp only [List.append_assoc, List.append_nil])
    have e2 := own_tk (((([] : List Nat) ++ (own_bits (Int32.ofNat A))) ++ (own_bits (Int32.ofNat B))) ++ (own_bits (Int32.ofNat D))) ((own_bits (Int32.ofNat (7 - A))) ++ (own_bits (Int32.ofNat (7 - B))) ++ (own_bits (Int32.ofNat (7 - D)))) (own_L A B D) t (by unfold own_L; simp only [List.append_assoc, List.append_nil])
    show own_cn _ (((([] : List Nat) ++ (own_bits (Int32.ofNat A))) ++ (own_bits (Int32.ofNat B))) ++ (own_bits (Int32.ofNat D))).length t - own_cn _ ((([] : List Nat) ++ (own_bits (Int32.ofNat A))) ++ (own_bits (Int32.ofNat B))).length t = (own_bits (Int32.ofNat D)).count t
    rw [e1, e2]
    simp only [List.count_append]
    omega
  | 3, _ => by
    have e1 := own_tk (((([] : List Nat) ++ (own_bits (Int32.ofNat A))) ++ (own_bits (Int32.ofNat B))) ++ (own_bits (Int32.ofNat D))) ((own_bits (Int32.ofNat (7 - A))) ++ (own_bits (Int32.ofNat (7 - B))) ++ (own_bits (Int32.ofNat (7 - D)))) (own_L A B D) t (by unfold own_L; simp only [List.append_assoc, List.append_nil])
    have e2 := own_tk ((((([] : List Nat) ++ (own_bits (Int32.ofNat A))) ++ (own_bits (Int32.ofNat B))) ++ (own_bits (Int32.ofNat D))) ++ (own_bits (Int32.ofNat (7 - A)))) ((own_bits (Int32.ofNat (7 - B))) ++ (own_bits (Int32.ofNat (7 - D)))) (own_L A B D) t (by unfold own_L; simp only [List.append_assoc, List.append_nil])
    show own_cn _ ((((([] : List Nat) ++ (own_bits (Int32.ofNat A))) ++ (own_bits (Int32.ofNat B))) ++ (own_bits (Int32.ofNat D))) ++ (own_bits (Int32.ofNat (7 - A)))).length t - own_cn _ (((([] : List Nat) ++ (own_bits (Int32.ofNat A))) ++ (own_bits (Int32.ofNat B))) ++ (own_bits (Int32.ofNat D))).length t = (own_bits (Int32.ofNat (7 - A))).count t
    rw [e1, e2]
    simp only [List.count_append]
    omega
  | 4, _ => by
    have e1 := own_tk ((((([] : List Nat) ++ (own_bits (Int32.ofNat A))) ++ (own_bits (Int32.ofNat B))) ++ (own_bits (Int32.ofNat D))) ++ (own_bits (Int32.ofNat (7 - A)))) ((own_bits (Int32.ofNat (7 - B))) ++ (own_bits (Int32.ofNat (7 - D)))) (own_L A B D) t (by unfold own_L; simp only [List.append_assoc, List.append_nil])
    have e2 := own_tk (((((([] : List Nat) ++ (own_bits (Int32.ofNat A))) ++ (own_bits (Int32.ofNat B))) ++ (own_bits (Int32.ofNat D))) ++ (own_bits (Int32.ofNat (7 - A)))) ++ (own_bits (Int32.ofNat (7 - B)))) ((own_bits (Int32.ofNat (7 - D)))) (own_L A B D) t (by unfold own_L; simp only [List.append_assoc, List.append_nil])
    show own_cn _ (((((([] : List Nat) ++ (own_bits (Int32.ofNat A))) ++ (own_bits (Int32.ofNat B))) ++ (own_bits (Int32.ofNat D))) ++ (own_bits (Int32.ofNat (7 - A)))) ++ (own_bits (Int32.ofNat (7 - B)))).length t - own_cn _ ((((([] : List Nat) ++ (own_bits (Int32.ofNat A))) ++ (own_bits (Int32.ofNat B))) ++ (own_bits (Int32.ofNat D))) ++ (own_bits (Int32.ofNat (7 - A)))).length t = (own_bits (Int32.ofNat (7 - B))).count t
    rw [e1, e2]
    simp only [List.count_append]
    omega
  | 5, _ => by
    have e1 := own_tk (((((([] : List Nat) ++ (own_bits (Int32.ofNat A))) ++ (own_bits (Int32.ofNat B))) ++ (own_bits (Int32.ofNat D))) ++ (own_bits (Int32.ofNat (7 - A)))) ++ (own_bits (Int32.ofNat (7 - B)))) ((own_bits (Int32.ofNat (7 - D)))) (own_L A B D) t (by unfold own_L; simp only [List.append_assoc, List.append_nil])
    have e2 := own_tk ((((((([] : List Nat) ++ (own_bits (Int32.ofNat A))) ++ (own_bits (Int32.ofNat B))) ++ (own_bits (Int32.ofNat D))) ++ (own_bits (Int32.ofNat (7 - A)))) ++ (own_bits (Int32.ofNat (7 - B)))) ++ (own_bits (Int32.ofNat (7 - D)))) ([]) (own_L A B D) t (by unfold own_L; simp only [List.append_assoc, List.append_nil])
    show own_cn _ ((((((([] : List Nat) ++ (own_bits (Int32.ofNat A))) ++ (own_bits (Int32.ofNat B))) ++ (own_bits (Int32.ofNat D))) ++ (own_bits (Int32.ofNat (7 - A)))) ++ (own_bits (Int32.ofNat (7 - B)))) ++ (own_bits (Int32.ofNat (7 - D)))).length t - own_cn _ (((((([] : List Nat) ++ (own_bits (Int32.ofNat A))) ++ (own_bits (Int32.ofNat B))) ++ (own_bits (Int32.ofNat D))) ++ (own_bits (Int32.ofNat (7 - A)))) ++ (own_bits (Int32.ofNat (7 - B)))).length t = (own_bits (Int32.ofNat (7 - D))).count t
    rw [e1, e2]
    simp only [List.count_append]
    omega
  | n + 6, h => absurd h (by omega)
theorem own_mcs (I S : Nat → Nat) (c : Nat → Nat) (t : Nat) (L : List Nat) (h : ∀ x ∈ L, own_sg1 I S x t = c x) : ∀ j, j ≤ L.length → own_mc I S (fun j => L.getD j 0) j t = ((L.take j).map c).sum
  | 0, _ => rfl
  | j + 1, hj => by
    have hp : j < L.length := by omega
    have e : L.getD j 0 = L[j] := by rw [List.getD_eq_getElem?_getD, List.getElem?_eq_getElem hp]; rfl
    rw [own_mc, own_mcs I S c t L h j (by omega), List.take_add_one, List.map_append, List.sum_append, List.getElem?_eq_getElem hp, e, h _ (List.getElem_mem hp)]
    simp
theorem own_os (s : Int32) (i : Nat) (c : Nat → Nat) : ((own_one s i).map c).sum = (own_one s i).length * c i := by
  unfold own_one
  split <;> simp
theorem own_om (s : Int32) (i x : Nat) (h : x ∈ own_one s i) : x = i := by
  unfold own_one at h
  split at h
  · cases h
  · exact List.mem_singleton.mp h
theorem own_fe (A B D sv t : Nat) (hA : A < 8) (hB : B < 8) (hD : D < 8) (hs : sv < 64) (ht : t < 3) : fE (Int32.ofNat sv) (Int32.ofNat A) (Int32.ofNat B) (Int32.ofNat D) (Int32.ofNat t) = Int32.ofNat (((own_one (Int32.ofNat sv) 0).length * own_c A B D t 0 + (own_one (Int32.ofNat sv) 1).length * own_c A B D t 1 + (own_one (Int32.ofNat sv) 2).length * own_c A B D t 2 + (own_one (Int32.ofNat sv) 3).length * own_c A B D t 3 + (own_one (Int32.ofNat sv) 4).length * own_c A B D t 4 + (own_one (Int32.ofNat sv) 5).length * own_c A B D t 5)) := by
  have o := fun i : Fin 6 => own_o6 ⟨sv, hs⟩ i
  have b := fun k : Fin 8 => own_bb ⟨t, ht⟩ k
  have c := fun k : Fin 8 => (own_b8 k).2
  have o0 : fIn (Int32.ofNat sv) (0 : Int32) = Int32.ofNat (own_one (Int32.ofNat sv) 0).length := o 0
  have o1 : fIn (Int32.ofNat sv) (1 : Int32) = Int32.ofNat (own_one (Int32.ofNat sv) 1).length := o 1
  have o2 : fIn (Int32.ofNat sv) (2 : Int32) = Int32.ofNat (own_one (Int32.ofNat sv) 2).length := o 2
  have o3 : fIn (Int32.ofNat sv) (3 : Int32) = Int32.ofNat (own_one (Int32.ofNat sv) 3).length := o 3
  have o4 : fIn (Int32.ofNat sv) (4 : Int32) = Int32.ofNat (own_one (Int32.ofNat sv) 4).length := o 4
  have o5 : fIn (Int32.ofNat sv) (5 : Int32) = Int32.ofNat (own_one (Int32.ofNat sv) 5).length := o 5
  have b0 := b ⟨A, hA⟩
  have b1 := b ⟨B, hB⟩
  have b2 := b ⟨D, hD⟩
  have b3 := b ⟨7 - A, by omega⟩
  have b4 := b ⟨7 - B, by omega⟩
  have b5 := b ⟨7 - D, by omega⟩
  have c0 := c ⟨A, hA⟩
  have c1 := c ⟨B, hB⟩
  have c2 := c ⟨D, hD⟩
  dsimp only at b0 b1 b2 b3 b4 b5 c0 c1 c2
  unfold fE
  rw [c0, c1, c2, o0, o1, o2, o3, o4, o5, b0, b1, b2, b3, b4, b5]
  simp only [← Int32.ofNat_mul, ← Int32.ofNat_add]
  rfl
theorem own_fin (A B D sv t : Nat) (hA : A < 8) (hB : B < 8) (hD : D < 8) (hs : sv < 64) (ht : t < 3) (L : List Nat) (hm : ∀ x ∈ L, x < 6) (hsum : (L.map (own_c A B D t)).sum = ((own_one (Int32.ofNat sv) 0).length * own_c A B D t 0 + (own_one (Int32.ofNat sv) 1).length * own_c A B D t 1 + (own_one (Int32.ofNat sv) 2).length * own_c A B D t 2 + (own_one (Int32.ofNat sv) 3).length * own_c A B D t 3 + (own_one (Int32.ofNat sv) 4).length * own_c A B D t 4 + (own_one (Int32.ofNat sv) 5).length * own_c A B D t 5)) : Int32.ofNat (own_mc (fun i => (own_L A B D).getD i 0) (own_S A B D) (fun j => L.getD j 0) L.length t) = fE (Int32.ofNat sv) (Int32.ofNat A) (Int32.ofNat B) (Int32.ofNat D) (Int32.ofNat t) := by
  rw [own_fe A B D sv t hA hB hD hs ht, own_mcs _ _ (own_c A B D t) t L (fun x hx => own_sc A B D t x (hm x hx)) _ (Nat.le_refl _), List.take_length, hsum]
theorem own_m0 (A B D sv t : Nat) : ((((((((([] : List Nat) ++ own_one (Int32.ofNat sv) 0) ++ own_one (Int32.ofNat sv) 1) ++ own_one (Int32.ofNat sv) 2) ++ own_one (Int32.ofNat sv) 3) ++ own_one (Int32.ofNat sv) 4) ++ own_one (Int32.ofNat sv) 5)).map (own_c A B D t)).sum = ((own_one (Int32.ofNat sv) 0).length * own_c A B D t 0 + (own_one (Int32.ofNat sv) 1).length * own_c A B D t 1 + (own_one (Int32.ofNat sv) 2).length * own_c A B D t 2 + (own_one (Int32.ofNat sv) 3).length * own_c A B D t 3 + (own_one (Int32.ofNat sv) 4).length * own_c A B D t 4 + (own_one (Int32.ofNat sv) 5).length * own_c A B D t 5) := by
  simp only [List.map_append, List.sum_append, own_os, List.map_nil, List.sum_nil, Nat.zero_add]
theorem own_m1 (A B D sv t : Nat) : ((((((((([] : List Nat) ++ own_one (Int32.ofNat sv) 5) ++ own_one (Int32.ofNat sv) 4) ++ own_one (Int32.ofNat sv) 3) ++ own_one (Int32.ofNat sv) 2) ++ own_one (Int32.ofNat sv) 1) ++ own_one (Int32.ofNat sv) 0)).map (own_c A B D t)).sum = ((own_one (Int32.ofNat sv) 0).length * own_c A B D t 0 + (own_one (Int32.ofNat sv) 1).length * own_c A B D t 1 + (own_one (Int32.ofNat sv) 2).length * own_c A B D t 2 + (own_one (Int32.ofNat sv) 3).length * own_c A B D t 3 + (own_one (Int32.ofNat sv) 4).length * own_c A B D t 4 + (own_one (Int32.ofNat sv) 5).length * own_c A B D t 5) := by
  simp only [List.map_append, List.sum_append, own_os, List.map_nil, List.sum_nil, Nat.zero_add]
  omega
theorem own_x0 (sv : Nat) : ∀ x ∈ (((((((([] : List Nat) ++ own_one (Int32.ofNat sv) 0) ++ own_one (Int32.ofNat sv) 1) ++ own_one (Int32.ofNat sv) 2) ++ own_one (Int32.ofNat sv) 3) ++ own_one (Int32.ofNat sv) 4) ++ own_one (Int32.ofNat sv) 5)), x < 6 := fun x hx => by
  simp only [List.mem_append] at hx
  rcases hx with ((((((h | h) | h) | h) | h) | h) | h)
  · cases h
  all_goals (have := own_om _ _ _ h; omega)
theorem own_x1 (sv : Nat) : ∀ x ∈ (((((((([] : List Nat) ++ own_one (Int32.ofNat sv) 5) ++ own_one (Int32.ofNat sv) 4) ++ own_one (Int32.ofNat sv) 3) ++ own_one (Int32.ofNat sv) 2) ++ own_one (Int32.ofNat sv) 1) ++ own_one (Int32.ofNat sv) 0)), x < 6 := fun x hx => by
  simp only [List.mem_append] at hx
  rcases hx with ((((((h | h) | h) | h) | h) | h) | h)
  · cases h
  all_goals (have := own_om _ _ _ h; omega)
theorem own_gd (L : List Nat) (h : ∀ x ∈ L, x < 6) (j : Nat) : L.getD j 0 < 6 := by
  rw [List.getD_eq_getElem?_getD]
  by_cases q : j < L.length
  · rw [List.getElem?_eq_getElem q]; exact h _ (List.getElem_mem q)
  · rw [List.getElem?_eq_none (by omega)]; decide
theorem own_mk (x : Int32) : ∃ A : Nat, A < 8 ∧ (x &&& (7 : Int32)) = Int32.ofNat A := by
  have m := c_mask x 7 3 (by decide) (by decide)
  refine ⟨(x &&& (7 : Int32)).toInt.toNat, by omega, ?_⟩
  apply Int32.toInt_inj.mp
  rw [own_i _ (by omega)]
  omega
theorem own_ms (x : Int32) : ∃ A : Nat, A < 64 ∧ (x &&& (63 : Int32)) = Int32.ofNat A := by
  have m := c_mask x 63 6 (by decide) (by decide)
  refine ⟨(x &&& (63 : Int32)).toInt.toNat, by omega, ?_⟩
  apply Int32.toInt_inj.mp
  rw [own_i _ (by omega)]
  omega
theorem ef0 (m : MethodId) (x0 : Int32) (x1 : Int32) : entryFrame m #[(.int x0), (.int x1)] maxLocals = mkF m 0 #[.val (.int x0), .val (.int x1), .unset, .unset, .unset, .unset, .unset, .unset, .unset, .unset, .unset, .unset, .unset, .unset] [] := by first | (simp [entryFrame, mkF, argsToLocals, Value.category, maxLocals]; done) | rfl
theorem pd5 : parseMethodDescriptor "([III)I" = some ⟨[(.array .int), .int, .int], some .int⟩ := by decide +kernel
theorem pd6 : parseMethodDescriptor "([IIII)I" = some ⟨[(.array .int), .int, .int, .int], some .int⟩ := by decide +kernel
theorem pd7 : parseMethodDescriptor "([I)[I" = some ⟨[(.array .int)], some (.array .int)⟩ := by decide +kernel
theorem pd8 : parseMethodDescriptor "(IIIII)I" = some ⟨[.int, .int, .int, .int, .int], some .int⟩ := by decide +kernel
set_option maxRecDepth 65536 in
set_option maxHeartbeats 40000000 in
theorem lawc (l : Launch) (Z : State) (a0 : Array Value) (hw : ∀ d ∈ tables_1, d.before a0 Z = true) (x0 : Int32) (x1 : Int32) (h0 : Heap) (n0 : Nat) (hn : n0 ≤ h0.size) :
    Con l x code maxLocals ret tables_1 room_1 24 192 Z #[(.int x0), (.int x1)] h0 n0 (fun v _ => v = some (.int 1)) := by
  refine Con.of (plainFor_of_name pn2) hn (fun m => ef0 m x0 x1) ?_
  intro p e s m below meth c s₀ hnm G0
  have G1 := G0.iloadN (v := x0) (pc' := 1) at_0 rfl
  have G2 := G1.bipush (v := (7 : Int32)) (pc' := 3) at_1
  have G3 := G2.iand (pc' := 4) at_3
  obtain ⟨A, hA, e_A⟩ := own_mk x0
  rw [e_A] at G3
  have G4 := G3.istoreN (L' := #[.val (.int x0), .val (.int x1), .val (.int (Int32.ofNat A)), .unset, .unset, .unset, .unset, .unset, .unset, .unset, .unset, .unset, .unset, .unset]) (pc' := 5) at_4 rfl
  have G5 := G4.iloadN (v := x0) (pc' := 6) at_5 rfl
  have G6 := G5.iconst (v := (3 : Int32)) (pc' := 7) at_6
  have G7 := G6.ishr (pc' := 8) at_7
  have G8 := G7.bipush (v := (7 : Int32)) (pc' := 10) at_8
  have G9 := G8.iand (pc' := 11) at_10
  obtain ⟨B, hB, e_B⟩ := own_mk (x0 >>> ((3 : Int32) &&& 31))
  rw [e_B] at G9
  have G10 := G9.istoreN (L' := #[.val (.int x0), .val (.int x1), .val (.int (Int32.ofNat A)), .val (.int (Int32.ofNat B)), .unset, .unset, .unset, .unset, .unset, .unset, .unset, .unset, .unset, .unset]) (pc' := 12) at_11 rfl
  have G11 := G10.iloadN (v := x0) (pc' := 13) at_12 rfl
  have G12 := G11.bipush (v := (6 : Int32)) (pc' := 15) at_13
  have G13 := G12.ishr (pc' := 16) at_15
  have G14 := G13.bipush (v := (7 : Int32)) (pc' := 18) at_16
  have G15 := G14.iand (pc' := 19) at_18
  obtain ⟨D, hD, e_D⟩ := own_mk (x0 >>> ((6 : Int32) &&& 31))
  rw [e_D] at G15
  have G16 := G15.istore (L' := #[.val (.int x0), .val (.int x1), .val (.int (Int32.ofNat A)), .val (.int (Int32.ofNat B)), .val (.int (Int32.ofNat D)), .unset, .unset, .unset, .unset, .unset, .unset, .unset, .unset, .unset]) (pc' := 21) at_19 rfl
  have G17 := G16.iloadN (v := x1) (pc' := 22) at_21 rfl
  have G18 := G17.bipush (v := (63 : Int32)) (pc' := 24) at_22
  have G19 := G18.iand (pc' := 25) at_24
  obtain ⟨sv, hsv, e_sv⟩ := own_ms x1
  rw [e_sv] at G19
  have G20 := G19.istore (L' := #[.val (.int x0), .val (.int x1), .val (.int (Int32.ofNat A)), .val (.int (Int32.ofNat B)), .val (.int (Int32.ofNat D)), .val (.int (Int32.ofNat sv)), .unset, .unset, .unset, .unset, .unset, .unset, .unset, .unset]) (pc' := 27) at_25 rfl
  have G21 := G20.iloadN (v := x1) (pc' := 28) at_27 rfl
  have G22 := G21.bipush (v := (6 : Int32)) (pc' := 30) at_28
  have G23 := G22.ishr (pc' := 31) at_30
  have G24 := G23.iconst (v := (1 : Int32)) (pc' := 32) at_31
  have G25 := G24.iand (pc' := 33) at_32
  obtain ⟨zr, e_zr, G31⟩ : ∃ zr : Int32, zr = (if ((x1 >>> ((6 : Int32) &&& 31)) &&& (1 : Int32)) = (0 : Int32) then (0 : Int32) else (1 : Int32)) ∧ Go p l e room_1 s m #[(.int x0), (.int x1)] below meth c Z x.cls code maxLocals ret n0 s₀ h0 0 0 41 #[.val (.int x0), .val (.int x1), .val (.int (Int32.ofNat A)), .val (.int (Int32.ofNat B)), .val (.int (Int32.ofNat D)), .val (.int (Int32.ofNat sv)), .unset, .unset, .unset, .unset, .unset, .unset, .unset, .unset] [(.int zr)] := by
    by_cases c33_25 : ((x1 >>> ((6 : Int32) &&& 31)) &&& (1 : Int32)) = (0 : Int32)
    · have G26 := G25.ifY at_33 40 (Jvm.Free.XT.i0_eq_t c33_25)
      have G27 := G26.iconst (v := (0 : Int32)) (pc' := 41) at_40
      exact ⟨(0 : Int32), by rw [if_pos c33_25], G27⟩
    · have G28 := G25.ifN at_33 36 (Jvm.Free.XT.i0_eq_f c33_25)
      have G29 := G28.iconst (v := (1 : Int32)) (pc' := 37) at_36
      have G30 := G29.goto at_37 41
      exact ⟨(1 : Int32), by rw [if_neg c33_25], G30⟩
  have G32 := G31.istore (L' := #[.val (.int x0), .val (.int x1), .val (.int (Int32.ofNat A)), .val (.int (Int32.ofNat B)), .val (.int (Int32.ofNat D)), .val (.int (Int32.ofNat sv)), .val (.int zr), .unset, .unset, .unset, .unset, .unset, .unset, .unset]) (pc' := 43) at_41 rfl
  have lA := own_b8 ⟨A, hA⟩
  have lB := own_b8 ⟨B, hB⟩
  have lD := own_b8 ⟨D, hD⟩
  dsimp only at lA lB lD
  have kA := lA.1
  have kB := lB.1
  have kD := lD.1
  have q0 := own_ol (Int32.ofNat sv) 0
  have q1 := own_ol (Int32.ofNat sv) 1
  have q2 := own_ol (Int32.ofNat sv) 2
  have q3 := own_ol (Int32.ofNat sv) 3
  have q4 := own_ol (Int32.ofNat sv) 4
  have q5 := own_ol (Int32.ofNat sv) 5
  have hn64 := own_n64 ⟨sv, hsv⟩
  dsimp only at hn64
  have G33 := G32.bipush (v := (9 : Int32)) (pc' := 45) at_43
  obtain ⟨a34, h34, ea34, g_a34, X34, V34, G34⟩ := G33.newA (ty := .int) (dv := (.int (0 : Int32))) (N := 9) (cap := 9) (pc' := 47) (k' := 1) (j' := 9) (hw _ (List.mem_of_getElem? (i := 0) rfl)) at_45 rfl rfl (by decide) (by decide) (by decide) rfl rfl rfl (by decide) (by decide)
  have V35 : Av Z h34 a34 .int [(.int (0 : Int32)), (.int (0 : Int32)), (.int (0 : Int32)), (.int (0 : Int32)), (.int (0 : Int32)), (.int (0 : Int32)), (.int (0 : Int32)), (.int (0 : Int32)), (.int (0 : Int32))] := V34
  have G36 := G34.astore (L' := #[.val (.int x0), .val (.int x1), .val (.int (Int32.ofNat A)), .val (.int (Int32.ofNat B)), .val (.int (Int32.ofNat D)), .val (.int (Int32.ofNat sv)), .val (.int zr), .val (.ref a34), .unset, .unset, .unset, .unset, .unset, .unset]) (pc' := 49) at_47 rfl
  have G37 := G36.bipush (v := (7 : Int32)) (pc' := 51) at_49
  obtain ⟨a38, h38, ea38, g_a38, X38, V38, G38⟩ := G37.newA (ty := .int) (dv := (.int (0 : Int32))) (N := 7) (cap := 7) (pc' := 53) (k' := 2) (j' := 16) (hw _ (List.mem_of_getElem? (i := 0) rfl)) at_51 rfl rfl (by decide) (by decide) (by decide) rfl rfl rfl (by decide) (by decide)
  have ne39 : a34 ≠ a38 := by rw [ea38]; exact Nat.ne_of_lt V35.lt
  have V40 : Av Z h38 a34 .int [(.int (0 : Int32)), (.int (0 : Int32)), (.int (0 : Int32)), (.int (0 : Int32)), (.int (0 : Int32)), (.int (0 : Int32)), (.int (0 : Int32)), (.int (0 : Int32)), (.int (0 : Int32))] := V35.ext X38
  have V41 : Av Z h38 a38 .int [(.int (0 : Int32)), (.int (0 : Int32)), (.int (0 : Int32)), (.int (0 : Int32)), (.int (0 : Int32)), (.int (0 : Int32)), (.int (0 : Int32))] := V38
  have G42 := G38.astore (L' := #[.val (.int x0), .val (.int x1), .val (.int (Int32.ofNat A)), .val (.int (Int32.ofNat B)), .val (.int (Int32.ofNat D)), .val (.int (Int32.ofNat sv)), .val (.int zr), .val (.ref a34), .val (.ref a38), .unset, .unset, .unset, .unset, .unset]) (pc' := 55) at_53 rfl
  have G43 := G42.aload (v := (.ref a38)) (pc' := 57) at_55 rfl
  have G44 := G43.iconst (v := (0 : Int32)) (pc' := 58) at_57
  have G45 := G44.iconst (v := (0 : Int32)) (pc' := 59) at_58
  obtain ⟨h46, W46, V46, G46⟩ := G45.stI (i := 0) (pc' := 60) V41 g_a38 (by decide) (by show 0 < 7; decide) at_59
  have V47 : Av Z h46 a34 .int [(.int (0 : Int32)), (.int (0 : Int32)), (.int (0 : Int32)), (.int (0 : Int32)), (.int (0 : Int32)), (.int (0 : Int32)), (.int (0 : Int32)), (.int (0 : Int32)), (.int (0 : Int32))] := V40.other W46 ne39
  have V48 : Av Z h46 a38 .int [(.int (0 : Int32)), (.int (0 : Int32)), (.int (0 : Int32)), (.int (0 : Int32)), (.int (0 : Int32)), (.int (0 : Int32)), (.int (0 : Int32))] := V46
  have G49 := G46.aload (v := (.ref a38)) (pc' := 62) at_60 rfl
  have G50 := G49.iconst (v := (1 : Int32)) (pc' := 63) at_62
  have G51 := G50.aload (v := (.ref a34)) (pc' := 65) at_63 rfl
  have G52 := G51.aload (v := (.ref a38)) (pc' := 67) at_65 rfl
  have G53 := G52.iconst (v := (0 : Int32)) (pc' := 68) at_67
  have G54 := G53.ldI (i := 0) (v := (.int (0 : Int32))) (pc' := 69) V48 (by decide) rfl at_68
  have G55 := G54.iloadN (v := (Int32.ofNat A)) (pc' := 70) at_69 rfl
  obtain ⟨v56, h56, ⟨vs56, ev56, K56, V56, PR56⟩, g56⟩ := G55.callS (argsL := [(.ref a34), (.int (0 : Int32)), (.int (Int32.ofNat A))]) (rest := [(.int (1 : Int32)), (.ref a38)]) (pc' := 73) (k' := 2) (j' := 16) (cn1 l Z a0 hw ([] : List Nat) a34 (Int32.ofNat A) h46 n0 G55.size [(.int (0 : Int32)), (.int (0 : Int32)), (.int (0 : Int32)), (.int (0 : Int32)), (.int (0 : Int32)), (.int (0 : Int32)), (.int (0 : Int32)), (.int (0 : Int32)), (.int (0 : Int32))] 9 (by decide) V47 (own_pre0 9) (by simp only [List.length_append, List.length_nil]; omega) g_a34) rfl (hw _ (List.mem_of_getElem? (i := 1) rfl)) (hw _ (List.mem_of_getElem? (i := 2) rfl)) (hw _ (List.mem_of_getElem? (i := 3) rfl)) (hw _ (List.mem_of_getElem? (i := 4) rfl)) (by decide) at_70 pd5 rfl (W := 2) rfl rfl (by decide) (by decide) (by decide) (by decide) rfl rfl rfl
  subst ev56
  have G56 := g56 [(.int (Int32.ofNat (([] : List Nat) ++ own_bits (Int32.ofNat A)).length)), (.int (1 : Int32)), (.ref a38)] rfl
  have V57 : Av Z h56 a38 .int [(.int (0 : Int32)), (.int (0 : Int32)), (.int (0 : Int32)), (.int (0 : Int32)), (.int (0 : Int32)), (.int (0 : Int32)), (.int (0 : Int32))] := V48.keep K56 (ninS (Ne.symm ne39) nin0)
  obtain ⟨h58, W58, V58, G58⟩ := G56.stI (i := 1) (pc' := 74) V57 g_a38 (by decide) (by show 1 < 7; decide) at_73
  have V59 : Av Z h58 a34 .int vs56 := V56.other W58 ne39
  have V60 : Av Z h58 a38 .int [(.int (0 : Int32)), (.int (Int32.ofNat (([] : List Nat) ++ own_bits (Int32.ofNat A)).length)), (.int (0 : Int32)), (.int (0 : Int32)), (.int (0 : Int32)), (.int (0 : Int32)), (.int (0 : Int32))] := V58
  have G61 := G58.aload (v := (.ref a38)) (pc' := 76) at_74 rfl
  have G62 := G61.iconst (v := (2 : Int32)) (pc' := 77) at_76
  have G63 := G62.aload (v := (.ref a34)) (pc' := 79) at_77 rfl
  have G64 := G63.aload (v := (.ref a38)) (pc' := 81) at_79 rfl
  have G65 := G64.iconst (v := (1 : Int32)) (pc' := 82) at_81
  have G66 := G65.ldI (i := 1) (v := (.int (Int32.ofNat (([] : List Nat) ++ own_bits (Int32.ofNat A)).length))) (pc' := 83) V60 (by decide) rfl at_82
  have G67 := G66.iloadN (v := (Int32.ofNat B)) (pc' := 84) at_83 rfl
  obtain ⟨v68, h68, ⟨vs68, ev68, K68, V68, PR68⟩, g68⟩ := G67.callS (argsL := [(.ref a34), (.int (Int32.ofNat (([] : List Nat) ++ own_bits (Int32.ofNat A)).length)), (.int (Int32.ofNat B))]) (rest := [(.int (2 : Int32)), (.ref a38)]) (pc' := 87) (k' := 2) (j' := 16) (cn1 l Z a0 hw (([] : List Nat) ++ own_bits (Int32.ofNat A)) a34 (Int32.ofNat B) h58 n0 G67.size vs56 9 (by decide) V59 PR56 (by simp only [List.length_append, List.length_nil]; omega) g_a34) rfl (hw _ (List.mem_of_getElem? (i := 1) rfl)) (hw _ (List.mem_of_getElem? (i := 2) rfl)) (hw _ (List.mem_of_getElem? (i := 3) rfl)) (hw _ (List.mem_of_getElem? (i := 4) rfl)) (by decide) at_84 pd5 rfl (W := 2) rfl rfl (by decide) (by decide) (by decide) (by decide) rfl rfl rfl
  subst ev68
  have G68 := g68 [(.int (Int32.ofNat ((([] : List Nat) ++ own_bits (Int32.ofNat A)) ++ own_bits (Int32.ofNat B)).length)), (.int (2 : Int32)), (.ref a38)] rfl
  have V69 : Av Z h68 a38 .int [(.int (0 : Int32)), (.int (Int32.ofNat (([] : List Nat) ++ own_bits (Int32.ofNat A)).length)), (.int (0 : Int32)), (.int (0 : Int32)), (.int (0 : Int32)), (.int (0 : Int32)), (.int (0 : Int32))] := V60.keep K68 (ninS (Ne.symm ne39) nin0)
  obtain ⟨h70, W70, V70, G70⟩ := G68.stI (i := 2) (pc' := 88) V69 g_a38 (by decide) (by show 2 < 7; decide) at_87
  have V71 : Av Z h70 a34 .int vs68 := V68.other W70 ne39
  have V72 : Av Z h70 a38 .int [(.int (0 : Int32)), (.int (Int32.ofNat (([] : List Nat) ++ own_bits (Int32.ofNat A)).length)), (.int (Int32.ofNat ((([] : List Nat) ++ own_bits (Int32.ofNat A)) ++ own_bits (Int32.ofNat B)).length)), (.int (0 : Int32)), (.int (0 : Int32)), (.int (0 : Int32)), (.int (0 : Int32))] := V70
  have G73 := G70.aload (v := (.ref a38)) (pc' := 90) at_88 rfl
  have G74 := G73.iconst (v := (3 : Int32)) (pc' := 91) at_90
  have G75 := G74.aload (v := (.ref a34)) (pc' := 93) at_91 rfl
  have G76 := G75.aload (v := (.ref a38)) (pc' := 95) at_93 rfl
  have G77 := G76.iconst (v := (2 : Int32)) (pc' := 96) at_95
  have G78 := G77.ldI (i := 2) (v := (.int (Int32.ofNat ((([] : List Nat) ++ own_bits (Int32.ofNat A)) ++ own_bits (Int32.ofNat B)).length))) (pc' := 97) V72 (by decide) rfl at_96
  have G79 := G78.iload (v := (Int32.ofNat D)) (pc' := 99) at_97 rfl
  obtain ⟨v80, h80, ⟨vs80, ev80, K80, V80, PR80⟩, g80⟩ := G79.callS (argsL := [(.ref a34), (.int (Int32.ofNat ((([] : List Nat) ++ own_bits (Int32.ofNat A)) ++ own_bits (Int32.ofNat B)).length)), (.int (Int32.ofNat D))]) (rest := [(.int (3 : Int32)), (.ref a38)]) (pc' := 102) (k' := 2) (j' := 16) (cn1 l Z a0 hw ((([] : List Nat) ++ own_bits (Int32.ofNat A)) ++ own_bits (Int32.ofNat B)) a34 (Int32.ofNat D) h70 n0 G79.size vs68 9 (by decide) V71 PR68 (by simp only [List.length_append, List.length_nil]; omega) g_a34) rfl (hw _ (List.mem_of_getElem? (i := 1) rfl)) (hw _ (List.mem_of_getElem? (i := 2) rfl)) (hw _ (List.mem_of_getElem? (i := 3) rfl)) (hw _ (List.mem_of_getElem? (i := 4) rfl)) (by decide) at_99 pd5 rfl (W := 2) rfl rfl (by decide) (by decide) (by decide) (by decide) rfl rfl rfl
  subst ev80
  have G80 := g80 [(.int (Int32.ofNat (((([] : List Nat) ++ own_bits (Int32.ofNat A)) ++ own_bits (Int32.ofNat B)) ++ own_bits (Int32.ofNat D)).length)), (.int (3 : Int32)), (.ref a38)] rfl
  have V81 : Av Z h80 a38 .int [(.int (0 : Int32)), (.int (Int32.ofNat (([] : List Nat) ++ own_bits (Int32.ofNat A)).length)), (.int (Int32.ofNat ((([] : List Nat) ++ own_bits (Int32.ofNat A)) ++ own_bits (Int32.ofNat B)).length)), (.int (0 : Int32)), (.int (0 : Int32)), (.int (0 : Int32)), (.int (0 : Int32))] := V72.keep K80 (ninS (Ne.symm ne39) nin0)
  obtain ⟨h82, W82, V82, G82⟩ := G80.stI (i := 3) (pc' := 103) V81 g_a38 (by decide) (by show 3 < 7; decide) at_102
  have V83 : Av Z h82 a34 .int vs80 := V80.other W82 ne39
  have V84 : Av Z h82 a38 .int [(.int (0 : Int32)), (.int (Int32.ofNat (([] : List Nat) ++ own_bits (Int32.ofNat A)).length)), (.int (Int32.ofNat ((([] : List Nat) ++ own_bits (Int32.ofNat A)) ++ own_bits (Int32.ofNat B)).length)), (.int (Int32.ofNat (((([] : List Nat) ++ own_bits (Int32.ofNat A)) ++ own_bits (Int32.ofNat B)) ++ own_bits (Int32.ofNat D)).length)), (.int (0 : Int32)), (.int (0 : Int32)), (.int (0 : Int32))] := V82
  have G85 := G82.aload (v := (.ref a38)) (pc' := 105) at_103 rfl
  have G86 := G85.iconst (v := (4 : Int32)) (pc' := 106) at_105
  have G87 := G86.aload (v := (.ref a34)) (pc' := 108) at_106 rfl
  have G88 := G87.aload (v := (.ref a38)) (pc' := 110) at_108 rfl
  have G89 := G88.iconst (v := (3 : Int32)) (pc' := 111) at_110
  have G90 := G89.ldI (i := 3) (v := (.int (Int32.ofNat (((([] : List Nat) ++ own_bits (Int32.ofNat A)) ++ own_bits (Int32.ofNat B)) ++ own_bits (Int32.ofNat D)).length))) (pc' := 112) V84 (by decide) rfl at_111
  have G91 := G90.iloadN (v := (Int32.ofNat A)) (pc' := 113) at_112 rfl
  have G92 := G91.iconst (v := (-1 : Int32)) (pc' := 114) at_113
  have G93 := G92.ixor (pc' := 115) at_114
  have G94 := G93.bipush (v := (7 : Int32)) (pc' := 117) at_115
  have G95 := G94.iand (pc' := 118) at_117
  rw [lA.2] at G95
  obtain ⟨v96, h96, ⟨vs96, ev96, K96, V96, PR96⟩, g96⟩ := G95.callS (argsL := [(.ref a34), (.int (Int32.ofNat (((([] : List Nat) ++ own_bits (Int32.ofNat A)) ++ own_bits (Int32.ofNat B)) ++ own_bits (Int32.ofNat D)).length)), (.int (Int32.ofNat (7 - A)))]) (rest := [(.int (4 : Int32)), (.ref a38)]) (pc' := 121) (k' := 2) (j' := 16) (cn1 l Z a0 hw (((([] : List Nat) ++ own_bits (Int32.ofNat A)) ++ own_bits (Int32.ofNat B)) ++ own_bits (Int32.ofNat D)) a34 (Int32.ofNat (7 - A)) h82 n0 G95.size vs80 9 (by decide) V83 PR80 (by simp only [List.length_append, List.length_nil]; omega) g_a34) rfl (hw _ (List.mem_of_getElem? (i := 1) rfl)) (hw _ (List.mem_of_getElem? (i := 2) rfl)) (hw _ (List.mem_of_getElem? (i := 3) rfl)) (hw _ (List.mem_of_getElem? (i := 4) rfl)) (by decide) at_118 pd5 rfl (W := 2) rfl rfl (by decide) (by decide) (by decide) (by decide) rfl rfl rfl
  subst ev96
  have G96 := g96 [(.int (Int32.ofNat ((((([] : List Nat) ++ own_bits (Int32.ofNat A)) ++ own_bits (Int32.ofNat B)) ++ own_bits (Int32.ofNat D)) ++ own_bits (Int32.ofNat (7 - A))).length)), (.int (4 : Int32)), (.ref a38)] rfl
  have V97 : Av Z h96 a38 .int [(.int (0 : Int32)), (.int (Int32.ofNat (([] : List Nat) ++ own_bits (Int32.ofNat A)).length)), (.int (Int32.ofNat ((([] : List Nat) ++ own_bits (Int32.ofNat A)) ++ own_bits (Int32.ofNat B)).length)), (.int (Int32.ofNat (((([] : List Nat) ++ own_bits (Int32.ofNat A)) ++ own_bits (Int32.ofNat B)) ++ own_bits (Int32.ofNat D)).length)), (.int (0 : Int32)), (.int (0 : Int32)), (.int (0 : Int32))] := V84.keep K96 (ninS (Ne.symm ne39) nin0)
  obtain ⟨h98, W98, V98, G98⟩ := G96.stI (i := 4) (pc' := 122) V97 g_a38 (by decide) (by show 4 < 7; decide) at_121
  have V99 : Av Z h98 a34 .int vs96 := V96.other W98 ne39
  have V100 : Av Z h98 a38 .int [(.int (0 : Int32)), (.int (Int32.ofNat (([] : List Nat) ++ own_bits (Int32.ofNat A)).length)), (.int (Int32.ofNat ((([] : List Nat) ++ own_bits (Int32.ofNat A)) ++ own_bits (Int32.ofNat B)).length)), (.int (Int32.ofNat (((([] : List Nat) ++ own_bits (Int32.ofNat A)) ++ own_bits (Int32.ofNat B)) ++ own_bits (Int32.ofNat D)).length)), (.int (Int32.ofNat ((((([] : List Nat) ++ own_bits (Int32.ofNat A)) ++ own_bits (Int32.ofNat B)) ++ own_bits (Int32.ofNat D)) ++ own_bits (Int32.ofNat (7 - A))).length)), (.int (0 : Int32)), (.int (0 : Int32))] := V98
  have G101 := G98.aload (v := (.ref a38)) (pc' := 124) at_122 rfl
  have G102 := G101.iconst (v := (5 : Int32)) (pc' := 125) at_124
  have G103 := G102.aload (v := (.ref a34)) (pc' := 127) at_125 rfl
  have G104 := G103.aload (v := (.ref a38)) (pc' := 129) at_127 rfl
  have G105 := G104.iconst (v := (4 : Int32)) (pc' := 130) at_129
  have G106 := G105.ldI (i := 4) (v := (.int (Int32.ofNat ((((([] : List Nat) ++ own_bits (Int32.ofNat A)) ++ own_bits (Int32.ofNat B)) ++ own_bits (Int32.ofNat D)) ++ own_bits (Int32.ofNat (7 - A))).length))) (pc' := 131) V100 (by decide) rfl at_130
  have G107 := G106.iloadN (v := (Int32.ofNat B)) (pc' := 132) at_131 rfl
  have G108 := G107.iconst (v := (-1 : Int32)) (pc' := 133) at_132
  have G109 := G108.ixor (pc' := 134) at_133
  have G110 := G109.bipush (v := (7 : Int32)) (pc' := 136) at_134
  have G111 := G110.iand (pc' := 137) at_136
  rw [lB.2] at G111
  obtain ⟨v112, h112, ⟨vs112, ev112, K112, V112, PR112⟩, g112⟩ := G111.callS (argsL := [(.ref a34), (.int (Int32.ofNat ((((([] : List Nat) ++ own_bits (Int32.ofNat A)) ++ own_bits (Int32.ofNat B)) ++ own_bits (Int32.ofNat D)) ++ own_bits (Int32.ofNat (7 - A))).length)), (.int (Int32.ofNat (7 - B)))]) (rest := [(.int (5 : Int32)), (.ref a38)]) (pc' := 140) (k' := 2) (j' := 16) (cn1 l Z a0 hw ((((([] : List Nat) ++ own_bits (Int32.ofNat A)) ++ own_bits (Int32.ofNat B)) ++ own_bits (Int32.ofNat D)) ++ own_bits (Int32.ofNat (7 - A))) a34 (Int32.ofNat (7 - B)) h98 n0 G111.size vs96 9 (by decide) V99 PR96 (by simp only [List.length_append, List.length_nil]; omega) g_a34) rfl (hw _ (List.mem_of_getElem? (i := 1) rfl)) (hw _ (List.mem_of_getElem? (i := 2) rfl)) (hw _ (List.mem_of_getElem? (i := 3) rfl)) (hw _ (List.mem_of_getElem? (i := 4) rfl)) (by decide) at_137 pd5 rfl (W := 2) rfl rfl (by decide) (by decide) (by decide) (by decide) rfl rfl rfl
  subst ev112
  have G112 := g112 [(.int (Int32.ofNat (((((([] : List Nat) ++ own_bits (Int32.ofNat A)) ++ own_bits (Int32.ofNat B)) ++ own_bits (Int32.ofNat D)) ++ own_bits (Int32.ofNat (7 - A))) ++ own_bits (Int32.ofNat (7 - B))).length)), (.int (5 : Int32)), (.ref a38)] rfl
  have V113 : Av Z h112 a38 .int [(.int (0 : Int32)), (.int (Int32.ofNat (([] : List Nat) ++ own_bits (Int32.ofNat A)).length)), (.int (Int32.ofNat ((([] : List Nat) ++ own_bits (Int32.ofNat A)) ++ own_bits (Int32.ofNat B)).length)), (.int (Int32.ofNat (((([] : List Nat) ++ own_bits (Int32.ofNat A)) ++ own_bits (Int32.ofNat B)) ++ own_bits (Int32.ofNat D)).length)), (.int (Int32.ofNat ((((([] : List Nat) ++ own_bits (Int32.ofNat A)) ++ own_bits (Int32.ofNat B)) ++ own_bits (Int32.ofNat D)) ++ own_bits (Int32.ofNat (7 - A))).length)), (.int (0 : Int32)), (.int (0 : Int32))] := V100.keep K112 (ninS (Ne.symm ne39) nin0)
  obtain ⟨h114, W114, V114, G114⟩ := G112.stI (i := 5) (pc' := 141) V113 g_a38 (by decide) (by show 5 < 7; decide) at_140
  have V115 : Av Z h114 a34 .int vs112 := V112.other W114 ne39
  have V116 : Av Z h114 a38 .int [(.int (0 : Int32)), (.int (Int32.ofNat (([] : List Nat) ++ own_bits (Int32.ofNat A)).length)), (.int (Int32.ofNat ((([] : List Nat) ++ own_bits (Int32.ofNat A)) ++ own_bits (Int32.ofNat B)).length)), (.int (Int32.ofNat (((([] : List Nat) ++ own_bits (Int32.ofNat A)) ++ own_bits (Int32.ofNat B)) ++ own_bits (Int32.ofNat D)).length)), (.int (Int32.ofNat ((((([] : List Nat) ++ own_bits (Int32.ofNat A)) ++ own_bits (Int32.ofNat B)) ++ own_bits (Int32.ofNat D)) ++ own_bits (Int32.ofNat (7 - A))).length)), (.int (Int32.ofNat (((((([] : List Nat) ++ own_bits (Int32.ofNat A)) ++ own_bits (Int32.ofNat B)) ++ own_bits (Int32.ofNat D)) ++ own_bits (Int32.ofNat (7 - A))) ++ own_bits (Int32.ofNat (7 - B))).length)), (.int (0 : Int32))] := V114
  have G117 := G114.aload (v := (.ref a38)) (pc' := 143) at_141 rfl
  have G118 := G117.bipush (v := (6 : Int32)) (pc' := 145) at_143
  have G119 := G118.aload (v := (.ref a34)) (pc' := 147) at_145 rfl
  have G120 := G119.aload (v := (.ref a38)) (pc' := 149) at_147 rfl
  have G121 := G120.iconst (v := (5 : Int32)) (pc' := 150) at_149
  have G122 := G121.ldI (i := 5) (v := (.int (Int32.ofNat (((((([] : List Nat) ++ own_bits (Int32.ofNat A)) ++ own_bits (Int32.ofNat B)) ++ own_bits (Int32.ofNat D)) ++ own_bits (Int32.ofNat (7 - A))) ++ own_bits (Int32.ofNat (7 - B))).length))) (pc' := 151) V116 (by decide) rfl at_150
  have G123 := G122.iload (v := (Int32.ofNat D)) (pc' := 153) at_151 rfl
  have G124 := G123.iconst (v := (-1 : Int32)) (pc' := 154) at_153
  have G125 := G124.ixor (pc' := 155) at_154
  have G126 := G125.bipush (v := (7 : Int32)) (pc' := 157) at_155
  have G127 := G126.iand (pc' := 158) at_157
  rw [lD.2] at G127
  obtain ⟨v128, h128, ⟨vs128, ev128, K128, V128, PR128⟩, g128⟩ := G127.callS (argsL := [(.ref a34), (.int (Int32.ofNat (((((([] : List Nat) ++ own_bits (Int32.ofNat A)) ++ own_bits (Int32.ofNat B)) ++ own_bits (Int32.ofNat D)) ++ own_bits (Int32.ofNat (7 - A))) ++ own_bits (Int32.ofNat (7 - B))).length)), (.int (Int32.ofNat (7 - D)))]) (rest := [(.int (6 : Int32)), (.ref a38)]) (pc' := 161) (k' := 2) (j' := 16) (cn1 l Z a0 hw (((((([] : List Nat) ++ own_bits (Int32.ofNat A)) ++ own_bits (Int32.ofNat B)) ++ own_bits (Int32.ofNat D)) ++ own_bits (Int32.ofNat (7 - A))) ++ own_bits (Int32.ofNat (7 - B))) a34 (Int32.ofNat (7 - D)) h114 n0 G127.size vs112 9 (by decide) V115 PR112 (by simp only [List.length_append, List.length_nil]; omega) g_a34) rfl (hw _ (List.mem_of_getElem? (i := 1) rfl)) (hw _ (List.mem_of_getElem? (i := 2) rfl)) (hw _ (List.mem_of_getElem? (i := 3) rfl)) (hw _ (List.mem_of_getElem? (i := 4) rfl)) (by decide) at_158 pd5 rfl (W := 2) rfl rfl (by decide) (by decide) (by decide) (by decide) rfl rfl rfl
  subst ev128
  have G128 := g128 [(.int (Int32.ofNat ((((((([] : List Nat) ++ own_bits (Int32.ofNat A)) ++ own_bits (Int32.ofNat B)) ++ own_bits (Int32.ofNat D)) ++ own_bits (Int32.ofNat (7 - A))) ++ own_bits (Int32.ofNat (7 - B))) ++ own_bits (Int32.ofNat (7 - D))).length)), (.int (6 : Int32)), (.ref a38)] rfl
  have V129 : Av Z h128 a38 .int [(.int (0 : Int32)), (.int (Int32.ofNat (([] : List Nat) ++ own_bits (Int32.ofNat A)).length)), (.int (Int32.ofNat ((([] : List Nat) ++ own_bits (Int32.ofNat A)) ++ own_bits (Int32.ofNat B)).length)), (.int (Int32.ofNat (((([] : List Nat) ++ own_bits (Int32.ofNat A)) ++ own_bits (Int32.ofNat B)) ++ own_bits (Int32.ofNat D)).length)), (.int (Int32.ofNat ((((([] : List Nat) ++ own_bits (Int32.ofNat A)) ++ own_bits (Int32.ofNat B)) ++ own_bits (Int32.ofNat D)) ++ own_bits (Int32.ofNat (7 - A))).length)), (.int (Int32.ofNat (((((([] : List Nat) ++ own_bits (Int32.ofNat A)) ++ own_bits (Int32.ofNat B)) ++ own_bits (Int32.ofNat D)) ++ own_bits (Int32.ofNat (7 - A))) ++ own_bits (Int32.ofNat (7 - B))).length)), (.int (0 : Int32))] := V116.keep K128 (ninS (Ne.symm ne39) nin0)
  obtain ⟨h130, W130, V130, G130⟩ := G128.stI (i := 6) (pc' := 162) V129 g_a38 (by decide) (by show 6 < 7; decide) at_161
  have V131 : Av Z h130 a34 .int vs128 := V128.other W130 ne39
  have V132 : Av Z h130 a38 .int [(.int (0 : Int32)), (.int (Int32.ofNat (([] : List Nat) ++ own_bits (Int32.ofNat A)).length)), (.int (Int32.ofNat ((([] : List Nat) ++ own_bits (Int32.ofNat A)) ++ own_bits (Int32.ofNat B)).length)), (.int (Int32.ofNat (((([] : List Nat) ++ own_bits (Int32.ofNat A)) ++ own_bits (Int32.ofNat B)) ++ own_bits (Int32.ofNat D)).length)), (.int (Int32.ofNat ((((([] : List Nat) ++ own_bits (Int32.ofNat A)) ++ own_bits (Int32.ofNat B)) ++ own_bits (Int32.ofNat D)) ++ own_bits (Int32.ofNat (7 - A))).length)), (.int (Int32.ofNat (((((([] : List Nat) ++ own_bits (Int32.ofNat A)) ++ own_bits (Int32.ofNat B)) ++ own_bits (Int32.ofNat D)) ++ own_bits (Int32.ofNat (7 - A))) ++ own_bits (Int32.ofNat (7 - B))).length)), (.int (Int32.ofNat ((((((([] : List Nat) ++ own_bits (Int32.ofNat A)) ++ own_bits (Int32.ofNat B)) ++ own_bits (Int32.ofNat D)) ++ own_bits (Int32.ofNat (7 - A))) ++ own_bits (Int32.ofNat (7 - B))) ++ own_bits (Int32.ofNat (7 - D))).length))] := V130
  have G133 := G130.iload (v := (Int32.ofNat sv)) (pc' := 164) at_162 rfl
  have G134 := G133.iconst (v := (0 : Int32)) (pc' := 165) at_164
  obtain ⟨v135, h135, ⟨ev135, eh135⟩, g135⟩ := G134.callS (argsL := [(.int (Int32.ofNat sv)), (.int (0 : Int32))]) (rest := []) (pc' := 168) (k' := 2) (j' := 16) (cn2 l Z a0 hw (Int32.ofNat sv) (0 : Int32) h130 n0 G134.size) rfl (hw _ (List.mem_of_getElem? (i := 5) rfl)) (hw _ (List.mem_of_getElem? (i := 6) rfl)) (hw _ (List.mem_of_getElem? (i := 3) rfl)) (hw _ (List.mem_of_getElem? (i := 7) rfl)) (by decide) at_165 pd0 rfl (W := 0) rfl rfl (by decide) (by decide) (by decide) (by decide) rfl rfl rfl
  subst ev135
  rw [eh135] at g135
  have G135 := g135 [(.int (fIn (Int32.ofNat sv) (0 : Int32)))] rfl
  have G136 := G135.iload (v := (Int32.ofNat sv)) (pc' := 170) at_168 rfl
  have G137 := G136.iconst (v := (1 : Int32)) (pc' := 171) at_170
  obtain ⟨v138, h138, ⟨ev138, eh138⟩, g138⟩ := G137.callS (argsL := [(.int (Int32.ofNat sv)), (.int (1 : Int32))]) (rest := [(.int (fIn (Int32.ofNat sv) (0 : Int32)))]) (pc' := 174) (k' := 2) (j' := 16) (cn2 l Z a0 hw (Int32.ofNat sv) (1 : Int32) h130 n0 G137.size) rfl (hw _ (List.mem_of_getElem? (i := 5) rfl)) (hw _ (List.mem_of_getElem? (i := 6) rfl)) (hw _ (List.mem_of_getElem? (i := 3) rfl)) (hw _ (List.mem_of_getElem? (i := 7) rfl)) (by decide) at_171 pd0 rfl (W := 1) rfl rfl (by decide) (by decide) (by decide) (by decide) rfl rfl rfl
  subst ev138
  rw [eh138] at g138
  have G138 := g138 [(.int (fIn (Int32.ofNat sv) (1 : Int32))), (.int (fIn (Int32.ofNat sv) (0 : Int32)))] rfl
  have G139 := G138.iadd (pc' := 175) at_174
  have G140 := G139.iload (v := (Int32.ofNat sv)) (pc' := 177) at_175 rfl
  have G141 := G140.iconst (v := (2 : Int32)) (pc' := 178) at_177
  obtain ⟨v142, h142, ⟨ev142, eh142⟩, g142⟩ := G141.callS (argsL := [(.int (Int32.ofNat sv)), (.int (2 : Int32))]) (rest := [(.int ((fIn (Int32.ofNat sv) (0 : Int32)) + (fIn (Int32.ofNat sv) (1 : Int32))))]) (pc' := 181) (k' := 2) (j' := 16) (cn2 l Z a0 hw (Int32.ofNat sv) (2 : Int32) h130 n0 G141.size) rfl (hw _ (List.mem_of_getElem? (i := 5) rfl)) (hw _ (List.mem_of_getElem? (i := 6) rfl)) (hw _ (List.mem_of_getElem? (i := 3) rfl)) (hw _ (List.mem_of_getElem? (i := 7) rfl)) (by decide) at_178 pd0 rfl (W := 1) rfl rfl (by decide) (by decide) (by decide) (by decide) rfl rfl rfl
  subst ev142
  rw [eh142] at g142
  have G142 := g142 [(.int (fIn (Int32.ofNat sv) (2 : Int32))), (.int ((fIn (Int32.ofNat sv) (0 : Int32)) + (fIn (Int32.ofNat sv) (1 : Int32))))] rfl
  have G143 := G142.iadd (pc' := 182) at_181
  have G144 := G143.iload (v := (Int32.ofNat sv)) (pc' := 184) at_182 rfl
  have G145 := G144.iconst (v := (3 : Int32)) (pc' := 185) at_184
  obtain ⟨v146, h146, ⟨ev146, eh146⟩, g146⟩ := G145.callS (argsL := [(.int (Int32.ofNat sv)), (.int (3 : Int32))]) (rest := [(.int (((fIn (Int32.ofNat sv) (0 : Int32)) + (fIn (Int32.ofNat sv) (1 : Int32))) + (fIn (Int32.ofNat sv) (2 : Int32))))]) (pc' := 188) (k' := 2) (j' := 16) (cn2 l Z a0 hw (Int32.ofNat sv) (3 : Int32) h130 n0 G145.size) rfl (hw _ (List.mem_of_getElem? (i := 5) rfl)) (hw _ (List.mem_of_getElem? (i := 6) rfl)) (hw _ (List.mem_of_getElem? (i := 3) rfl)) (hw _ (List.mem_of_getElem? (i := 7) rfl)) (by decide) at_185 pd0 rfl (W := 1) rfl rfl (by decide) (by decide) (by decide) (by decide) rfl rfl rfl
  subst ev146
  rw [eh146] at g146
  have G146 := g146 [(.int (fIn (Int32.ofNat sv) (3 : Int32))), (.int (((fIn (Int32.ofNat sv) (0 : Int32)) + (fIn (Int32.ofNat sv) (1 : Int32))) + (fIn (Int32.ofNat sv) (2 : Int32))))] rfl
  have G147 := G146.iadd (pc' := 189) at_188
  have G148 := G147.iload (v := (Int32.ofNat sv)) (pc' := 191) at_189 rfl
  have G149 := G148.iconst (v := (4 : Int32)) (pc' := 192) at_191
  obtain ⟨v150, h150, ⟨ev150, eh150⟩, g150⟩ := G149.callS (argsL := [(.int (Int32.ofNat sv)), (.int (4 : Int32))]) (rest := [(.int ((((fIn (Int32.ofNat sv) (0 : Int32)) + (fIn (Int32.ofNat sv) (1 : Int32))) + (fIn (Int32.ofNat sv) (2 : Int32))) + (fIn (Int32.ofNat sv) (3 : Int32))))]) (pc' := 195) (k' := 2) (j' := 16) (cn2 l Z a0 hw (Int32.ofNat sv) (4 : Int32) h130 n0 G149.size) rfl (hw _ (List.mem_of_getElem? (i := 5) rfl)) (hw _ (List.mem_of_getElem? (i := 6) rfl)) (hw _ (List.mem_of_getElem? (i := 3) rfl)) (hw _ (List.mem_of_getElem? (i := 7) rfl)) (by decide) at_192 pd0 rfl (W := 1) rfl rfl (by decide) (by decide) (by decide) (by decide) rfl rfl rfl
  subst ev150
  rw [eh150] at g150
  have G150 := g150 [(.int (fIn (Int32.ofNat sv) (4 : Int32))), (.int ((((fIn (Int32.ofNat sv) (0 : Int32)) + (fIn (Int32.ofNat sv) (1 : Int32))) + (fIn (Int32.ofNat sv) (2 : Int32))) + (fIn (Int32.ofNat sv) (3 : Int32))))] rfl
  have G151 := G150.iadd (pc' := 196) at_195
  have G152 := G151.iload (v := (Int32.ofNat sv)) (pc' := 198) at_196 rfl
  have G153 := G152.iconst (v := (5 : Int32)) (pc' := 199) at_198
  obtain ⟨v154, h154, ⟨ev154, eh154⟩, g154⟩ := G153.callS (argsL := [(.int (Int32.ofNat sv)), (.int (5 : Int32))]) (rest := [(.int (((((fIn (Int32.ofNat sv) (0 : Int32)) + (fIn (Int32.ofNat sv) (1 : Int32))) + (fIn (Int32.ofNat sv) (2 : Int32))) + (fIn (Int32.ofNat sv) (3 : Int32))) + (fIn (Int32.ofNat sv) (4 : Int32))))]) (pc' := 202) (k' := 2) (j' := 16) (cn2 l Z a0 hw (Int32.ofNat sv) (5 : Int32) h130 n0 G153.size) rfl (hw _ (List.mem_of_getElem? (i := 5) rfl)) (hw _ (List.mem_of_getElem? (i := 6) rfl)) (hw _ (List.mem_of_getElem? (i := 3) rfl)) (hw _ (List.mem_of_getElem? (i := 7) rfl)) (by decide) at_199 pd0 rfl (W := 1) rfl rfl (by decide) (by decide) (by decide) (by decide) rfl rfl rfl
  subst ev154
  rw [eh154] at g154
  have G154 := g154 [(.int (fIn (Int32.ofNat sv) (5 : Int32))), (.int (((((fIn (Int32.ofNat sv) (0 : Int32)) + (fIn (Int32.ofNat sv) (1 : Int32))) + (fIn (Int32.ofNat sv) (2 : Int32))) + (fIn (Int32.ofNat sv) (3 : Int32))) + (fIn (Int32.ofNat sv) (4 : Int32))))] rfl
  have G155 := G154.iadd (pc' := 203) at_202
  rw [hn64] at G155
  have G156 := G155.istore (L' := #[.val (.int x0), .val (.int x1), .val (.int (Int32.ofNat A)), .val (.int (Int32.ofNat B)), .val (.int (Int32.ofNat D)), .val (.int (Int32.ofNat sv)), .val (.int zr), .val (.ref a34), .val (.ref a38), .val (.int (Int32.ofNat ((own_one (Int32.ofNat sv) 0).length + (own_one (Int32.ofNat sv) 1).length + (own_one (Int32.ofNat sv) 2).length + (own_one (Int32.ofNat sv) 3).length + (own_one (Int32.ofNat sv) 4).length + (own_one (Int32.ofNat sv) 5).length))), .unset, .unset, .unset, .unset]) (pc' := 205) at_203 rfl
  have G157 := G156.iload (v := (Int32.ofNat ((own_one (Int32.ofNat sv) 0).length + (own_one (Int32.ofNat sv) 1).length + (own_one (Int32.ofNat sv) 2).length + (own_one (Int32.ofNat sv) 3).length + (own_one (Int32.ofNat sv) 4).length + (own_one (Int32.ofNat sv) 5).length))) (pc' := 207) at_205 rfl
  obtain ⟨a158, h158, ea158, g_a158, X158, V158, G158⟩ := G157.newA (ty := .int) (dv := (.int (0 : Int32))) (N := ((own_one (Int32.ofNat sv) 0).length + (own_one (Int32.ofNat sv) 1).length + (own_one (Int32.ofNat sv) 2).length + (own_one (Int32.ofNat sv) 3).length + (own_one (Int32.ofNat sv) 4).length + (own_one (Int32.ofNat sv) 5).length)) (cap := 6) (pc' := 209) (k' := 3) (j' := 22) (hw _ (List.mem_of_getElem? (i := 0) rfl)) at_207 rfl rfl (own_i _ (by omega)) (by omega) (by decide) rfl rfl rfl (by decide) (by decide)
  have ne159 : a38 ≠ a158 := by rw [ea158]; exact Nat.ne_of_lt V132.lt
  have ne160 : a34 ≠ a158 := by rw [ea158]; exact Nat.ne_of_lt V131.lt
  have V161 : Av Z h158 a38 .int [(.int (0 : Int32)), (.int (Int32.ofNat (([] : List Nat) ++ own_bits (Int32.ofNat A)).length)), (.int (Int32.ofNat ((([] : List Nat) ++ own_bits (Int32.ofNat A)) ++ own_bits (Int32.ofNat B)).length)), (.int (Int32.ofNat (((([] : List Nat) ++ own_bits (Int32.ofNat A)) ++ own_bits (Int32.ofNat B)) ++ own_bits (Int32.ofNat D)).length)), (.int (Int32.ofNat ((((([] : List Nat) ++ own_bits (Int32.ofNat A)) ++ own_bits (Int32.ofNat B)) ++ own_bits (Int32.ofNat D)) ++ own_bits (Int32.ofNat (7 - A))).length)), (.int (Int32.ofNat (((((([] : List Nat) ++ own_bits (Int32.ofNat A)) ++ own_bits (Int32.ofNat B)) ++ own_bits (Int32.ofNat D)) ++ own_bits (Int32.ofNat (7 - A))) ++ own_bits (Int32.ofNat (7 - B))).length)), (.int (Int32.ofNat ((((((([] : List Nat) ++ own_bits (Int32.ofNat A)) ++ own_bits (Int32.ofNat B)) ++ own_bits (Int32.ofNat D)) ++ own_bits (Int32.ofNat (7 - A))) ++ own_bits (Int32.ofNat (7 - B))) ++ own_bits (Int32.ofNat (7 - D))).length))] := V132.ext X158
  have V162 : Av Z h158 a34 .int vs128 := V131.ext X158
  have G163 := G158.astore (L' := #[.val (.int x0), .val (.int x1), .val (.int (Int32.ofNat A)), .val (.int (Int32.ofNat B)), .val (.int (Int32.ofNat D)), .val (.int (Int32.ofNat sv)), .val (.int zr), .val (.ref a34), .val (.ref a38), .val (.int (Int32.ofNat ((own_one (Int32.ofNat sv) 0).length + (own_one (Int32.ofNat sv) 1).length + (own_one (Int32.ofNat sv) 2).length + (own_one (Int32.ofNat sv) 3).length + (own_one (Int32.ofNat sv) 4).length + (own_one (Int32.ofNat sv) 5).length))), .val (.ref a158), .unset, .unset, .unset]) (pc' := 211) at_209 rfl
  have G164 := G163.iconst (v := (0 : Int32)) (pc' := 212) at_211
  have G165 := G164.istore (L' := #[.val (.int x0), .val (.int x1), .val (.int (Int32.ofNat A)), .val (.int (Int32.ofNat B)), .val (.int (Int32.ofNat D)), .val (.int (Int32.ofNat sv)), .val (.int zr), .val (.ref a34), .val (.ref a38), .val (.int (Int32.ofNat ((own_one (Int32.ofNat sv) 0).length + (own_one (Int32.ofNat sv) 1).length + (own_one (Int32.ofNat sv) 2).length + (own_one (Int32.ofNat sv) 3).length + (own_one (Int32.ofNat sv) 4).length + (own_one (Int32.ofNat sv) 5).length))), .val (.ref a158), .val (.int (0 : Int32)), .unset, .unset]) (pc' := 214) at_212 rfl
  have G166 := G165.iload (v := zr) (pc' := 216) at_214 rfl
  by_cases c216_166 : zr = (0 : Int32)
  · have G167 := G166.ifY at_216 294 (Jvm.Free.XT.i0_eq_t c216_166)
    have G168 := G167.aload (v := (.ref a158)) (pc' := 296) at_294 rfl
    have G169 := G168.iload (v := (0 : Int32)) (pc' := 298) at_296 rfl
    have G170 := G169.iload (v := (Int32.ofNat sv)) (pc' := 300) at_298 rfl
    have G171 := G170.iconst (v := (0 : Int32)) (pc' := 301) at_300
    obtain ⟨v172, h172, ⟨vs172, ev172, K172, V172, PR172⟩, g172⟩ := G171.callS (argsL := [(.ref a158), (.int (0 : Int32)), (.int (Int32.ofNat sv)), (.int (0 : Int32))]) (rest := []) (pc' := 304) (k' := 3) (j' := 22) (cn3 l Z a0 hw ([] : List Nat) 0 a158 (Int32.ofNat sv) h158 n0 G171.size (List.replicate (((own_one (Int32.ofNat sv) 0).length + (own_one (Int32.ofNat sv) 1).length + (own_one (Int32.ofNat sv) 2).length + (own_one (Int32.ofNat sv) 3).length + (own_one (Int32.ofNat sv) 4).length + (own_one (Int32.ofNat sv) 5).length)) (.int (0 : Int32))) ((own_one (Int32.ofNat sv) 0).length + (own_one (Int32.ofNat sv) 1).length + (own_one (Int32.ofNat sv) 2).length + (own_one (Int32.ofNat sv) 3).length + (own_one (Int32.ofNat sv) 4).length + (own_one (Int32.ofNat sv) 5).length) (by omega) (by decide) V158 (own_pre0 _) (by simp only [List.length_append, List.length_nil]; omega) g_a158) rfl (hw _ (List.mem_of_getElem? (i := 8) rfl)) (hw _ (List.mem_of_getElem? (i := 9) rfl)) (hw _ (List.mem_of_getElem? (i := 3) rfl)) (hw _ (List.mem_of_getElem? (i := 10) rfl)) (by decide) at_301 pd6 rfl (W := 0) rfl rfl (by decide) (by decide) (by decide) (by decide) rfl rfl rfl
    subst ev172
    have G172 := g172 [(.int (Int32.ofNat (([] : List Nat) ++ own_one (Int32.ofNat sv) 0).length))] rfl
    have V173 : Av Z h172 a38 .int [(.int (0 : Int32)), (.int (Int32.ofNat (([] : List Nat) ++ own_bits (Int32.ofNat A)).length)), (.int (Int32.ofNat ((([] : List Nat) ++ own_bits (Int32.ofNat A)) ++ own_bits (Int32.ofNat B)).length)), (.int (Int32.ofNat (((([] : List Nat) ++ own_bits (Int32.ofNat A)) ++ own_bits (Int32.ofNat B)) ++ own_bits (Int32.ofNat D)).length)), (.int (Int32.ofNat ((((([] : List Nat) ++ own_bits (Int32.ofNat A)) ++ own_bits (Int32.ofNat B)) ++ own_bits (Int32.ofNat D)) ++ own_bits (Int32.ofNat (7 - A))).length)), (.int (Int32.ofNat (((((([] : List Nat) ++ own_bits (Int32.ofNat A)) ++ own_bits (Int32.ofNat B)) ++ own_bits (Int32.ofNat D)) ++ own_bits (Int32.ofNat (7 - A))) ++ own_bits (Int32.ofNat (7 - B))).length)), (.int (Int32.ofNat ((((((([] : List Nat) ++ own_bits (Int32.ofNat A)) ++ own_bits (Int32.ofNat B)) ++ own_bits (Int32.ofNat D)) ++ own_bits (Int32.ofNat (7 - A))) ++ own_bits (Int32.ofNat (7 - B))) ++ own_bits (Int32.ofNat (7 - D))).length))] := V161.keep K172 (ninS ne159 nin0)
    have V174 : Av Z h172 a34 .int vs128 := V162.keep K172 (ninS ne160 nin0)
    have G175 := G172.istore (L' := #[.val (.int x0), .val (.int x1), .val (.int (Int32.ofNat A)), .val (.int (Int32.ofNat B)), .val (.int (Int32.ofNat D)), .val (.int (Int32.ofNat sv)), .val (.int zr), .val (.ref a34), .val (.ref a38), .val (.int (Int32.ofNat ((own_one (Int32.ofNat sv) 0).length + (own_one (Int32.ofNat sv) 1).length + (own_one (Int32.ofNat sv) 2).length + (own_one (Int32.ofNat sv) 3).length + (own_one (Int32.ofNat sv) 4).length + (own_one (Int32.ofNat sv) 5).length))), .val (.ref a158), .val (.int (Int32.ofNat (([] : List Nat) ++ own_one (Int32.ofNat sv) 0).length)), .unset, .unset]) (pc' := 306) at_304 rfl
    have G176 := G175.aload (v := (.ref a158)) (pc' := 308) at_306 rfl
    have G177 := G176.iload (v := (Int32.ofNat (([] : List Nat) ++ own_one (Int32.ofNat sv) 0).length)) (pc' := 310) at_308 rfl
    have G178 := G177.iload (v := (Int32.ofNat sv)) (pc' := 312) at_310 rfl
    have G179 := G178.iconst (v := (1 : Int32)) (pc' := 313) at_312
    obtain ⟨v180, h180, ⟨vs180, ev180, K180, V180, PR180⟩, g180⟩ := G179.callS (argsL := [(.ref a158), (.int (Int32.ofNat (([] : List Nat) ++ own_one (Int32.ofNat sv) 0).length)), (.int (Int32.ofNat sv)), (.int (1 : Int32))]) (rest := []) (pc' := 316) (k' := 3) (j' := 22) (cn3 l Z a0 hw (([] : List Nat) ++ own_one (Int32.ofNat sv) 0) 1 a158 (Int32.ofNat sv) h172 n0 G179.size vs172 ((own_one (Int32.ofNat sv) 0).length + (own_one (Int32.ofNat sv) 1).length + (own_one (Int32.ofNat sv) 2).length + (own_one (Int32.ofNat sv) 3).length + (own_one (Int32.ofNat sv) 4).length + (own_one (Int32.ofNat sv) 5).length) (by omega) (by decide) V172 PR172 (by simp only [List.length_append, List.length_nil]; omega) g_a158) rfl (hw _ (List.mem_of_getElem? (i := 8) rfl)) (hw _ (List.mem_of_getElem? (i := 9) rfl)) (hw _ (List.mem_of_getElem? (i := 3) rfl)) (hw _ (List.mem_of_getElem? (i := 10) rfl)) (by decide) at_313 pd6 rfl (W := 0) rfl rfl (by decide) (by decide) (by decide) (by decide) rfl rfl rfl
    subst ev180
    have G180 := g180 [(.int (Int32.ofNat ((([] : List Nat) ++ own_one (Int32.ofNat sv) 0) ++ own_one (Int32.ofNat sv) 1).length))] rfl
    have V181 : Av Z h180 a38 .int [(.int (0 : Int32)), (.int (Int32.ofNat (([] : List Nat) ++ own_bits (Int32.ofNat A)).length)), (.int (Int32.ofNat ((([] : List Nat) ++ own_bits (Int32.ofNat A)) ++ own_bits (Int32.ofNat B)).length)), (.int (Int32.ofNat (((([] : List Nat) ++ own_bits (Int32.ofNat A)) ++ own_bits (Int32.ofNat B)) ++ own_bits (Int32.ofNat D)).length)), (.int (Int32.ofNat ((((([] : List Nat) ++ own_bits (Int32.ofNat A)) ++ own_bits (Int32.ofNat B)) ++ own_bits (Int32.ofNat D)) ++ own_bits (Int32.ofNat (7 - A))).length)), (.int (Int32.ofNat (((((([] : List Nat) ++ own_bits (Int32.ofNat A)) ++ own_bits (Int32.ofNat B)) ++ own_bits (Int32.ofNat D)) ++ own_bits (Int32.ofNat (7 - A))) ++ own_bits (Int32.ofNat (7 - B))).length)), (.int (Int32.ofNat ((((((([] : List Nat) ++ own_bits (Int32.ofNat A)) ++ own_bits (Int32.ofNat B)) ++ own_bits (Int32.ofNat D)) ++ own_bits (Int32.ofNat (7 - A))) ++ own_bits (Int32.ofNat (7 - B))) ++ own_bits (Int32.ofNat (7 - D))).length))] := V173.keep K180 (ninS ne159 nin0)
    have V182 : Av Z h180 a34 .int vs128 := V174.keep K180 (ninS ne160 nin0)
    have G183 := G180.istore (L' := #[.val (.int x0), .val (.int x1), .val (.int (Int32.ofNat A)), .val (.int (Int32.ofNat B)), .val (.int (Int32.ofNat D)), .val (.int (Int32.ofNat sv)), .val (.int zr), .val (.ref a34), .val (.ref a38), .val (.int (Int32.ofNat ((own_one (Int32.ofNat sv) 0).length + (own_one (Int32.ofNat sv) 1).length + (own_one (Int32.ofNat sv) 2).length + (own_one (Int32.ofNat sv) 3).length + (own_one (Int32.ofNat sv) 4).length + (own_one (Int32.ofNat sv) 5).length))), .val (.ref a158), .val (.int (Int32.ofNat ((([] : List Nat) ++ own_one (Int32.ofNat sv) 0) ++ own_one (Int32.ofNat sv) 1).length)), .unset, .unset]) (pc' := 318) at_316 rfl
    have G184 := G183.aload (v := (.ref a158)) (pc' := 320) at_318 rfl
    have G185 := G184.iload (v := (Int32.ofNat ((([] : List Nat) ++ own_one (Int32.ofNat sv) 0) ++ own_one (Int32.ofNat sv) 1).length)) (pc' := 322) at_320 rfl
    have G186 := G185.iload (v := (Int32.ofNat sv)) (pc' := 324) at_322 rfl
    have G187 := G186.iconst (v := (2 : Int32)) (pc' := 325) at_324
    obtain ⟨v188, h188, ⟨vs188, ev188, K188, V188, PR188⟩, g188⟩ := G187.callS (argsL := [(.ref a158), (.int (Int32.ofNat ((([] : List Nat) ++ own_one (Int32.ofNat sv) 0) ++ own_one (Int32.ofNat sv) 1).length)), (.int (Int32.ofNat sv)), (.int (2 : Int32))]) (rest := []) (pc' := 328) (k' := 3) (j' := 22) (cn3 l Z a0 hw ((([] : List Nat) ++ own_one (Int32.ofNat sv) 0) ++ own_one (Int32.ofNat sv) 1) 2 a158 (Int32.ofNat sv) h180 n0 G187.size vs180 ((own_one (Int32.ofNat sv) 0).length + (own_one (Int32.ofNat sv) 1).length + (own_one (Int32.ofNat sv) 2).length + (own_one (Int32.ofNat sv) 3).length + (own_one (Int32.ofNat sv) 4).length + (own_one (Int32.ofNat sv) 5).length) (by omega) (by decide) V180 PR180 (by simp only [List.length_append, List.length_nil]; omega) g_a158) rfl (hw _ (List.mem_of_getElem? (i := 8) rfl)) (hw _ (List.mem_of_getElem? (i := 9) rfl)) (hw _ (List.mem_of_getElem? (i := 3) rfl)) (hw _ (List.mem_of_getElem? (i := 10) rfl)) (by decide) at_325 pd6 rfl (W := 0) rfl rfl (by decide) (by decide) (by decide) (by decide) rfl rfl rfl
    subst ev188
    have G188 := g188 [(.int (Int32.ofNat (((([] : List Nat) ++ own_one (Int32.ofNat sv) 0) ++ own_one (Int32.ofNat sv) 1) ++ own_one (Int32.ofNat sv) 2).length))] rfl
    have V189 : Av Z h188 a38 .int [(.int (0 : Int32)), (.int (Int32.ofNat (([] : List Nat) ++ own_bits (Int32.ofNat A)).length)), (.int (Int32.ofNat ((([] : List Nat) ++ own_bits (Int32.ofNat A)) ++ own_bits (Int32.ofNat B)).length)), (.int (Int32.ofNat (((([] : List Nat) ++ own_bits (Int32.ofNat A)) ++ own_bits (Int32.ofNat B)) ++ own_bits (Int32.ofNat D)).length)), (.int (Int32.ofNat ((((([] : List Nat) ++ own_bits (Int32.ofNat A)) ++ own_bits (Int32.ofNat B)) ++ own_bits (Int32.ofNat D)) ++ own_bits (Int32.ofNat (7 - A))).length)), (.int (Int32.ofNat (((((([] : List Nat) ++ own_bits (Int32.ofNat A)) ++ own_bits (Int32.ofNat B)) ++ own_bits (Int32.ofNat D)) ++ own_bits (Int32.ofNat (7 - A))) ++ own_bits (Int32.ofNat (7 - B))).length)), (.int (Int32.ofNat ((((((([] : List Nat) ++ own_bits (Int32.ofNat A)) ++ own_bits (Int32.ofNat B)) ++ own_bits (Int32.ofNat D)) ++ own_bits (Int32.ofNat (7 - A))) ++ own_bits (Int32.ofNat (7 - B))) ++ own_bits (Int32.ofNat (7 - D))).length))] := V181.keep K188 (ninS ne159 nin0)
    have V190 : Av Z h188 a34 .int vs128 := V182.keep K188 (ninS ne160 nin0)
    have G191 := G188.istore (L' := #[.val (.int x0), .val (.int x1), .val (.int (Int32.ofNat A)), .val (.int (Int32.ofNat B)), .val (.int (Int32.ofNat D)), .val (.int (Int32.ofNat sv)), .val (.int zr), .val (.ref a34), .val (.ref a38), .val (.int (Int32.ofNat ((own_one (Int32.ofNat sv) 0).length + (own_one (Int32.ofNat sv) 1).length + (own_one (Int32.ofNat sv) 2).length + (own_one (Int32.ofNat sv) 3).length + (own_one (Int32.ofNat sv) 4).length + (own_one (Int32.ofNat sv) 5).length))), .val (.ref a158), .val (.int (Int32.ofNat (((([] : List Nat) ++ own_one (Int32.ofNat sv) 0) ++ own_one (Int32.ofNat sv) 1) ++ own_one (Int32.ofNat sv) 2).length)), .unset, .unset]) (pc' := 330) at_328 rfl
    have G192 := G191.aload (v := (.ref a158)) (pc' := 332) at_330 rfl
    have G193 := G192.iload (v := (Int32.ofNat (((([] : List Nat) ++ own_one (Int32.ofNat sv) 0) ++ own_one (Int32.ofNat sv) 1) ++ own_one (Int32.ofNat sv) 2).length)) (pc' := 334) at_332 rfl
    have G194 := G193.iload (v := (Int32.ofNat sv)) (pc' := 336) at_334 rfl
    have G195 := G194.iconst (v := (3 : Int32)) (pc' := 337) at_336
    obtain ⟨v196, h196, ⟨vs196, ev196, K196, V196, PR196⟩, g196⟩ := G195.callS (argsL := [(.ref a158), (.int (Int32.ofNat (((([] : List Nat) ++ own_one (Int32.ofNat sv) 0) ++ own_one (Int32.ofNat sv) 1) ++ own_one (Int32.ofNat sv) 2).length)), (.int (Int32.ofNat sv)), (.int (3 : Int32))]) (rest := []) (pc' := 340) (k' := 3) (j' := 22) (cn3 l Z a0 hw (((([] : List Nat) ++ own_one (Int32.ofNat sv) 0) ++ own_one (Int32.ofNat sv) 1) ++ own_one (Int32.ofNat sv) 2) 3 a158 (Int32.ofNat sv) h188 n0 G195.size vs188 ((own_one (Int32.ofNat sv) 0).length + (own_one (Int32.ofNat sv) 1).length + (own_one (Int32.ofNat sv) 2).length + (own_one (Int32.ofNat sv) 3).length + (own_one (Int32.ofNat sv) 4).length + (own_one (Int32.ofNat sv) 5).length) (by omega) (by decide) V188 PR188 (by simp only [List.length_append, List.length_nil]; omega) g_a158) rfl (hw _ (List.mem_of_getElem? (i := 8) rfl)) (hw _ (List.mem_of_getElem? (i := 9) rfl)) (hw _ (List.mem_of_getElem? (i := 3) rfl)) (hw _ (List.mem_of_getElem? (i := 10) rfl)) (by decide) at_337 pd6 rfl (W := 0) rfl rfl (by decide) (by decide) (by decide) (by decide) rfl rfl rfl
    subst ev196
    have G196 := g196 [(.int (Int32.ofNat ((((([] : List Nat) ++ own_one (Int32.ofNat sv) 0) ++ own_one (Int32.ofNat sv) 1) ++ own_one (Int32.ofNat sv) 2) ++ own_one (Int32.ofNat sv) 3).length))] rfl
    have V197 : Av Z h196 a38 .int [(.int (0 : Int32)), (.int (Int32.ofNat (([] : List Nat) ++ own_bits (Int32.ofNat A)).length)), (.int (Int32.ofNat ((([] : List Nat) ++ own_bits (Int32.ofNat A)) ++ own_bits (Int32.ofNat B)).length)), (.int (Int32.ofNat (((([] : List Nat) ++ own_bits (Int32.ofNat A)) ++ own_bits (Int32.ofNat B)) ++ own_bits (Int32.ofNat D)).length)), (.int (Int32.ofNat ((((([] : List Nat) ++ own_bits (Int32.ofNat A)) ++ own_bits (Int32.ofNat B)) ++ own_bits (Int32.ofNat D)) ++ own_bits (Int32.ofNat (7 - A))).length)), (.int (Int32.ofNat (((((([] : List Nat) ++ own_bits (Int32.ofNat A)) ++ own_bits (Int32.ofNat B)) ++ own_bits (Int32.ofNat D)) ++ own_bits (Int32.ofNat (7 - A))) ++ own_bits (Int32.ofNat (7 - B))).length)), (.int (Int32.ofNat ((((((([] : List Nat) ++ own_bits (Int32.ofNat A)) ++ own_bits (Int32.ofNat B)) ++ own_bits (Int32.ofNat D)) ++ own_bits (Int32.ofNat (7 - A))) ++ own_bits (Int32.ofNat (7 - B))) ++ own_bits (Int32.ofNat (7 - D))).length))] := V189.keep K196 (ninS ne159 nin0)
    have V198 : Av Z h196 a34 .int vs128 := V190.keep K196 (ninS ne160 nin0)
    have G199 := G196.istore (L' := #[.val (.int x0), .val (.int x1), .val (.int (Int32.ofNat A)), .val (.int (Int32.ofNat B)), .val (.int (Int32.ofNat D)), .val (.int (Int32.ofNat sv)), .val (.int zr), .val (.ref a34), .val (.ref a38), .val (.int (Int32.ofNat ((own_one (Int32.ofNat sv) 0).length + (own_one (Int32.ofNat sv) 1).length + (own_one (Int32.ofNat sv) 2).length + (own_one (Int32.ofNat sv) 3).length + (own_one (Int32.ofNat sv) 4).length + (own_one (Int32.ofNat sv) 5).length))), .val (.ref a158), .val (.int (Int32.ofNat ((((([] : List Nat) ++ own_one (Int32.ofNat sv) 0) ++ own_one (Int32.ofNat sv) 1) ++ own_one (Int32.ofNat sv) 2) ++ own_one (Int32.ofNat sv) 3).length)), .unset, .unset]) (pc' := 342) at_340 rfl
    have G200 := G199.aload (v := (.ref a158)) (pc' := 344) at_342 rfl
    have G201 := G200.iload (v := (Int32.ofNat ((((([] : List Nat) ++ own_one (Int32.ofNat sv) 0) ++ own_one (Int32.ofNat sv) 1) ++ own_one (Int32.ofNat sv) 2) ++ own_one (Int32.ofNat sv) 3).length)) (pc' := 346) at_344 rfl
    have G202 := G201.iload (v := (Int32.ofNat sv)) (pc' := 348) at_346 rfl
    have G203 := G202.iconst (v := (4 : Int32)) (pc' := 349) at_348
    obtain ⟨v204, h204, ⟨vs204, ev204, K204, V204, PR204⟩, g204⟩ := G203.callS (argsL := [(.ref a158), (.int (Int32.ofNat ((((([] : List Nat) ++ own_one (Int32.ofNat sv) 0) ++ own_one (Int32.ofNat sv) 1) ++ own_one (Int32.ofNat sv) 2) ++ own_one (Int32.ofNat sv) 3).length)), (.int (Int32.ofNat sv)), (.int (4 : Int32))]) (rest := []) (pc' := 352) (k' := 3) (j' := 22) (cn3 l Z a0 hw ((((([] : List Nat) ++ own_one (Int32.ofNat sv) 0) ++ own_one (Int32.ofNat sv) 1) ++ own_one (Int32.ofNat sv) 2) ++ own_one (Int32.ofNat sv) 3) 4 a158 (Int32.ofNat sv) h196 n0 G203.size vs196 ((own_one (Int32.ofNat sv) 0).length + (own_one (Int32.ofNat sv) 1).length + (own_one (Int32.ofNat sv) 2).length + (own_one (Int32.ofNat sv) 3).length + (own_one (Int32.ofNat sv) 4).length + (own_one (Int32.ofNat sv) 5).length) (by omega) (by decide) V196 PR196 (by simp only [List.length_append, List.length_nil]; omega) g_a158) rfl (hw _ (List.mem_of_getElem? (i := 8) rfl)) (hw _ (List.mem_of_getElem? (i := 9) rfl)) (hw _ (List.mem_of_getElem? (i := 3) rfl)) (hw _ (List.mem_of_getElem? (i := 10) rfl)) (by decide) at_349 pd6 rfl (W := 0) rfl rfl (by decide) (by decide) (by decide) (by decide) rfl rfl rfl
    subst ev204
    have G204 := g204 [(.int (Int32.ofNat (((((([] : List Nat) ++ own_one (Int32.ofNat sv) 0) ++ own_one (Int32.ofNat sv) 1) ++ own_one (Int32.ofNat sv) 2) ++ own_one (Int32.ofNat sv) 3) ++ own_one (Int32.ofNat sv) 4).length))] rfl
    have V205 : Av Z h204 a38 .int [(.int (0 : Int32)), (.int (Int32.ofNat (([] : List Nat) ++ own_bits (Int32.ofNat A)).length)), (.int (Int32.ofNat ((([] : List Nat) ++ own_bits (Int32.ofNat A)) ++ own_bits (Int32.ofNat B)).length)), (.int (Int32.ofNat (((([] : List Nat) ++ own_bits (Int32.ofNat A)) ++ own_bits (Int32.ofNat B)) ++ own_bits (Int32.ofNat D)).length)), (.int (Int32.ofNat ((((([] : List Nat) ++ own_bits (Int32.ofNat A)) ++ own_bits (Int32.ofNat B)) ++ own_bits (Int32.ofNat D)) ++ own_bits (Int32.ofNat (7 - A))).length)), (.int (Int32.ofNat (((((([] : List Nat) ++ own_bits (Int32.ofNat A)) ++ own_bits (Int32.ofNat B)) ++ own_bits (Int32.ofNat D)) ++ own_bits (Int32.ofNat (7 - A))) ++ own_bits (Int32.ofNat (7 - B))).length)), (.int (Int32.ofNat ((((((([] : List Nat) ++ own_bits (Int32.ofNat A)) ++ own_bits (Int32.ofNat B)) ++ own_bits (Int32.ofNat D)) ++ own_bits (Int32.ofNat (7 - A))) ++ own_bits (Int32.ofNat (7 - B))) ++ own_bits (Int32.ofNat (7 - D))).length))] := V197.keep K204 (ninS ne159 nin0)
    have V206 : Av Z h204 a34 .int vs128 := V198.keep K204 (ninS ne160 nin0)
    have G207 := G204.istore (L' := #[.val (.int x0), .val (.int x1), .val (.int (Int32.ofNat A)), .val (.int (Int32.ofNat B)), .val (.int (Int32.ofNat D)), .val (.int (Int32.ofNat sv)), .val (.int zr), .val (.ref a34), .val (.ref a38), .val (.int (Int32.ofNat ((own_one (Int32.ofNat sv) 0).length + (own_one (Int32.ofNat sv) 1).length + (own_one (Int32.ofNat sv) 2).length + (own_one (Int32.ofNat sv) 3).length + (own_one (Int32.ofNat sv) 4).length + (own_one (Int32.ofNat sv) 5).length))), .val (.ref a158), .val (.int (Int32.ofNat (((((([] : List Nat) ++ own_one (Int32.ofNat sv) 0) ++ own_one (Int32.ofNat sv) 1) ++ own_one (Int32.ofNat sv) 2) ++ own_one (Int32.ofNat sv) 3) ++ own_one (Int32.ofNat sv) 4).length)), .unset, .unset]) (pc' := 354) at_352 rfl
    have G208 := G207.aload (v := (.ref a158)) (pc' := 356) at_354 rfl
    have G209 := G208.iload (v := (Int32.ofNat (((((([] : List Nat) ++ own_one (Int32.ofNat sv) 0) ++ own_one (Int32.ofNat sv) 1) ++ own_one (Int32.ofNat sv) 2) ++ own_one (Int32.ofNat sv) 3) ++ own_one (Int32.ofNat sv) 4).length)) (pc' := 358) at_356 rfl
    have G210 := G209.iload (v := (Int32.ofNat sv)) (pc' := 360) at_358 rfl
    have G211 := G210.iconst (v := (5 : Int32)) (pc' := 361) at_360
    obtain ⟨v212, h212, ⟨vs212, ev212, K212, V212, PR212⟩, g212⟩ := G211.callS (argsL := [(.ref a158), (.int (Int32.ofNat (((((([] : List Nat) ++ own_one (Int32.ofNat sv) 0) ++ own_one (Int32.ofNat sv) 1) ++ own_one (Int32.ofNat sv) 2) ++ own_one (Int32.ofNat sv) 3) ++ own_one (Int32.ofNat sv) 4).length)), (.int (Int32.ofNat sv)), (.int (5 : Int32))]) (rest := []) (pc' := 364) (k' := 3) (j' := 22) (cn3 l Z a0 hw (((((([] : List Nat) ++ own_one (Int32.ofNat sv) 0) ++ own_one (Int32.ofNat sv) 1) ++ own_one (Int32.ofNat sv) 2) ++ own_one (Int32.ofNat sv) 3) ++ own_one (Int32.ofNat sv) 4) 5 a158 (Int32.ofNat sv) h204 n0 G211.size vs204 ((own_one (Int32.ofNat sv) 0).length + (own_one (Int32.ofNat sv) 1).length + (own_one (Int32.ofNat sv) 2).length + (own_one (Int32.ofNat sv) 3).length + (own_one (Int32.ofNat sv) 4).length + (own_one (Int32.ofNat sv) 5).length) (by omega) (by decide) V204 PR204 (by simp only [List.length_append, List.length_nil]; omega) g_a158) rfl (hw _ (List.mem_of_getElem? (i := 8) rfl)) (hw _ (List.mem_of_getElem? (i := 9) rfl)) (hw _ (List.mem_of_getElem? (i := 3) rfl)) (hw _ (List.mem_of_getElem? (i := 10) rfl)) (by decide) at_361 pd6 rfl (W := 0) rfl rfl (by decide) (by decide) (by decide) (by decide) rfl rfl rfl
    subst ev212
    have G212 := g212 [(.int (Int32.ofNat ((((((([] : List Nat) ++ own_one (Int32.ofNat sv) 0) ++ own_one (Int32.ofNat sv) 1) ++ own_one (Int32.ofNat sv) 2) ++ own_one (Int32.ofNat sv) 3) ++ own_one (Int32.ofNat sv) 4) ++ own_one (Int32.ofNat sv) 5).length))] rfl
    have V213 : Av Z h212 a38 .int [(.int (0 : Int32)), (.int (Int32.ofNat (([] : List Nat) ++ own_bits (Int32.ofNat A)).length)), (.int (Int32.ofNat ((([] : List Nat) ++ own_bits (Int32.ofNat A)) ++ own_bits (Int32.ofNat B)).length)), (.int (Int32.ofNat (((([] : List Nat) ++ own_bits (Int32.ofNat A)) ++ own_bits (Int32.ofNat B)) ++ own_bits (Int32.ofNat D)).length)), (.int (Int32.ofNat ((((([] : List Nat) ++ own_bits (Int32.ofNat A)) ++ own_bits (Int32.ofNat B)) ++ own_bits (Int32.ofNat D)) ++ own_bits (Int32.ofNat (7 - A))).length)), (.int (Int32.ofNat (((((([] : List Nat) ++ own_bits (Int32.ofNat A)) ++ own_bits (Int32.ofNat B)) ++ own_bits (Int32.ofNat D)) ++ own_bits (Int32.ofNat (7 - A))) ++ own_bits (Int32.ofNat (7 - B))).length)), (.int (Int32.ofNat ((((((([] : List Nat) ++ own_bits (Int32.ofNat A)) ++ own_bits (Int32.ofNat B)) ++ own_bits (Int32.ofNat D)) ++ own_bits (Int32.ofNat (7 - A))) ++ own_bits (Int32.ofNat (7 - B))) ++ own_bits (Int32.ofNat (7 - D))).length))] := V205.keep K212 (ninS ne159 nin0)
    have V214 : Av Z h212 a34 .int vs128 := V206.keep K212 (ninS ne160 nin0)
    have G215 := G212.istore (L' := #[.val (.int x0), .val (.int x1), .val (.int (Int32.ofNat A)), .val (.int (Int32.ofNat B)), .val (.int (Int32.ofNat D)), .val (.int (Int32.ofNat sv)), .val (.int zr), .val (.ref a34), .val (.ref a38), .val (.int (Int32.ofNat ((own_one (Int32.ofNat sv) 0).length + (own_one (Int32.ofNat sv) 1).length + (own_one (Int32.ofNat sv) 2).length + (own_one (Int32.ofNat sv) 3).length + (own_one (Int32.ofNat sv) 4).length + (own_one (Int32.ofNat sv) 5).length))), .val (.ref a158), .val (.int (Int32.ofNat ((((((([] : List Nat) ++ own_one (Int32.ofNat sv) 0) ++ own_one (Int32.ofNat sv) 1) ++ own_one (Int32.ofNat sv) 2) ++ own_one (Int32.ofNat sv) 3) ++ own_one (Int32.ofNat sv) 4) ++ own_one (Int32.ofNat sv) 5).length)), .unset, .unset]) (pc' := 366) at_364 rfl
    obtain ⟨a216, h216, ea216, g_a216, X216, E216, D216, G216⟩ := G215.newO (pc' := 369) (k' := 4) (j' := 27) (hw _ (List.mem_of_getElem? (i := 11) rfl)) (hw _ (List.mem_of_getElem? (i := 12) rfl)) (hw _ (List.mem_of_getElem? (i := 13) rfl)) at_366 rfl rfl rfl (by decide) (by decide)
    have ne217 : a38 ≠ a216 := by rw [ea216]; exact Nat.ne_of_lt V213.lt
    have ne218 : a34 ≠ a216 := by rw [ea216]; exact Nat.ne_of_lt V214.lt
    have ne219 : a158 ≠ a216 := by rw [ea216]; exact Nat.ne_of_lt V212.lt
    have V220 : Av Z h216 a38 .int [(.int (0 : Int32)), (.int (Int32.ofNat (([] : List Nat) ++ own_bits (Int32.ofNat A)).length)), (.int (Int32.ofNat ((([] : List Nat) ++ own_bits (Int32.ofNat A)) ++ own_bits (Int32.ofNat B)).length)), (.int (Int32.ofNat (((([] : List Nat) ++ own_bits (Int32.ofNat A)) ++ own_bits (Int32.ofNat B)) ++ own_bits (Int32.ofNat D)).length)), (.int (Int32.ofNat ((((([] : List Nat) ++ own_bits (Int32.ofNat A)) ++ own_bits (Int32.ofNat B)) ++ own_bits (Int32.ofNat D)) ++ own_bits (Int32.ofNat (7 - A))).length)), (.int (Int32.ofNat (((((([] : List Nat) ++ own_bits (Int32.ofNat A)) ++ own_bits (Int32.ofNat B)) ++ own_bits (Int32.ofNat D)) ++ own_bits (Int32.ofNat (7 - A))) ++ own_bits (Int32.ofNat (7 - B))).length)), (.int (Int32.ofNat ((((((([] : List Nat) ++ own_bits (Int32.ofNat A)) ++ own_bits (Int32.ofNat B)) ++ own_bits (Int32.ofNat D)) ++ own_bits (Int32.ofNat (7 - A))) ++ own_bits (Int32.ofNat (7 - B))) ++ own_bits (Int32.ofNat (7 - D))).length))] := V213.ext X216
    have V221 : Av Z h216 a34 .int vs128 := V214.ext X216
    have V222 : Av Z h216 a158 .int vs212 := V212.ext X216
    have F223 : Fld Z h216 a216 "com/example/rhumb/rhumb/InstanceTags" "tagCount" "I" (.int (0 : Int32)) := D216 (Or.inr (hw _ (List.mem_of_getElem? (i := 24) rfl))) (ty := .int) (by decide)
    have F224 : Fld Z h216 a216 "com/example/rhumb/rhumb/InstanceTags" "tagStart" "[I" .null := D216 (Or.inr (hw _ (List.mem_of_getElem? (i := 26) rfl))) (ty := (.array .int)) (by decide)
    have F225 : Fld Z h216 a216 "com/example/rhumb/rhumb/InstanceTags" "tagIds" "[I" .null := D216 (Or.inr (hw _ (List.mem_of_getElem? (i := 28) rfl))) (ty := (.array .int)) (by decide)
    have F226 : Fld Z h216 a216 "com/example/rhumb/rhumb/InstanceTags" "instanceStart" "[I" .null := D216 (Or.inr (hw _ (List.mem_of_getElem? (i := 30) rfl))) (ty := (.array .int)) (by decide)
    have F227 : Fld Z h216 a216 "com/example/rhumb/rhumb/InstanceTags" "instanceIds" "[I" .null := D216 (Or.inr (hw _ (List.mem_of_getElem? (i := 32) rfl))) (ty := (.array .int)) (by decide)
    have G228 := G216.dup (pc' := 370) at_369
    have G229 := G228.iconst (v := (3 : Int32)) (pc' := 371) at_370
    have G230 := G229.aload (v := (.ref a38)) (pc' := 373) at_371 rfl
    have G231 := G230.aload (v := (.ref a34)) (pc' := 375) at_373 rfl
    obtain ⟨v232, h232, ⟨ca, vC, ev232, K232, szc, EN, FN1, FN2, FN3, FN4, VCN, ACN⟩, g232⟩ := G231.callI (argsL := [(.int (3 : Int32)), (.ref a38), (.ref a34)]) (rest := [(.ref a216)]) (pc' := 378) (k' := 7) (j' := 56) (cn4 l Z a0 hw 3 a216 a38 a34 h216 n0 G231.size 6 (own_L A B D).length (own_S A B D) (fun i => (own_L A B D).getD i 0) (own_HH A B D hA hB hD) [(.int (0 : Int32)), (.int (Int32.ofNat (([] : List Nat) ++ own_bits (Int32.ofNat A)).length)), (.int (Int32.ofNat ((([] : List Nat) ++ own_bits (Int32.ofNat A)) ++ own_bits (Int32.ofNat B)).length)), (.int (Int32.ofNat (((([] : List Nat) ++ own_bits (Int32.ofNat A)) ++ own_bits (Int32.ofNat B)) ++ own_bits (Int32.ofNat D)).length)), (.int (Int32.ofNat ((((([] : List Nat) ++ own_bits (Int32.ofNat A)) ++ own_bits (Int32.ofNat B)) ++ own_bits (Int32.ofNat D)) ++ own_bits (Int32.ofNat (7 - A))).length)), (.int (Int32.ofNat (((((([] : List Nat) ++ own_bits (Int32.ofNat A)) ++ own_bits (Int32.ofNat B)) ++ own_bits (Int32.ofNat D)) ++ own_bits (Int32.ofNat (7 - A))) ++ own_bits (Int32.ofNat (7 - B))).length)), (.int (Int32.ofNat ((((((([] : List Nat) ++ own_bits (Int32.ofNat A)) ++ own_bits (Int32.ofNat B)) ++ own_bits (Int32.ofNat D)) ++ own_bits (Int32.ofNat (7 - A))) ++ own_bits (Int32.ofNat (7 - B))) ++ own_bits (Int32.ofNat (7 - D))).length))] vs128 E216 F223 F224 F225 F226 F227 V220 (own_AS A B D) V221 (own_preA (L := own_L A B D) (by rw [own_l9 A B D hA hB hD]; exact PR128)) g_a216 ne217 ne218   ) rfl rfl (hw _ (List.mem_of_getElem? (i := 14) rfl)) (hw _ (List.mem_of_getElem? (i := 15) rfl)) (hw _ (List.mem_of_getElem? (i := 13) rfl)) (hw _ (List.mem_of_getElem? (i := 16) rfl)) (by decide) at_375 pd3 rfl (W := 1) rfl rfl (by decide) (by decide) (by decide) (by decide) rfl rfl rfl
    subst ev232
    have G232 := g232 [(.ref a216)] rfl
    have g_ca : n0 ≤ ca := Nat.le_trans G231.size szc
    have ne233 : a38 ≠ ca := Nat.ne_of_lt (Nat.lt_of_lt_of_le V220.lt szc)
    have ne234 : a34 ≠ ca := Nat.ne_of_lt (Nat.lt_of_lt_of_le V221.lt szc)
    have ne235 : a158 ≠ ca := Nat.ne_of_lt (Nat.lt_of_lt_of_le V222.lt szc)
    have ne236 : a216 ≠ ca := Nat.ne_of_lt (Nat.lt_of_lt_of_le E216.lt szc)
    have V237 : Av Z h232 a38 .int [(.int (0 : Int32)), (.int (Int32.ofNat (([] : List Nat) ++ own_bits (Int32.ofNat A)).length)), (.int (Int32.ofNat ((([] : List Nat) ++ own_bits (Int32.ofNat A)) ++ own_bits (Int32.ofNat B)).length)), (.int (Int32.ofNat (((([] : List Nat) ++ own_bits (Int32.ofNat A)) ++ own_bits (Int32.ofNat B)) ++ own_bits (Int32.ofNat D)).length)), (.int (Int32.ofNat ((((([] : List Nat) ++ own_bits (Int32.ofNat A)) ++ own_bits (Int32.ofNat B)) ++ own_bits (Int32.ofNat D)) ++ own_bits (Int32.ofNat (7 - A))).length)), (.int (Int32.ofNat (((((([] : List Nat) ++ own_bits (Int32.ofNat A)) ++ own_bits (Int32.ofNat B)) ++ own_bits (Int32.ofNat D)) ++ own_bits (Int32.ofNat (7 - A))) ++ own_bits (Int32.ofNat (7 - B))).length)), (.int (Int32.ofNat ((((((([] : List Nat) ++ own_bits (Int32.ofNat A)) ++ own_bits (Int32.ofNat B)) ++ own_bits (Int32.ofNat D)) ++ own_bits (Int32.ofNat (7 - A))) ++ own_bits (Int32.ofNat (7 - B))) ++ own_bits (Int32.ofNat (7 - D))).length))] := V220.keep K232 (ninS ne217 nin0)
    have V238 : Av Z h232 a34 .int vs128 := V221.keep K232 (ninS ne218 nin0)
    have V239 : Av Z h232 a158 .int vs212 := V222.keep K232 (ninS ne219 nin0)
    have E240 : Exa Z h232 a216 "com/example/rhumb/rhumb/InstanceTags" := E216.keep K232
    have G241 := G232.astore (L' := #[.val (.int x0), .val (.int x1), .val (.int (Int32.ofNat A)), .val (.int (Int32.ofNat B)), .val (.int (Int32.ofNat D)), .val (.int (Int32.ofNat sv)), .val (.int zr), .val (.ref a34), .val (.ref a38), .val (.int (Int32.ofNat ((own_one (Int32.ofNat sv) 0).length + (own_one (Int32.ofNat sv) 1).length + (own_one (Int32.ofNat sv) 2).length + (own_one (Int32.ofNat sv) 3).length + (own_one (Int32.ofNat sv) 4).length + (own_one (Int32.ofNat sv) 5).length))), .val (.ref a158), .val (.int (Int32.ofNat ((((((([] : List Nat) ++ own_one (Int32.ofNat sv) 0) ++ own_one (Int32.ofNat sv) 1) ++ own_one (Int32.ofNat sv) 2) ++ own_one (Int32.ofNat sv) 3) ++ own_one (Int32.ofNat sv) 4) ++ own_one (Int32.ofNat sv) 5).length)), .val (.ref a216), .unset]) (pc' := 380) at_378 rfl
    have G242 := G241.aload (v := (.ref a216)) (pc' := 382) at_380 rfl
    have G243 := G242.aload (v := (.ref a158)) (pc' := 384) at_382 rfl
    obtain ⟨v244, h244, ⟨ra, vr, ev244, K244, szr, VR, AR⟩, g244⟩ := G243.callV (argsL := [(.ref a158)]) (rest := []) (pc' := 387) (k' := 8) (j' := 60) (cn11 l Z a0 hw a216 a158 h232 n0 G243.size 3 6 (own_L A B D).length (own_S A B D) (fun i => (own_L A B D).getD i 0) (own_HH A B D hA hB hD) a38 a34 [(.int (0 : Int32)), (.int (Int32.ofNat (([] : List Nat) ++ own_bits (Int32.ofNat A)).length)), (.int (Int32.ofNat ((([] : List Nat) ++ own_bits (Int32.ofNat A)) ++ own_bits (Int32.ofNat B)).length)), (.int (Int32.ofNat (((([] : List Nat) ++ own_bits (Int32.ofNat A)) ++ own_bits (Int32.ofNat B)) ++ own_bits (Int32.ofNat D)).length)), (.int (Int32.ofNat ((((([] : List Nat) ++ own_bits (Int32.ofNat A)) ++ own_bits (Int32.ofNat B)) ++ own_bits (Int32.ofNat D)) ++ own_bits (Int32.ofNat (7 - A))).length)), (.int (Int32.ofNat (((((([] : List Nat) ++ own_bits (Int32.ofNat A)) ++ own_bits (Int32.ofNat B)) ++ own_bits (Int32.ofNat D)) ++ own_bits (Int32.ofNat (7 - A))) ++ own_bits (Int32.ofNat (7 - B))).length)), (.int (Int32.ofNat ((((((([] : List Nat) ++ own_bits (Int32.ofNat A)) ++ own_bits (Int32.ofNat B)) ++ own_bits (Int32.ofNat D)) ++ own_bits (Int32.ofNat (7 - A))) ++ own_bits (Int32.ofNat (7 - B))) ++ own_bits (Int32.ofNat (7 - D))).length))] vs128 vs212 FN2 FN3 V237 (own_AS A B D) V238 (own_preA (L := own_L A B D) (by rw [own_l9 A B D hA hB hD]; exact PR128)) V239 ((((((([] : List Nat) ++ own_one (Int32.ofNat sv) 0) ++ own_one (Int32.ofNat sv) 1) ++ own_one (Int32.ofNat sv) 2) ++ own_one (Int32.ofNat sv) 3) ++ own_one (Int32.ofNat sv) 4) ++ own_one (Int32.ofNat sv) 5).length (by simp only [List.length_append, List.length_nil]; omega) (fun j => ((((((([] : List Nat) ++ own_one (Int32.ofNat sv) 0) ++ own_one (Int32.ofNat sv) 1) ++ own_one (Int32.ofNat sv) 2) ++ own_one (Int32.ofNat sv) 3) ++ own_one (Int32.ofNat sv) 4) ++ own_one (Int32.ofNat sv) 5).getD j 0) (own_preA (by have z := PR212; rw [show ((own_one (Int32.ofNat sv) 0).length + (own_one (Int32.ofNat sv) 1).length + (own_one (Int32.ofNat sv) 2).length + (own_one (Int32.ofNat sv) 3).length + (own_one (Int32.ofNat sv) 4).length + (own_one (Int32.ofNat sv) 5).length) = ((((((([] : List Nat) ++ own_one (Int32.ofNat sv) 0) ++ own_one (Int32.ofNat sv) 1) ++ own_one (Int32.ofNat sv) 2) ++ own_one (Int32.ofNat sv) 3) ++ own_one (Int32.ofNat sv) 4) ++ own_one (Int32.ofNat sv) 5).length by simp only [List.length_append, List.length_nil]; omega] at z; exact z)) (own_gd _ (own_x0 sv)) FN1) rfl EN (hw _ (List.mem_of_getElem? (i := 54) rfl)) (hw _ (List.mem_of_getElem? (i := 55) rfl)) (hw _ (List.mem_of_getElem? (i := 57) rfl)) (hw _ (List.mem_of_getElem? (i := 56) rfl)) (hw _ (List.mem_of_getElem? (i := 13) rfl)) (hw _ (List.mem_of_getElem? (i := 58) rfl)) (by decide) at_384 pd7 rfl (W := 0) rfl rfl (by decide) (by decide) (by decide) (by decide) rfl rfl rfl
    subst ev244
    have G244 := g244 [(.ref ra)] rfl
    have ne245 : a38 ≠ ra := Nat.ne_of_lt (Nat.lt_of_lt_of_le V237.lt szr)
    have ne246 : a34 ≠ ra := Nat.ne_of_lt (Nat.lt_of_lt_of_le V238.lt szr)
    have ne247 : a158 ≠ ra := Nat.ne_of_lt (Nat.lt_of_lt_of_le V239.lt szr)
    have ne248 : a216 ≠ ra := Nat.ne_of_lt (Nat.lt_of_lt_of_le EN.lt szr)
    have ne249 : ca ≠ ra := Nat.ne_of_lt (Nat.lt_of_lt_of_le VCN.lt szr)
    have V250 : Av Z h244 a38 .int [(.int (0 : Int32)), (.int (Int32.ofNat (([] : List Nat) ++ own_bits (Int32.ofNat A)).length)), (.int (Int32.ofNat ((([] : List Nat) ++ own_bits (Int32.ofNat A)) ++ own_bits (Int32.ofNat B)).length)), (.int (Int32.ofNat (((([] : List Nat) ++ own_bits (Int32.ofNat A)) ++ own_bits (Int32.ofNat B)) ++ own_bits (Int32.ofNat D)).length)), (.int (Int32.ofNat ((((([] : List Nat) ++ own_bits (Int32.ofNat A)) ++ own_bits (Int32.ofNat B)) ++ own_bits (Int32.ofNat D)) ++ own_bits (Int32.ofNat (7 - A))).length)), (.int (Int32.ofNat (((((([] : List Nat) ++ own_bits (Int32.ofNat A)) ++ own_bits (Int32.ofNat B)) ++ own_bits (Int32.ofNat D)) ++ own_bits (Int32.ofNat (7 - A))) ++ own_bits (Int32.ofNat (7 - B))).length)), (.int (Int32.ofNat ((((((([] : List Nat) ++ own_bits (Int32.ofNat A)) ++ own_bits (Int32.ofNat B)) ++ own_bits (Int32.ofNat D)) ++ own_bits (Int32.ofNat (7 - A))) ++ own_bits (Int32.ofNat (7 - B))) ++ own_bits (Int32.ofNat (7 - D))).length))] := V237.keep K244 nin0
    have V251 : Av Z h244 a34 .int vs128 := V238.keep K244 nin0
    have V252 : Av Z h244 a158 .int vs212 := V239.keep K244 nin0
    have E253 : Exa Z h244 a216 "com/example/rhumb/rhumb/InstanceTags" := EN.keep K244
    have F254 : Fld Z h244 a216 "com/example/rhumb/rhumb/InstanceTags" "tagCount" "I" (.int (Int32.ofNat 3)) := FN1.keep K244 nin0
    have F255 : Fld Z h244 a216 "com/example/rhumb/rhumb/InstanceTags" "tagStart" "[I" (.ref a38) := FN2.keep K244 nin0
    have F256 : Fld Z h244 a216 "com/example/rhumb/rhumb/InstanceTags" "tagIds" "[I" (.ref a34) := FN3.keep K244 nin0
    have F257 : Fld Z h244 a216 "com/example/rhumb/rhumb/InstanceTags" "instanceStart" "[I" (.ref ca) := FN4.keep K244 nin0
    have V258 : Av Z h244 ca .int vC := VCN.keep K244 nin0
    have G259 := G244.astore (L' := #[.val (.int x0), .val (.int x1), .val (.int (Int32.ofNat A)), .val (.int (Int32.ofNat B)), .val (.int (Int32.ofNat D)), .val (.int (Int32.ofNat sv)), .val (.int zr), .val (.ref a34), .val (.ref a38), .val (.int (Int32.ofNat ((own_one (Int32.ofNat sv) 0).length + (own_one (Int32.ofNat sv) 1).length + (own_one (Int32.ofNat sv) 2).length + (own_one (Int32.ofNat sv) 3).length + (own_one (Int32.ofNat sv) 4).length + (own_one (Int32.ofNat sv) 5).length))), .val (.ref a158), .val (.int (Int32.ofNat ((((((([] : List Nat) ++ own_one (Int32.ofNat sv) 0) ++ own_one (Int32.ofNat sv) 1) ++ own_one (Int32.ofNat sv) 2) ++ own_one (Int32.ofNat sv) 3) ++ own_one (Int32.ofNat sv) 4) ++ own_one (Int32.ofNat sv) 5).length)), .val (.ref a216), .val (.ref ra)]) (pc' := 389) at_387 rfl
    have G260 := G259.aload (v := (.ref ra)) (pc' := 391) at_389 rfl
    have G261 := G260.arrlen (pc' := 392) (v := (Int32.ofNat 3)) VR (by rw [AR.1]; decide) at_391
    have G262 := G261.iconst (v := (3 : Int32)) (pc' := 393) at_392
    have G263 := G262.icmpY at_393 398 (Jvm.Free.XT.ii_eq_t rfl)
    have G264 := G263.aload (v := (.ref ra)) (pc' := 400) at_398 rfl
    have G265 := G264.iconst (v := (0 : Int32)) (pc' := 401) at_400
    have G266 := G265.ldI (i := 0) (v := (.int (Int32.ofNat (own_mc (fun i => (own_L A B D).getD i 0) (own_S A B D) (fun j => ((((((([] : List Nat) ++ own_one (Int32.ofNat sv) 0) ++ own_one (Int32.ofNat sv) 1) ++ own_one (Int32.ofNat sv) 2) ++ own_one (Int32.ofNat sv) 3) ++ own_one (Int32.ofNat sv) 4) ++ own_one (Int32.ofNat sv) 5).getD j 0) ((((((([] : List Nat) ++ own_one (Int32.ofNat sv) 0) ++ own_one (Int32.ofNat sv) 1) ++ own_one (Int32.ofNat sv) 2) ++ own_one (Int32.ofNat sv) 3) ++ own_one (Int32.ofNat sv) 4) ++ own_one (Int32.ofNat sv) 5).length 0)))) (pc' := 402) VR (by decide) (AR.2 0 (by decide)) at_401
    have G267 := G266.iload (v := (Int32.ofNat sv)) (pc' := 404) at_402 rfl
    have G268 := G267.iloadN (v := (Int32.ofNat A)) (pc' := 405) at_404 rfl
    have G269 := G268.iloadN (v := (Int32.ofNat B)) (pc' := 406) at_405 rfl
    have G270 := G269.iload (v := (Int32.ofNat D)) (pc' := 408) at_406 rfl
    have G271 := G270.iconst (v := (0 : Int32)) (pc' := 409) at_408
    obtain ⟨v272, h272, ⟨ev272, eh272⟩, g272⟩ := G271.callS (argsL := [(.int (Int32.ofNat sv)), (.int (Int32.ofNat A)), (.int (Int32.ofNat B)), (.int (Int32.ofNat D)), (.int (0 : Int32))]) (rest := [(.int (Int32.ofNat (own_mc (fun i => (own_L A B D).getD i 0) (own_S A B D) (fun j => ((((((([] : List Nat) ++ own_one (Int32.ofNat sv) 0) ++ own_one (Int32.ofNat sv) 1) ++ own_one (Int32.ofNat sv) 2) ++ own_one (Int32.ofNat sv) 3) ++ own_one (Int32.ofNat sv) 4) ++ own_one (Int32.ofNat sv) 5).getD j 0) ((((((([] : List Nat) ++ own_one (Int32.ofNat sv) 0) ++ own_one (Int32.ofNat sv) 1) ++ own_one (Int32.ofNat sv) 2) ++ own_one (Int32.ofNat sv) 3) ++ own_one (Int32.ofNat sv) 4) ++ own_one (Int32.ofNat sv) 5).length 0)))]) (pc' := 412) (k' := 8) (j' := 60) (cn12 l Z a0 hw (Int32.ofNat sv) (Int32.ofNat A) (Int32.ofNat B) (Int32.ofNat D) (0 : Int32) h244 n0 G271.size) rfl (hw _ (List.mem_of_getElem? (i := 59) rfl)) (hw _ (List.mem_of_getElem? (i := 60) rfl)) (hw _ (List.mem_of_getElem? (i := 3) rfl)) (hw _ (List.mem_of_getElem? (i := 61) rfl)) (by decide) at_409 pd8 rfl (W := 1) rfl rfl (by decide) (by decide) (by decide) (by decide) rfl rfl rfl
    subst ev272
    rw [eh272] at g272
    have G272 := g272 [(.int (fE (Int32.ofNat sv) (Int32.ofNat A) (Int32.ofNat B) (Int32.ofNat D) (0 : Int32))), (.int (Int32.ofNat (own_mc (fun i => (own_L A B D).getD i 0) (own_S A B D) (fun j => ((((((([] : List Nat) ++ own_one (Int32.ofNat sv) 0) ++ own_one (Int32.ofNat sv) 1) ++ own_one (Int32.ofNat sv) 2) ++ own_one (Int32.ofNat sv) 3) ++ own_one (Int32.ofNat sv) 4) ++ own_one (Int32.ofNat sv) 5).getD j 0) ((((((([] : List Nat) ++ own_one (Int32.ofNat sv) 0) ++ own_one (Int32.ofNat sv) 1) ++ own_one (Int32.ofNat sv) 2) ++ own_one (Int32.ofNat sv) 3) ++ own_one (Int32.ofNat sv) 4) ++ own_one (Int32.ofNat sv) 5).length 0)))] rfl
    have G273 := G272.icmpN at_412 415 (Jvm.Free.XT.ii_ne_f (own_fin A B D sv 0 hA hB hD hsv (by decide) _ (own_x0 sv) (own_m0 A B D sv 0)))
    have G274 := G273.aload (v := (.ref ra)) (pc' := 417) at_415 rfl
    have G275 := G274.iconst (v := (1 : Int32)) (pc' := 418) at_417
    have G276 := G275.ldI (i := 1) (v := (.int (Int32.ofNat (own_mc (fun i => (own_L A B D).getD i 0) (own_S A B D) (fun j => ((((((([] : List Nat) ++ own_one (Int32.ofNat sv) 0) ++ own_one (Int32.ofNat sv) 1) ++ own_one (Int32.ofNat sv) 2) ++ own_one (Int32.ofNat sv) 3) ++ own_one (Int32.ofNat sv) 4) ++ own_one (Int32.ofNat sv) 5).getD j 0) ((((((([] : List Nat) ++ own_one (Int32.ofNat sv) 0) ++ own_one (Int32.ofNat sv) 1) ++ own_one (Int32.ofNat sv) 2) ++ own_one (Int32.ofNat sv) 3) ++ own_one (Int32.ofNat sv) 4) ++ own_one (Int32.ofNat sv) 5).length 1)))) (pc' := 419) VR (by decide) (AR.2 1 (by decide)) at_418
    have G277 := G276.iload (v := (Int32.ofNat sv)) (pc' := 421) at_419 rfl
    have G278 := G277.iloadN (v := (Int32.ofNat A)) (pc' := 422) at_421 rfl
    have G279 := G278.iloadN (v := (Int32.ofNat B)) (pc' := 423) at_422 rfl
    have G280 := G279.iload (v := (Int32.ofNat D)) (pc' := 425) at_423 rfl
    have G281 := G280.iconst (v := (1 : Int32)) (pc' := 426) at_425
    obtain ⟨v282, h282, ⟨ev282, eh282⟩, g282⟩ := G281.callS (argsL := [(.int (Int32.ofNat sv)), (.int (Int32.ofNat A)), (.int (Int32.ofNat B)), (.int (Int32.ofNat D)), (.int (1 : Int32))]) (rest := [(.int (Int32.ofNat (own_mc (fun i => (own_L A B D).getD i 0) (own_S A B D) (fun j => ((((((([] : List Nat) ++ own_one (Int32.ofNat sv) 0) ++ own_one (Int32.ofNat sv) 1) ++ own_one (Int32.ofNat sv) 2) ++ own_one (Int32.ofNat sv) 3) ++ own_one (Int32.ofNat sv) 4) ++ own_one (Int32.ofNat sv) 5).getD j 0) ((((((([] : List Nat) ++ own_one (Int32.ofNat sv) 0) ++ own_one (Int32.ofNat sv) 1) ++ own_one (Int32.ofNat sv) 2) ++ own_one (Int32.ofNat sv) 3) ++ own_one (Int32.ofNat sv) 4) ++ own_one (Int32.ofNat sv) 5).length 1)))]) (pc' := 429) (k' := 8) (j' := 60) (cn12 l Z a0 hw (Int32.ofNat sv) (Int32.ofNat A) (Int32.ofNat B) (Int32.ofNat D) (1 : Int32) h244 n0 G281.size) rfl (hw _ (List.mem_of_getElem? (i := 59) rfl)) (hw _ (List.mem_of_getElem? (i := 60) rfl)) (hw _ (List.mem_of_getElem? (i := 3) rfl)) (hw _ (List.mem_of_getElem? (i := 61) rfl)) (by decide) at_426 pd8 rfl (W := 1) rfl rfl (by decide) (by decide) (by decide) (by decide) rfl rfl rfl
    subst ev282
    rw [eh282] at g282
    have G282 := g282 [(.int (fE (Int32.ofNat sv) (Int32.ofNat A) (Int32.ofNat B) (Int32.ofNat D) (1 : Int32))), (.int (Int32.ofNat (own_mc (fun i => (own_L A B D).getD i 0) (own_S A B D) (fun j => ((((((([] : List Nat) ++ own_one (Int32.ofNat sv) 0) ++ own_one (Int32.ofNat sv) 1) ++ own_one (Int32.ofNat sv) 2) ++ own_one (Int32.ofNat sv) 3) ++ own_one (Int32.ofNat sv) 4) ++ own_one (Int32.ofNat sv) 5).getD j 0) ((((((([] : List Nat) ++ own_one (Int32.ofNat sv) 0) ++ own_one (Int32.ofNat sv) 1) ++ own_one (Int32.ofNat sv) 2) ++ own_one (Int32.ofNat sv) 3) ++ own_one (Int32.ofNat sv) 4) ++ own_one (Int32.ofNat sv) 5).length 1)))] rfl
    have G283 := G282.icmpN at_429 432 (Jvm.Free.XT.ii_ne_f (own_fin A B D sv 1 hA hB hD hsv (by decide) _ (own_x0 sv) (own_m0 A B D sv 1)))
    have G284 := G283.aload (v := (.ref ra)) (pc' := 434) at_432 rfl
    have G285 := G284.iconst (v := (2 : Int32)) (pc' := 435) at_434
    have G286 := G285.ldI (i := 2) (v := (.int (Int32.ofNat (own_mc (fun i => (own_L A B D).getD i 0) (own_S A B D) (fun j => ((((((([] : List Nat) ++ own_one (Int32.ofNat sv) 0) ++ own_one (Int32.ofNat sv) 1) ++ own_one (Int32.ofNat sv) 2) ++ own_one (Int32.ofNat sv) 3) ++ own_one (Int32.ofNat sv) 4) ++ own_one (Int32.ofNat sv) 5).getD j 0) ((((((([] : List Nat) ++ own_one (Int32.ofNat sv) 0) ++ own_one (Int32.ofNat sv) 1) ++ own_one (Int32.ofNat sv) 2) ++ own_one (Int32.ofNat sv) 3) ++ own_one (Int32.ofNat sv) 4) ++ own_one (Int32.ofNat sv) 5).length 2)))) (pc' := 436) VR (by decide) (AR.2 2 (by decide)) at_435
    have G287 := G286.iload (v := (Int32.ofNat sv)) (pc' := 438) at_436 rfl
    have G288 := G287.iloadN (v := (Int32.ofNat A)) (pc' := 439) at_438 rfl
    have G289 := G288.iloadN (v := (Int32.ofNat B)) (pc' := 440) at_439 rfl
    have G290 := G289.iload (v := (Int32.ofNat D)) (pc' := 442) at_440 rfl
    have G291 := G290.iconst (v := (2 : Int32)) (pc' := 443) at_442
    obtain ⟨v292, h292, ⟨ev292, eh292⟩, g292⟩ := G291.callS (argsL := [(.int (Int32.ofNat sv)), (.int (Int32.ofNat A)), (.int (Int32.ofNat B)), (.int (Int32.ofNat D)), (.int (2 : Int32))]) (rest := [(.int (Int32.ofNat (own_mc (fun i => (own_L A B D).getD i 0) (own_S A B D) (fun j => ((((((([] : List Nat) ++ own_one (Int32.ofNat sv) 0) ++ own_one (Int32.ofNat sv) 1) ++ own_one (Int32.ofNat sv) 2) ++ own_one (Int32.ofNat sv) 3) ++ own_one (Int32.ofNat sv) 4) ++ own_one (Int32.ofNat sv) 5).getD j 0) ((((((([] : List Nat) ++ own_one (Int32.ofNat sv) 0) ++ own_one (Int32.ofNat sv) 1) ++ own_one (Int32.ofNat sv) 2) ++ own_one (Int32.ofNat sv) 3) ++ own_one (Int32.ofNat sv) 4) ++ own_one (Int32.ofNat sv) 5).length 2)))]) (pc' := 446) (k' := 8) (j' := 60) (cn12 l Z a0 hw (Int32.ofNat sv) (Int32.ofNat A) (Int32.ofNat B) (Int32.ofNat D) (2 : Int32) h244 n0 G291.size) rfl (hw _ (List.mem_of_getElem? (i := 59) rfl)) (hw _ (List.mem_of_getElem? (i := 60) rfl)) (hw _ (List.mem_of_getElem? (i := 3) rfl)) (hw _ (List.mem_of_getElem? (i := 61) rfl)) (by decide) at_443 pd8 rfl (W := 1) rfl rfl (by decide) (by decide) (by decide) (by decide) rfl rfl rfl
    subst ev292
    rw [eh292] at g292
    have G292 := g292 [(.int (fE (Int32.ofNat sv) (Int32.ofNat A) (Int32.ofNat B) (Int32.ofNat D) (2 : Int32))), (.int (Int32.ofNat (own_mc (fun i => (own_L A B D).getD i 0) (own_S A B D) (fun j => ((((((([] : List Nat) ++ own_one (Int32.ofNat sv) 0) ++ own_one (Int32.ofNat sv) 1) ++ own_one (Int32.ofNat sv) 2) ++ own_one (Int32.ofNat sv) 3) ++ own_one (Int32.ofNat sv) 4) ++ own_one (Int32.ofNat sv) 5).getD j 0) ((((((([] : List Nat) ++ own_one (Int32.ofNat sv) 0) ++ own_one (Int32.ofNat sv) 1) ++ own_one (Int32.ofNat sv) 2) ++ own_one (Int32.ofNat sv) 3) ++ own_one (Int32.ofNat sv) 4) ++ own_one (Int32.ofNat sv) 5).length 2)))] rfl
    have G293 := G292.icmpN at_446 449 (Jvm.Free.XT.ii_ne_f (own_fin A B D sv 2 hA hB hD hsv (by decide) _ (own_x0 sv) (own_m0 A B D sv 2)))
    have G294 := G293.iconst (v := (1 : Int32)) (pc' := 450) at_449
    have G295 := G294.goto at_450 454
    exact G295.retZ at_454 rfl (Or.inr rfl) rfl
  · have G296 := G166.ifN at_216 219 (Jvm.Free.XT.i0_eq_f c216_166)
    have G297 := G296.aload (v := (.ref a158)) (pc' := 221) at_219 rfl
    have G298 := G297.iload (v := (0 : Int32)) (pc' := 223) at_221 rfl
    have G299 := G298.iload (v := (Int32.ofNat sv)) (pc' := 225) at_223 rfl
    have G300 := G299.iconst (v := (5 : Int32)) (pc' := 226) at_225
    obtain ⟨v301, h301, ⟨vs301, ev301, K301, V301, PR301⟩, g301⟩ := G300.callS (argsL := [(.ref a158), (.int (0 : Int32)), (.int (Int32.ofNat sv)), (.int (5 : Int32))]) (rest := []) (pc' := 229) (k' := 3) (j' := 22) (cn3 l Z a0 hw ([] : List Nat) 5 a158 (Int32.ofNat sv) h158 n0 G300.size (List.replicate (((own_one (Int32.ofNat sv) 0).length + (own_one (Int32.ofNat sv) 1).length + (own_one (Int32.ofNat sv) 2).length + (own_one (Int32.ofNat sv) 3).length + (own_one (Int32.ofNat sv) 4).length + (own_one (Int32.ofNat sv) 5).length)) (.int (0 : Int32))) ((own_one (Int32.ofNat sv) 0).length + (own_one (Int32.ofNat sv) 1).length + (own_one (Int32.ofNat sv) 2).length + (own_one (Int32.ofNat sv) 3).length + (own_one (Int32.ofNat sv) 4).length + (own_one (Int32.ofNat sv) 5).length) (by omega) (by decide) V158 (own_pre0 _) (by simp only [List.length_append, List.length_nil]; omega) g_a158) rfl (hw _ (List.mem_of_getElem? (i := 8) rfl)) (hw _ (List.mem_of_getElem? (i := 9) rfl)) (hw _ (List.mem_of_getElem? (i := 3) rfl)) (hw _ (List.mem_of_getElem? (i := 10) rfl)) (by decide) at_226 pd6 rfl (W := 0) rfl rfl (by decide) (by decide) (by decide) (by decide) rfl rfl rfl
    subst ev301
    have G301 := g301 [(.int (Int32.ofNat (([] : List Nat) ++ own_one (Int32.ofNat sv) 5).length))] rfl
    have V302 : Av Z h301 a38 .int [(.int (0 : Int32)), (.int (Int32.ofNat (([] : List Nat) ++ own_bits (Int32.ofNat A)).length)), (.int (Int32.ofNat ((([] : List Nat) ++ own_bits (Int32.ofNat A)) ++ own_bits (Int32.ofNat B)).length)), (.int (Int32.ofNat (((([] : List Nat) ++ own_bits (Int32.ofNat A)) ++ own_bits (Int32.ofNat B)) ++ own_bits (Int32.ofNat D)).length)), (.int (Int32.ofNat ((((([] : List Nat) ++ own_bits (Int32.ofNat A)) ++ own_bits (Int32.ofNat B)) ++ own_bits (Int32.ofNat D)) ++ own_bits (Int32.ofNat (7 - A))).length)), (.int (Int32.ofNat (((((([] : List Nat) ++ own_bits (Int32.ofNat A)) ++ own_bits (Int32.ofNat B)) ++ own_bits (Int32.ofNat D)) ++ own_bits (Int32.ofNat (7 - A))) ++ own_bits (Int32.ofNat (7 - B))).length)), (.int (Int32.ofNat ((((((([] : List Nat) ++ own_bits (Int32.ofNat A)) ++ own_bits (Int32.ofNat B)) ++ own_bits (Int32.ofNat D)) ++ own_bits (Int32.ofNat (7 - A))) ++ own_bits (Int32.ofNat (7 - B))) ++ own_bits (Int32.ofNat (7 - D))).length))] := V161.keep K301 (ninS ne159 nin0)
    have V303 : Av Z h301 a34 .int vs128 := V162.keep K301 (ninS ne160 nin0)
    have G304 := G301.istore (L' := #[.val (.int x0), .val (.int x1), .val (.int (Int32.ofNat A)), .val (.int (Int32.ofNat B)), .val (.int (Int32.ofNat D)), .val (.int (Int32.ofNat sv)), .val (.int zr), .val (.ref a34), .val (.ref a38), .val (.int (Int32.ofNat ((own_one (Int32.ofNat sv) 0).length + (own_one (Int32.ofNat sv) 1).length + (own_one (Int32.ofNat sv) 2).length + (own_one (Int32.ofNat sv) 3).length + (own_one (Int32.ofNat sv) 4).length + (own_one (Int32.ofNat sv) 5).length))), .val (.ref a158), .val (.int (Int32.ofNat (([] : List Nat) ++ own_one (Int32.ofNat sv) 5).length)), .unset, .unset]) (pc' := 231) at_229 rfl
    have G305 := G304.aload (v := (.ref a158)) (pc' := 233) at_231 rfl
    have G306 := G305.iload (v := (Int32.ofNat (([] : List Nat) ++ own_one (Int32.ofNat sv) 5).length)) (pc' := 235) at_233 rfl
    have G307 := G306.iload (v := (Int32.ofNat sv)) (pc' := 237) at_235 rfl
    have G308 := G307.iconst (v := (4 : Int32)) (pc' := 238) at_237
    obtain ⟨v309, h309, ⟨vs309, ev309, K309, V309, PR309⟩, g309⟩ := G308.callS (argsL := [(.ref a158), (.int (Int32.ofNat (([] : List Nat) ++ own_one (Int32.ofNat sv) 5).length)), (.int (Int32.ofNat sv)), (.int (4 : Int32))]) (rest := []) (pc' := 241) (k' := 3) (j' := 22) (cn3 l Z a0 hw (([] : List Nat) ++ own_one (Int32.ofNat sv) 5) 4 a158 (Int32.ofNat sv) h301 n0 G308.size vs301 ((own_one (Int32.ofNat sv) 0).length + (own_one (Int32.ofNat sv) 1).length + (own_one (Int32.ofNat sv) 2).length + (own_one (Int32.ofNat sv) 3).length + (own_one (Int32.ofNat sv) 4).length + (own_one (Int32.ofNat sv) 5).length) (by omega) (by decide) V301 PR301 (by simp only [List.length_append, List.length_nil]; omega) g_a158) rfl (hw _ (List.mem_of_getElem? (i := 8) rfl)) (hw _ (List.mem_of_getElem? (i := 9) rfl)) (hw _ (List.mem_of_getElem? (i := 3) rfl)) (hw _ (List.mem_of_getElem? (i := 10) rfl)) (by decide) at_238 pd6 rfl (W := 0) rfl rfl (by decide) (by decide) (by decide) (by decide) rfl rfl rfl
    subst ev309
    have G309 := g309 [(.int (Int32.ofNat ((([] : List Nat) ++ own_one (Int32.ofNat sv) 5) ++ own_one (Int32.ofNat sv) 4).length))] rfl
    have V310 : Av Z h309 a38 .int [(.int (0 : Int32)), (.int (Int32.ofNat (([] : List Nat) ++ own_bits (Int32.ofNat A)).length)), (.int (Int32.ofNat ((([] : List Nat) ++ own_bits (Int32.ofNat A)) ++ own_bits (Int32.ofNat B)).length)), (.int (Int32.ofNat (((([] : List Nat) ++ own_bits (Int32.ofNat A)) ++ own_bits (Int32.ofNat B)) ++ own_bits (Int32.ofNat D)).length)), (.int (Int32.ofNat ((((([] : List Nat) ++ own_bits (Int32.ofNat A)) ++ own_bits (Int32.ofNat B)) ++ own_bits (Int32.ofNat D)) ++ own_bits (Int32.ofNat (7 - A))).length)), (.int (Int32.ofNat (((((([] : List Nat) ++ own_bits (Int32.ofNat A)) ++ own_bits (Int32.ofNat B)) ++ own_bits (Int32.ofNat D)) ++ own_bits (Int32.ofNat (7 - A))) ++ own_bits (Int32.ofNat (7 - B))).length)), (.int (Int32.ofNat ((((((([] : List Nat) ++ own_bits (Int32.ofNat A)) ++ own_bits (Int32.ofNat B)) ++ own_bits (Int32.ofNat D)) ++ own_bits (Int32.ofNat (7 - A))) ++ own_bits (Int32.ofNat (7 - B))) ++ own_bits (Int32.ofNat (7 - D))).length))] := V302.keep K309 (ninS ne159 nin0)
    have V311 : Av Z h309 a34 .int vs128 := V303.keep K309 (ninS ne160 nin0)
    have G312 := G309.istore (L' := #[.val (.int x0), .val (.int x1), .val (.int (Int32.ofNat A)), .val (.int (Int32.ofNat B)), .val (.int (Int32.ofNat D)), .val (.int (Int32.ofNat sv)), .val (.int zr), .val (.ref a34), .val (.ref a38), .val (.int (Int32.ofNat ((own_one (Int32.ofNat sv) 0).length + (own_one (Int32.ofNat sv) 1).length + (own_one (Int32.ofNat sv) 2).length + (own_one (Int32.ofNat sv) 3).length + (own_one (Int32.ofNat sv) 4).length + (own_one (Int32.ofNat sv) 5).length))), .val (.ref a158), .val (.int (Int32.ofNat ((([] : List Nat) ++ own_one (Int32.ofNat sv) 5) ++ own_one (Int32.ofNat sv) 4).length)), .unset, .unset]) (pc' := 243) at_241 rfl
    have G313 := G312.aload (v := (.ref a158)) (pc' := 245) at_243 rfl
    have G314 := G313.iload (v := (Int32.ofNat ((([] : List Nat) ++ own_one (Int32.ofNat sv) 5) ++ own_one (Int32.ofNat sv) 4).length)) (pc' := 247) at_245 rfl
    have G315 := G314.iload (v := (Int32.ofNat sv)) (pc' := 249) at_247 rfl
    have G316 := G315.iconst (v := (3 : Int32)) (pc' := 250) at_249
    obtain ⟨v317, h317, ⟨vs317, ev317, K317, V317, PR317⟩, g317⟩ := G316.callS (argsL := [(.ref a158), (.int (Int32.ofNat ((([] : List Nat) ++ own_one (Int32.ofNat sv) 5) ++ own_one (Int32.ofNat sv) 4).length)), (.int (Int32.ofNat sv)), (.int (3 : Int32))]) (rest := []) (pc' := 253) (k' := 3) (j' := 22) (cn3 l Z a0 hw ((([] : List Nat) ++ own_one (Int32.ofNat sv) 5) ++ own_one (Int32.ofNat sv) 4) 3 a158 (Int32.ofNat sv) h309 n0 G316.size vs309 ((own_one (Int32.ofNat sv) 0).length + (own_one (Int32.ofNat sv) 1).length + (own_one (Int32.ofNat sv) 2).length + (own_one (Int32.ofNat sv) 3).length + (own_one (Int32.ofNat sv) 4).length + (own_one (Int32.ofNat sv) 5).length) (by omega) (by decide) V309 PR309 (by simp only [List.length_append, List.length_nil]; omega) g_a158) rfl (hw _ (List.mem_of_getElem? (i := 8) rfl)) (hw _ (List.mem_of_getElem? (i := 9) rfl)) (hw _ (List.mem_of_getElem? (i := 3) rfl)) (hw _ (List.mem_of_getElem? (i := 10) rfl)) (by decide) at_250 pd6 rfl (W := 0) rfl rfl (by decide) (by decide) (by decide) (by decide) rfl rfl rfl
    subst ev317
    have G317 := g317 [(.int (Int32.ofNat (((([] : List Nat) ++ own_one (Int32.ofNat sv) 5) ++ own_one (Int32.ofNat sv) 4) ++ own_one (Int32.ofNat sv) 3).length))] rfl
    have V318 : Av Z h317 a38 .int [(.int (0 : Int32)), (.int (Int32.ofNat (([] : List Nat) ++ own_bits (Int32.ofNat A)).length)), (.int (Int32.ofNat ((([] : List Nat) ++ own_bits (Int32.ofNat A)) ++ own_bits (Int32.ofNat B)).length)), (.int (Int32.ofNat (((([] : List Nat) ++ own_bits (Int32.ofNat A)) ++ own_bits (Int32.ofNat B)) ++ own_bits (Int32.ofNat D)).length)), (.int (Int32.ofNat ((((([] : List Nat) ++ own_bits (Int32.ofNat A)) ++ own_bits (Int32.ofNat B)) ++ own_bits (Int32.ofNat D)) ++ own_bits (Int32.ofNat (7 - A))).length)), (.int (Int32.ofNat (((((([] : List Nat) ++ own_bits (Int32.ofNat A)) ++ own_bits (Int32.ofNat B)) ++ own_bits (Int32.ofNat D)) ++ own_bits (Int32.ofNat (7 - A))) ++ own_bits (Int32.ofNat (7 - B))).length)), (.int (Int32.ofNat ((((((([] : List Nat) ++ own_bits (Int32.ofNat A)) ++ own_bits (Int32.ofNat B)) ++ own_bits (Int32.ofNat D)) ++ own_bits (Int32.ofNat (7 - A))) ++ own_bits (Int32.ofNat (7 - B))) ++ own_bits (Int32.ofNat (7 - D))).length))] := V310.keep K317 (ninS ne159 nin0)
    have V319 : Av Z h317 a34 .int vs128 := V311.keep K317 (ninS ne160 nin0)
    have G320 := G317.istore (L' := #[.val (.int x0), .val (.int x1), .val (.int (Int32.ofNat A)), .val (.int (Int32.ofNat B)), .val (.int (Int32.ofNat D)), .val (.int (Int32.ofNat sv)), .val (.int zr), .val (.ref a34), .val (.ref a38), .val (.int (Int32.ofNat ((own_one (Int32.ofNat sv) 0).length + (own_one (Int32.ofNat sv) 1).length + (own_one (Int32.ofNat sv) 2).length + (own_one (Int32.ofNat sv) 3).length + (own_one (Int32.ofNat sv) 4).length + (own_one (Int32.ofNat sv) 5).length))), .val (.ref a158), .val (.int (Int32.ofNat (((([] : List Nat) ++ own_one (Int32.ofNat sv) 5) ++ own_one (Int32.ofNat sv) 4) ++ own_one (Int32.ofNat sv) 3).length)), .unset, .unset]) (pc' := 255) at_253 rfl
    have G321 := G320.aload (v := (.ref a158)) (pc' := 257) at_255 rfl
    have G322 := G321.iload (v := (Int32.ofNat (((([] : List Nat) ++ own_one (Int32.ofNat sv) 5) ++ own_one (Int32.ofNat sv) 4) ++ own_one (Int32.ofNat sv) 3).length)) (pc' := 259) at_257 rfl
    have G323 := G322.iload (v := (Int32.ofNat sv)) (pc' := 261) at_259 rfl
    have G324 := G323.iconst (v := (2 : Int32)) (pc' := 262) at_261
    obtain ⟨v325, h325, ⟨vs325, ev325, K325, V325, PR325⟩, g325⟩ := G324.callS (argsL := [(.ref a158), (.int (Int32.ofNat (((([] : List Nat) ++ own_one (Int32.ofNat sv) 5) ++ own_one (Int32.ofNat sv) 4) ++ own_one (Int32.ofNat sv) 3).length)), (.int (Int32.ofNat sv)), (.int (2 : Int32))]) (rest := []) (pc' := 265) (k' := 3) (j' := 22) (cn3 l Z a0 hw (((([] : List Nat) ++ own_one (Int32.ofNat sv) 5) ++ own_one (Int32.ofNat sv) 4) ++ own_one (Int32.ofNat sv) 3) 2 a158 (Int32.ofNat sv) h317 n0 G324.size vs317 ((own_one (Int32.ofNat sv) 0).length + (own_one (Int32.ofNat sv) 1).length + (own_one (Int32.ofNat sv) 2).length + (own_one (Int32.ofNat sv) 3).length + (own_one (Int32.ofNat sv) 4).length + (own_one (Int32.ofNat sv) 5).length) (by omega) (by decide) V317 PR317 (by simp only [List.length_append, List.length_nil]; omega) g_a158) rfl (hw _ (List.mem_of_getElem? (i := 8) rfl)) (hw _ (List.mem_of_getElem? (i := 9) rfl)) (hw _ (List.mem_of_getElem? (i := 3) rfl)) (hw _ (List.mem_of_getElem? (i := 10) rfl)) (by decide) at_262 pd6 rfl (W := 0) rfl rfl (by decide) (by decide) (by decide) (by decide) rfl rfl rfl
    subst ev325
    have G325 := g325 [(.int (Int32.ofNat ((((([] : List Nat) ++ own_one (Int32.ofNat sv) 5) ++ own_one (Int32.ofNat sv) 4) ++ own_one (Int32.ofNat sv) 3) ++ own_one (Int32.ofNat sv) 2).length))] rfl
    have V326 : Av Z h325 a38 .int [(.int (0 : Int32)), (.int (Int32.ofNat (([] : List Nat) ++ own_bits (Int32.ofNat A)).length)), (.int (Int32.ofNat ((([] : List Nat) ++ own_bits (Int32.ofNat A)) ++ own_bits (Int32.ofNat B)).length)), (.int (Int32.ofNat (((([] : List Nat) ++ own_bits (Int32.ofNat A)) ++ own_bits (Int32.ofNat B)) ++ own_bits (Int32.ofNat D)).length)), (.int (Int32.ofNat ((((([] : List Nat) ++ own_bits (Int32.ofNat A)) ++ own_bits (Int32.ofNat B)) ++ own_bits (Int32.ofNat D)) ++ own_bits (Int32.ofNat (7 - A))).length)), (.int (Int32.ofNat (((((([] : List Nat) ++ own_bits (Int32.ofNat A)) ++ own_bits (Int32.ofNat B)) ++ own_bits (Int32.ofNat D)) ++ own_bits (Int32.ofNat (7 - A))) ++ own_bits (Int32.ofNat (7 - B))).length)), (.int (Int32.ofNat ((((((([] : List Nat) ++ own_bits (Int32.ofNat A)) ++ own_bits (Int32.ofNat B)) ++ own_bits (Int32.ofNat D)) ++ own_bits (Int32.ofNat (7 - A))) ++ own_bits (Int32.ofNat (7 - B))) ++ own_bits (Int32.ofNat (7 - D))).length))] := V318.keep K325 (ninS ne159 nin0)
    have V327 : Av Z h325 a34 .int vs128 := V319.keep K325 (ninS ne160 nin0)
    have G328 := G325.istore (L' := #[.val (.int x0), .val (.int x1), .val (.int (Int32.ofNat A)), .val (.int (Int32.ofNat B)), .val (.int (Int32.ofNat D)), .val (.int (Int32.ofNat sv)), .val (.int zr), .val (.ref a34), .val (.ref a38), .val (.int (Int32.ofNat ((own_one (Int32.ofNat sv) 0).length + (own_one (Int32.ofNat sv) 1).length + (own_one (Int32.ofNat sv) 2).length + (own_one (Int32.ofNat sv) 3).length + (own_one (Int32.ofNat sv) 4).length + (own_one (Int32.ofNat sv) 5).length))), .val (.ref a158), .val (.int (Int32.ofNat ((((([] : List Nat) ++ own_one (Int32.ofNat sv) 5) ++ own_one (Int32.ofNat sv) 4) ++ own_one (Int32.ofNat sv) 3) ++ own_one (Int32.ofNat sv) 2).length)), .unset, .unset]) (pc' := 267) at_265 rfl
    have G329 := G328.aload (v := (.ref a158)) (pc' := 269) at_267 rfl
    have G330 := G329.iload (v := (Int32.ofNat ((((([] : List Nat) ++ own_one (Int32.ofNat sv) 5) ++ own_one (Int32.ofNat sv) 4) ++ own_one (Int32.ofNat sv) 3) ++ own_one (Int32.ofNat sv) 2).length)) (pc' := 271) at_269 rfl
    have G331 := G330.iload (v := (Int32.ofNat sv)) (pc' := 273) at_271 rfl
    have G332 := G331.iconst (v := (1 : Int32)) (pc' := 274) at_273
    obtain ⟨v333, h333, ⟨vs333, ev333, K333, V333, PR333⟩, g333⟩ := G332.callS (argsL := [(.ref a158), (.int (Int32.ofNat ((((([] : List Nat) ++ own_one (Int32.ofNat sv) 5) ++ own_one (Int32.ofNat sv) 4) ++ own_one (Int32.ofNat sv) 3) ++ own_one (Int32.ofNat sv) 2).length)), (.int (Int32.ofNat sv)), (.int (1 : Int32))]) (rest := []) (pc' := 277) (k' := 3) (j' := 22) (cn3 l Z a0 hw ((((([] : List Nat) ++ own_one (Int32.ofNat sv) 5) ++ own_one (Int32.ofNat sv) 4) ++ own_one (Int32.ofNat sv) 3) ++ own_one (Int32.ofNat sv) 2) 1 a158 (Int32.ofNat sv) h325 n0 G332.size vs325 ((own_one (Int32.ofNat sv) 0).length + (own_one (Int32.ofNat sv) 1).length + (own_one (Int32.ofNat sv) 2).length + (own_one (Int32.ofNat sv) 3).length + (own_one (Int32.ofNat sv) 4).length + (own_one (Int32.ofNat sv) 5).length) (by omega) (by decide) V325 PR325 (by simp only [List.length_append, List.length_nil]; omega) g_a158) rfl (hw _ (List.mem_of_getElem? (i := 8) rfl)) (hw _ (List.mem_of_getElem? (i := 9) rfl)) (hw _ (List.mem_of_getElem? (i := 3) rfl)) (hw _ (List.mem_of_getElem? (i := 10) rfl)) (by decide) at_274 pd6 rfl (W := 0) rfl rfl (by decide) (by decide) (by decide) (by decide) rfl rfl rfl
    subst ev333
    have G333 := g333 [(.int (Int32.ofNat (((((([] : List Nat) ++ own_one (Int32.ofNat sv) 5) ++ own_one (Int32.ofNat sv) 4) ++ own_one (Int32.ofNat sv) 3) ++ own_one (Int32.ofNat sv) 2) ++ own_one (Int32.ofNat sv) 1).length))] rfl
    have V334 : Av Z h333 a38 .int [(.int (0 : Int32)), (.int (Int32.ofNat (([] : List Nat) ++ own_bits (Int32.ofNat A)).length)), (.int (Int32.ofNat ((([] : List Nat) ++ own_bits (Int32.ofNat A)) ++ own_bits (Int32.ofNat B)).length)), (.int (Int32.ofNat (((([] : List Nat) ++ own_bits (Int32.ofNat A)) ++ own_bits (Int32.ofNat B)) ++ own_bits (Int32.ofNat D)).length)), (.int (Int32.ofNat ((((([] : List Nat) ++ own_bits (Int32.ofNat A)) ++ own_bits (Int32.ofNat B)) ++ own_bits (Int32.ofNat D)) ++ own_bits (Int32.ofNat (7 - A))).length)), (.int (Int32.ofNat (((((([] : List Nat) ++ own_bits (Int32.ofNat A)) ++ own_bits (Int32.ofNat B)) ++ own_bits (Int32.ofNat D)) ++ own_bits (Int32.ofNat (7 - A))) ++ own_bits (Int32.ofNat (7 - B))).length)), (.int (Int32.ofNat ((((((([] : List Nat) ++ own_bits (Int32.ofNat A)) ++ own_bits (Int32.ofNat B)) ++ own_bits (Int32.ofNat D)) ++ own_bits (Int32.ofNat (7 - A))) ++ own_bits (Int32.ofNat (7 - B))) ++ own_bits (Int32.ofNat (7 - D))).length))] := V326.keep K333 (ninS ne159 nin0)
    have V335 : Av Z h333 a34 .int vs128 := V327.keep K333 (ninS ne160 nin0)
    have G336 := G333.istore (L' := #[.val (.int x0), .val (.int x1), .val (.int (Int32.ofNat A)), .val (.int (Int32.ofNat B)), .val (.int (Int32.ofNat D)), .val (.int (Int32.ofNat sv)), .val (.int zr), .val (.ref a34), .val (.ref a38), .val (.int (Int32.ofNat ((own_one (Int32.ofNat sv) 0).length + (own_one (Int32.ofNat sv) 1).length + (own_one (Int32.ofNat sv) 2).length + (own_one (Int32.ofNat sv) 3).length + (own_one (Int32.ofNat sv) 4).length + (own_one (Int32.ofNat sv) 5).length))), .val (.ref a158), .val (.int (Int32.ofNat (((((([] : List Nat) ++ own_one (Int32.ofNat sv) 5) ++ own_one (Int32.ofNat sv) 4) ++ own_one (Int32.ofNat sv) 3) ++ own_one (Int32.ofNat sv) 2) ++ own_one (Int32.ofNat sv) 1).length)), .unset, .unset]) (pc' := 279) at_277 rfl
    have G337 := G336.aload (v := (.ref a158)) (pc' := 281) at_279 rfl
    have G338 := G337.iload (v := (Int32.ofNat (((((([] : List Nat) ++ own_one (Int32.ofNat sv) 5) ++ own_one (Int32.ofNat sv) 4) ++ own_one (Int32.ofNat sv) 3) ++ own_one (Int32.ofNat sv) 2) ++ own_one (Int32.ofNat sv) 1).length)) (pc' := 283) at_281 rfl
    have G339 := G338.iload (v := (Int32.ofNat sv)) (pc' := 285) at_283 rfl
    have G340 := G339.iconst (v := (0 : Int32)) (pc' := 286) at_285
    obtain ⟨v341, h341, ⟨vs341, ev341, K341, V341, PR341⟩, g341⟩ := G340.callS (argsL := [(.ref a158), (.int (Int32.ofNat (((((([] : List Nat) ++ own_one (Int32.ofNat sv) 5) ++ own_one (Int32.ofNat sv) 4) ++ own_one (Int32.ofNat sv) 3) ++ own_one (Int32.ofNat sv) 2) ++ own_one (Int32.ofNat sv) 1).length)), (.int (Int32.ofNat sv)), (.int (0 : Int32))]) (rest := []) (pc' := 289) (k' := 3) (j' := 22) (cn3 l Z a0 hw (((((([] : List Nat) ++ own_one (Int32.ofNat sv) 5) ++ own_one (Int32.ofNat sv) 4) ++ own_one (Int32.ofNat sv) 3) ++ own_one (Int32.ofNat sv) 2) ++ own_one (Int32.ofNat sv) 1) 0 a158 (Int32.ofNat sv) h333 n0 G340.size vs333 ((own_one (Int32.ofNat sv) 0).length + (own_one (Int32.ofNat sv) 1).length + (own_one (Int32.ofNat sv) 2).length + (own_one (Int32.ofNat sv) 3).length + (own_one (Int32.ofNat sv) 4).length + (own_one (Int32.ofNat sv) 5).length) (by omega) (by decide) V333 PR333 (by simp only [List.length_append, List.length_nil]; omega) g_a158) rfl (hw _ (List.mem_of_getElem? (i := 8) rfl)) (hw _ (List.mem_of_getElem? (i := 9) rfl)) (hw _ (List.mem_of_getElem? (i := 3) rfl)) (hw _ (List.mem_of_getElem? (i := 10) rfl)) (by decide) at_286 pd6 rfl (W := 0) rfl rfl (by decide) (by decide) (by decide) (by decide) rfl rfl rfl
    subst ev341
    have G341 := g341 [(.int (Int32.ofNat ((((((([] : List Nat) ++ own_one (Int32.ofNat sv) 5) ++ own_one (Int32.ofNat sv) 4) ++ own_one (Int32.ofNat sv) 3) ++ own_one (Int32.ofNat sv) 2) ++ own_one (Int32.ofNat sv) 1) ++ own_one (Int32.ofNat sv) 0).length))] rfl
    have V342 : Av Z h341 a38 .int [(.int (0 : Int32)), (.int (Int32.ofNat (([] : List Nat) ++ own_bits (Int32.ofNat A)).length)), (.int (Int32.ofNat ((([] : List Nat) ++ own_bits (Int32.ofNat A)) ++ own_bits (Int32.ofNat B)).length)), (.int (Int32.ofNat (((([] : List Nat) ++ own_bits (Int32.ofNat A)) ++ own_bits (Int32.ofNat B)) ++ own_bits (Int32.ofNat D)).length)), (.int (Int32.ofNat ((((([] : List Nat) ++ own_bits (Int32.ofNat A)) ++ own_bits (Int32.ofNat B)) ++ own_bits (Int32.ofNat D)) ++ own_bits (Int32.ofNat (7 - A))).length)), (.int (Int32.ofNat (((((([] : List Nat) ++ own_bits (Int32.ofNat A)) ++ own_bits (Int32.ofNat B)) ++ own_bits (Int32.ofNat D)) ++ own_bits (Int32.ofNat (7 - A))) ++ own_bits (Int32.ofNat (7 - B))).length)), (.int (Int32.ofNat ((((((([] : List Nat) ++ own_bits (Int32.ofNat A)) ++ own_bits (Int32.ofNat B)) ++ own_bits (Int32.ofNat D)) ++ own_bits (Int32.ofNat (7 - A))) ++ own_bits (Int32.ofNat (7 - B))) ++ own_bits (Int32.ofNat (7 - D))).length))] := V334.keep K341 (ninS ne159 nin0)
    have V343 : Av Z h341 a34 .int vs128 := V335.keep K341 (ninS ne160 nin0)
    have G344 := G341.istore (L' := #[.val (.int x0), .val (.int x1), .val (.int (Int32.ofNat A)), .val (.int (Int32.ofNat B)), .val (.int (Int32.ofNat D)), .val (.int (Int32.ofNat sv)), .val (.int zr), .val (.ref a34), .val (.ref a38), .val (.int (Int32.ofNat ((own_one (Int32.ofNat sv) 0).length + (own_one (Int32.ofNat sv) 1).length + (own_one (Int32.ofNat sv) 2).length + (own_one (Int32.ofNat sv) 3).length + (own_one (Int32.ofNat sv) 4).length + (own_one (Int32.ofNat sv) 5).length))), .val (.ref a158), .val (.int (Int32.ofNat ((((((([] : List Nat) ++ own_one (Int32.ofNat sv) 5) ++ own_one (Int32.ofNat sv) 4) ++ own_one (Int32.ofNat sv) 3) ++ own_one (Int32.ofNat sv) 2) ++ own_one (Int32.ofNat sv) 1) ++ own_one (Int32.ofNat sv) 0).length)), .unset, .unset]) (pc' := 291) at_289 rfl
    have G345 := G344.goto at_291 366
    obtain ⟨a346, h346, ea346, g_a346, X346, E346, D346, G346⟩ := G345.newO (pc' := 369) (k' := 4) (j' := 27) (hw _ (List.mem_of_getElem? (i := 11) rfl)) (hw _ (List.mem_of_getElem? (i := 12) rfl)) (hw _ (List.mem_of_getElem? (i := 13) rfl)) at_366 rfl rfl rfl (by decide) (by decide)
    have ne347 : a38 ≠ a346 := by rw [ea346]; exact Nat.ne_of_lt V342.lt
    have ne348 : a34 ≠ a346 := by rw [ea346]; exact Nat.ne_of_lt V343.lt
    have ne349 : a158 ≠ a346 := by rw [ea346]; exact Nat.ne_of_lt V341.lt
    have V350 : Av Z h346 a38 .int [(.int (0 : Int32)), (.int (Int32.ofNat (([] : List Nat) ++ own_bits (Int32.ofNat A)).length)), (.int (Int32.ofNat ((([] : List Nat) ++ own_bits (Int32.ofNat A)) ++ own_bits (Int32.ofNat B)).length)), (.int (Int32.ofNat (((([] : List Nat) ++ own_bits (Int32.ofNat A)) ++ own_bits (Int32.ofNat B)) ++ own_bits (Int32.ofNat D)).length)), (.int (Int32.ofNat ((((([] : List Nat) ++ own_bits (Int32.ofNat A)) ++ own_bits (Int32.ofNat B)) ++ own_bits (Int32.ofNat D)) ++ own_bits (Int32.ofNat (7 - A))).length)), (.int (Int32.ofNat (((((([] : List Nat) ++ own_bits (Int32.ofNat A)) ++ own_bits (Int32.ofNat B)) ++ own_bits (Int32.ofNat D)) ++ own_bits (Int32.ofNat (7 - A))) ++ own_bits (Int32.ofNat (7 - B))).length)), (.int (Int32.ofNat ((((((([] : List Nat) ++ own_bits (Int32.ofNat A)) ++ own_bits (Int32.ofNat B)) ++ own_bits (Int32.ofNat D)) ++ own_bits (Int32.ofNat (7 - A))) ++ own_bits (Int32.ofNat (7 - B))) ++ own_bits (Int32.ofNat (7 - D))).length))] := V342.ext X346
    have V351 : Av Z h346 a34 .int vs128 := V343.ext X346
    have V352 : Av Z h346 a158 .int vs341 := V341.ext X346
    have F353 : Fld Z h346 a346 "com/example/rhumb/rhumb/InstanceTags" "tagCount" "I" (.int (0 : Int32)) := D346 (Or.inr (hw _ (List.mem_of_getElem? (i := 24) rfl))) (ty := .int) (by decide)
    have F354 : Fld Z h346 a346 "com/example/rhumb/rhumb/InstanceTags" "tagStart" "[I" .null := D346 (Or.inr (hw _ (List.mem_of_getElem? (i := 26) rfl))) (ty := (.array .int)) (by decide)
    have F355 : Fld Z h346 a346 "com/example/rhumb/rhumb/InstanceTags" "tagIds" "[I" .null := D346 (Or.inr (hw _ (List.mem_of_getElem? (i := 28) rfl))) (ty := (.array .int)) (by decide)
    have F356 : Fld Z h346 a346 "com/example/rhumb/rhumb/InstanceTags" "instanceStart" "[I" .null := D346 (Or.inr (hw _ (List.mem_of_getElem? (i := 30) rfl))) (ty := (.array .int)) (by decide)
    have F357 : Fld Z h346 a346 "com/example/rhumb/rhumb/InstanceTags" "instanceIds" "[I" .null := D346 (Or.inr (hw _ (List.mem_of_getElem? (i := 32) rfl))) (ty := (.array .int)) (by decide)
    have G358 := G346.dup (pc' := 370) at_369
    have G359 := G358.iconst (v := (3 : Int32)) (pc' := 371) at_370
    have G360 := G359.aload (v := (.ref a38)) (pc' := 373) at_371 rfl
    have G361 := G360.aload (v := (.ref a34)) (pc' := 375) at_373 rfl
    obtain ⟨v362, h362, ⟨ca, vC, ev362, K362, szc, EN, FN1, FN2, FN3, FN4, VCN, ACN⟩, g362⟩ := G361.callI (argsL := [(.int (3 : Int32)), (.ref a38), (.ref a34)]) (rest := [(.ref a346)]) (pc' := 378) (k' := 7) (j' := 56) (cn4 l Z a0 hw 3 a346 a38 a34 h346 n0 G361.size 6 (own_L A B D).length (own_S A B D) (fun i => (own_L A B D).getD i 0) (own_HH A B D hA hB hD) [(.int (0 : Int32)), (.int (Int32.ofNat (([] : List Nat) ++ own_bits (Int32.ofNat A)).length)), (.int (Int32.ofNat ((([] : List Nat) ++ own_bits (Int32.ofNat A)) ++ own_bits (Int32.ofNat B)).length)), (.int (Int32.ofNat (((([] : List Nat) ++ own_bits (Int32.ofNat A)) ++ own_bits (Int32.ofNat B)) ++ own_bits (Int32.ofNat D)).length)), (.int (Int32.ofNat ((((([] : List Nat) ++ own_bits (Int32.ofNat A)) ++ own_bits (Int32.ofNat B)) ++ own_bits (Int32.ofNat D)) ++ own_bits (Int32.ofNat (7 - A))).length)), (.int (Int32.ofNat (((((([] : List Nat) ++ own_bits (Int32.ofNat A)) ++ own_bits (Int32.ofNat B)) ++ own_bits (Int32.ofNat D)) ++ own_bits (Int32.ofNat (7 - A))) ++ own_bits (Int32.ofNat (7 - B))).length)), (.int (Int32.ofNat ((((((([] : List Nat) ++ own_bits (Int32.ofNat A)) ++ own_bits (Int32.ofNat B)) ++ own_bits (Int32.ofNat D)) ++ own_bits (Int32.ofNat (7 - A))) ++ own_bits (Int32.ofNat (7 - B))) ++ own_bits (Int32.ofNat (7 - D))).length))] vs128 E346 F353 F354 F355 F356 F357 V350 (own_AS A B D) V351 (own_preA (L := own_L A B D) (by rw [own_l9 A B D hA hB hD]; exact PR128)) g_a346 ne347 ne348   ) rfl rfl (hw _ (List.mem_of_getElem? (i := 14) rfl)) (hw _ (List.mem_of_getElem? (i := 15) rfl)) (hw _ (List.mem_of_getElem? (i := 13) rfl)) (hw _ (List.mem_of_getElem? (i := 16) rfl)) (by decide) at_375 pd3 rfl (W := 1) rfl rfl (by decide) (by decide) (by decide) (by decide) rfl rfl rfl
    subst ev362
    have G362 := g362 [(.ref a346)] rfl
    have g_ca : n0 ≤ ca := Nat.le_trans G361.size szc
    have ne363 : a38 ≠ ca := Nat.ne_of_lt (Nat.lt_of_lt_of_le V350.lt szc)
    have ne364 : a34 ≠ ca := Nat.ne_of_lt (Nat.lt_of_lt_of_le V351.lt szc)
    have ne365 : a158 ≠ ca := Nat.ne_of_lt (Nat.lt_of_lt_of_le V352.lt szc)
    have ne366 : a346 ≠ ca := Nat.ne_of_lt (Nat.lt_of_lt_of_le E346.lt szc)
    have V367 : Av Z h362 a38 .int [(.int (0 : Int32)), (.int (Int32.ofNat (([] : List Nat) ++ own_bits (Int32.ofNat A)).length)), (.int (Int32.ofNat ((([] : List Nat) ++ own_bits (Int32.ofNat A)) ++ own_bits (Int32.ofNat B)).length)), (.int (Int32.ofNat (((([] : List Nat) ++ own_bits (Int32.ofNat A)) ++ own_bits (Int32.ofNat B)) ++ own_bits (Int32.ofNat D)).length)), (.int (Int32.ofNat ((((([] : List Nat) ++ own_bits (Int32.ofNat A)) ++ own_bits (Int32.ofNat B)) ++ own_bits (Int32.ofNat D)) ++ own_bits (Int32.ofNat (7 - A))).length)), (.int (Int32.ofNat (((((([] : List Nat) ++ own_bits (Int32.ofNat A)) ++ own_bits (Int32.ofNat B)) ++ own_bits (Int32.ofNat D)) ++ own_bits (Int32.ofNat (7 - A))) ++ own_bits (Int32.ofNat (7 - B))).length)), (.int (Int32.ofNat ((((((([] : List Nat) ++ own_bits (Int32.ofNat A)) ++ own_bits (Int32.ofNat B)) ++ own_bits (Int32.ofNat D)) ++ own_bits (Int32.ofNat (7 - A))) ++ own_bits (Int32.ofNat (7 - B))) ++ own_bits (Int32.ofNat (7 - D))).length))] := V350.keep K362 (ninS ne347 nin0)
    have V368 : Av Z h362 a34 .int vs128 := V351.keep K362 (ninS ne348 nin0)
    have V369 : Av Z h362 a158 .int vs341 := V352.keep K362 (ninS ne349 nin0)
    have E370 : Exa Z h362 a346 "com/example/rhumb/rhumb/InstanceTags" := E346.keep K362
    have G371 := G362.astore (L' := #[.val (.int x0), .val (.int x1), .val (.int (Int32.ofNat A)), .val (.int (Int32.ofNat B)), .val (.int (Int32.ofNat D)), .val (.int (Int32.ofNat sv)), .val (.int zr), .val (.ref a34), .val (.ref a38), .val (.int (Int32.ofNat ((own_one (Int32.ofNat sv) 0).length + (own_one (Int32.ofNat sv) 1).length + (own_one (Int32.ofNat sv) 2).length + (own_one (Int32.ofNat sv) 3).length + (own_one (Int32.ofNat sv) 4).length + (own_one (Int32.ofNat sv) 5).length))), .val (.ref a158), .val (.int (Int32.ofNat ((((((([] : List Nat) ++ own_one (Int32.ofNat sv) 5) ++ own_one (Int32.ofNat sv) 4) ++ own_one (Int32.ofNat sv) 3) ++ own_one (Int32.ofNat sv) 2) ++ own_one (Int32.ofNat sv) 1) ++ own_one (Int32.ofNat sv) 0).length)), .val (.ref a346), .unset]) (pc' := 380) at_378 rfl
    have G372 := G371.aload (v := (.ref a346)) (pc' := 382) at_380 rfl
    have G373 := G372.aload (v := (.ref a158)) (pc' := 384) at_382 rfl
    obtain ⟨v374, h374, ⟨ra, vr, ev374, K374, szr, VR, AR⟩, g374⟩ := G373.callV (argsL := [(.ref a158)]) (rest := []) (pc' := 387) (k' := 8) (j' := 60) (cn11 l Z a0 hw a346 a158 h362 n0 G373.size 3 6 (own_L A B D).length (own_S A B D) (fun i => (own_L A B D).getD i 0) (own_HH A B D hA hB hD) a38 a34 [(.int (0 : Int32)), (.int (Int32.ofNat (([] : List Nat) ++ own_bits (Int32.ofNat A)).length)), (.int (Int32.ofNat ((([] : List Nat) ++ own_bits (Int32.ofNat A)) ++ own_bits (Int32.ofNat B)).length)), (.int (Int32.ofNat (((([] : List Nat) ++ own_bits (Int32.ofNat A)) ++ own_bits (Int32.ofNat B)) ++ own_bits (Int32.ofNat D)).length)), (.int (Int32.ofNat ((((([] : List Nat) ++ own_bits (Int32.ofNat A)) ++ own_bits (Int32.ofNat B)) ++ own_bits (Int32.ofNat D)) ++ own_bits (Int32.ofNat (7 - A))).length)), (.int (Int32.ofNat (((((([] : List Nat) ++ own_bits (Int32.ofNat A)) ++ own_bits (Int32.ofNat B)) ++ own_bits (Int32.ofNat D)) ++ own_bits (Int32.ofNat (7 - A))) ++ own_bits (Int32.ofNat (7 - B))).length)), (.int (Int32.ofNat ((((((([] : List Nat) ++ own_bits (Int32.ofNat A)) ++ own_bits (Int32.ofNat B)) ++ own_bits (Int32.ofNat D)) ++ own_bits (Int32.ofNat (7 - A))) ++ own_bits (Int32.ofNat (7 - B))) ++ own_bits (Int32.ofNat (7 - D))).length))] vs128 vs341 FN2 FN3 V367 (own_AS A B D) V368 (own_preA (L := own_L A B D) (by rw [own_l9 A B D hA hB hD]; exact PR128)) V369 ((((((([] : List Nat) ++ own_one (Int32.ofNat sv) 5) ++ own_one (Int32.ofNat sv) 4) ++ own_one (Int32.ofNat sv) 3) ++ own_one (Int32.ofNat sv) 2) ++ own_one (Int32.ofNat sv) 1) ++ own_one (Int32.ofNat sv) 0).length (by simp only [List.length_append, List.length_nil]; omega) (fun j => ((((((([] : List Nat) ++ own_one (Int32.ofNat sv) 5) ++ own_one (Int32.ofNat sv) 4) ++ own_one (Int32.ofNat sv) 3) ++ own_one (Int32.ofNat sv) 2) ++ own_one (Int32.ofNat sv) 1) ++ own_one (Int32.ofNat sv) 0).getD j 0) (own_preA (by have z := PR341; rw [show ((own_one (Int32.ofNat sv) 0).length + (own_one (Int32.ofNat sv) 1).length + (own_one (Int32.ofNat sv) 2).length + (own_one (Int32.ofNat sv) 3).length + (own_one (Int32.ofNat sv) 4).length + (own_one (Int32.ofNat sv) 5).length) = ((((((([] : List Nat) ++ own_one (Int32.ofNat sv) 5) ++ own_one (Int32.ofNat sv) 4) ++ own_one (Int32.ofNat sv) 3) ++ own_one (Int32.ofNat sv) 2) ++ own_one (Int32.ofNat sv) 1) ++ own_one (Int32.ofNat sv) 0).length by simp only [List.length_append, List.length_nil]; omega] at z; exact z)) (own_gd _ (own_x1 sv)) FN1) rfl EN (hw _ (List.mem_of_getElem? (i := 54) rfl)) (hw _ (List.mem_of_getElem? (i := 55) rfl)) (hw _ (List.mem_of_getElem? (i := 57) rfl)) (hw _ (List.mem_of_getElem? (i := 56) rfl)) (hw _ (List.mem_of_getElem? (i := 13) rfl)) (hw _ (List.mem_of_getElem? (i := 58) rfl)) (by decide) at_384 pd7 rfl (W := 0) rfl rfl (by decide) (by decide) (by decide) (by decide) rfl rfl rfl
    subst ev374
    have G374 := g374 [(.ref ra)] rfl
    have ne375 : a38 ≠ ra := Nat.ne_of_lt (Nat.lt_of_lt_of_le V367.lt szr)
    have ne376 : a34 ≠ ra := Nat.ne_of_lt (Nat.lt_of_lt_of_le V368.lt szr)
    have ne377 : a158 ≠ ra := Nat.ne_of_lt (Nat.lt_of_lt_of_le V369.lt szr)
    have ne378 : a346 ≠ ra := Nat.ne_of_lt (Nat.lt_of_lt_of_le EN.lt szr)
    have ne379 : ca ≠ ra := Nat.ne_of_lt (Nat.lt_of_lt_of_le VCN.lt szr)
    have V380 : Av Z h374 a38 .int [(.int (0 : Int32)), (.int (Int32.ofNat (([] : List Nat) ++ own_bits (Int32.ofNat A)).length)), (.int (Int32.ofNat ((([] : List Nat) ++ own_bits (Int32.ofNat A)) ++ own_bits (Int32.ofNat B)).length)), (.int (Int32.ofNat (((([] : List Nat) ++ own_bits (Int32.ofNat A)) ++ own_bits (Int32.ofNat B)) ++ own_bits (Int32.ofNat D)).length)), (.int (Int32.ofNat ((((([] : List Nat) ++ own_bits (Int32.ofNat A)) ++ own_bits (Int32.ofNat B)) ++ own_bits (Int32.ofNat D)) ++ own_bits (Int32.ofNat (7 - A))).length)), (.int (Int32.ofNat (((((([] : List Nat) ++ own_bits (Int32.ofNat A)) ++ own_bits (Int32.ofNat B)) ++ own_bits (Int32.ofNat D)) ++ own_bits (Int32.ofNat (7 - A))) ++ own_bits (Int32.ofNat (7 - B))).length)), (.int (Int32.ofNat ((((((([] : List Nat) ++ own_bits (Int32.ofNat A)) ++ own_bits (Int32.ofNat B)) ++ own_bits (Int32.ofNat D)) ++ own_bits (Int32.ofNat (7 - A))) ++ own_bits (Int32.ofNat (7 - B))) ++ own_bits (Int32.ofNat (7 - D))).length))] := V367.keep K374 nin0
    have V381 : Av Z h374 a34 .int vs128 := V368.keep K374 nin0
    have V382 : Av Z h374 a158 .int vs341 := V369.keep K374 nin0
    have E383 : Exa Z h374 a346 "com/example/rhumb/rhumb/InstanceTags" := EN.keep K374
    have F384 : Fld Z h374 a346 "com/example/rhumb/rhumb/InstanceTags" "tagCount" "I" (.int (Int32.ofNat 3)) := FN1.keep K374 nin0
    have F385 : Fld Z h374 a346 "com/example/rhumb/rhumb/InstanceTags" "tagStart" "[I" (.ref a38) := FN2.keep K374 nin0
    have F386 : Fld Z h374 a346 "com/example/rhumb/rhumb/InstanceTags" "tagIds" "[I" (.ref a34) := FN3.keep K374 nin0
    have F387 : Fld Z h374 a346 "com/example/rhumb/rhumb/InstanceTags" "instanceStart" "[I" (.ref ca) := FN4.keep K374 nin0
    have V388 : Av Z h374 ca .int vC := VCN.keep K374 nin0
    have G389 := G374.astore (L' := #[.val (.int x0), .val (.int x1), .val (.int (Int32.ofNat A)), .val (.int (Int32.ofNat B)), .val (.int (Int32.ofNat D)), .val (.int (Int32.ofNat sv)), .val (.int zr), .val (.ref a34), .val (.ref a38), .val (.int (Int32.ofNat ((own_one (Int32.ofNat sv) 0).length + (own_one (Int32.ofNat sv) 1).length + (own_one (Int32.ofNat sv) 2).length + (own_one (Int32.ofNat sv) 3).length + (own_one (Int32.ofNat sv) 4).length + (own_one (Int32.ofNat sv) 5).length))), .val (.ref a158), .val (.int (Int32.ofNat ((((((([] : List Nat) ++ own_one (Int32.ofNat sv) 5) ++ own_one (Int32.ofNat sv) 4) ++ own_one (Int32.ofNat sv) 3) ++ own_one (Int32.ofNat sv) 2) ++ own_one (Int32.ofNat sv) 1) ++ own_one (Int32.ofNat sv) 0).length)), .val (.ref a346), .val (.ref ra)]) (pc' := 389) at_387 rfl
    have G390 := G389.aload (v := (.ref ra)) (pc' := 391) at_389 rfl
    have G391 := G390.arrlen (pc' := 392) (v := (Int32.ofNat 3)) VR (by rw [AR.1]; decide) at_391
    have G392 := G391.iconst (v := (3 : Int32)) (pc' := 393) at_392
    have G393 := G392.icmpY at_393 398 (Jvm.Free.XT.ii_eq_t rfl)
    have G394 := G393.aload (v := (.ref ra)) (pc' := 400) at_398 rfl
    have G395 := G394.iconst (v := (0 : Int32)) (pc' := 401) at_400
    have G396 := G395.ldI (i := 0) (v := (.int (Int32.ofNat (own_mc (fun i => (own_L A B D).getD i 0) (own_S A B D) (fun j => ((((((([] : List Nat) ++ own_one (Int32.ofNat sv) 5) ++ own_one (Int32.ofNat sv) 4) ++ own_one (Int32.ofNat sv) 3) ++ own_one (Int32.ofNat sv) 2) ++ own_one (Int32.ofNat sv) 1) ++ own_one (Int32.ofNat sv) 0).getD j 0) ((((((([] : List Nat) ++ own_one (Int32.ofNat sv) 5) ++ own_one (Int32.ofNat sv) 4) ++ own_one (Int32.ofNat sv) 3) ++ own_one (Int32.ofNat sv) 2) ++ own_one (Int32.ofNat sv) 1) ++ own_one (Int32.ofNat sv) 0).length 0)))) (pc' := 402) VR (by decide) (AR.2 0 (by decide)) at_401
    have G397 := G396.iload (v := (Int32.ofNat sv)) (pc' := 404) at_402 rfl
    have G398 := G397.iloadN (v := (Int32.ofNat A)) (pc' := 405) at_404 rfl
    have G399 := G398.iloadN (v := (Int32.ofNat B)) (pc' := 406) at_405 rfl
    have G400 := G399.iload (v := (Int32.ofNat D)) (pc' := 408) at_406 rfl
    have G401 := G400.iconst (v := (0 : Int32)) (pc' := 409) at_408
    obtain ⟨v402, h402, ⟨ev402, eh402⟩, g402⟩ := G401.callS (argsL := [(.int (Int32.ofNat sv)), (.int (Int32.ofNat A)), (.int (Int32.ofNat B)), (.int (Int32.ofNat D)), (.int (0 : Int32))]) (rest := [(.int (Int32.ofNat (own_mc (fun i => (own_L A B D).getD i 0) (own_S A B D) (fun j => ((((((([] : List Nat) ++ own_one (Int32.ofNat sv) 5) ++ own_one (Int32.ofNat sv) 4) ++ own_one (Int32.ofNat sv) 3) ++ own_one (Int32.ofNat sv) 2) ++ own_one (Int32.ofNat sv) 1) ++ own_one (Int32.ofNat sv) 0).getD j 0) ((((((([] : List Nat) ++ own_one (Int32.ofNat sv) 5) ++ own_one (Int32.ofNat sv) 4) ++ own_one (Int32.ofNat sv) 3) ++ own_one (Int32.ofNat sv) 2) ++ own_one (Int32.ofNat sv) 1) ++ own_one (Int32.ofNat sv) 0).length 0)))]) (pc' := 412) (k' := 8) (j' := 60) (cn12 l Z a0 hw (Int32.ofNat sv) (Int32.ofNat A) (Int32.ofNat B) (Int32.ofNat D) (0 : Int32) h374 n0 G401.size) rfl (hw _ (List.mem_of_getElem? (i := 59) rfl)) (hw _ (List.mem_of_getElem? (i := 60) rfl)) (hw _ (List.mem_of_getElem? (i := 3) rfl)) (hw _ (List.mem_of_getElem? (i := 61) rfl)) (by decide) at_409 pd8 rfl (W := 1) rfl rfl (by decide) (by decide) (by decide) (by decide) rfl rfl rfl
    subst ev402
    rw [eh402] at g402
    have G402 := g402 [(.int (fE (Int32.ofNat sv) (Int32.ofNat A) (Int32.ofNat B) (Int32.ofNat D) (0 : Int32))), (.int (Int32.ofNat (own_mc (fun i => (own_L A B D).getD i 0) (own_S A B D) (fun j => ((((((([] : List Nat) ++ own_one (Int32.ofNat sv) 5) ++ own_one (Int32.ofNat sv) 4) ++ own_one (Int32.ofNat sv) 3) ++ own_one (Int32.ofNat sv) 2) ++ own_one (Int32.ofNat sv) 1) ++ own_one (Int32.ofNat sv) 0).getD j 0) ((((((([] : List Nat) ++ own_one (Int32.ofNat sv) 5) ++ own_one (Int32.ofNat sv) 4) ++ own_one (Int32.ofNat sv) 3) ++ own_one (Int32.ofNat sv) 2) ++ own_one (Int32.ofNat sv) 1) ++ own_one (Int32.ofNat sv) 0).length 0)))] rfl
    have G403 := G402.icmpN at_412 415 (Jvm.Free.XT.ii_ne_f (own_fin A B D sv 0 hA hB hD hsv (by decide) _ (own_x1 sv) (own_m1 A B D sv 0)))
    have G404 := G403.aload (v := (.ref ra)) (pc' := 417) at_415 rfl
    have G405 := G404.iconst (v := (1 : Int32)) (pc' := 418) at_417
    have G406 := G405.ldI (i := 1) (v := (.int (Int32.ofNat (own_mc (fun i => (own_L A B D).getD i 0) (own_S A B D) (fun j => ((((((([] : List Nat) ++ own_one (Int32.ofNat sv) 5) ++ own_one (Int32.ofNat sv) 4) ++ own_one (Int32.ofNat sv) 3) ++ own_one (Int32.ofNat sv) 2) ++ own_one (Int32.ofNat sv) 1) ++ own_one (Int32.ofNat sv) 0).getD j 0) ((((((([] : List Nat) ++ own_one (Int32.ofNat sv) 5) ++ own_one (Int32.ofNat sv) 4) ++ own_one (Int32.ofNat sv) 3) ++ own_one (Int32.ofNat sv) 2) ++ own_one (Int32.ofNat sv) 1) ++ own_one (Int32.ofNat sv) 0).length 1)))) (pc' := 419) VR (by decide) (AR.2 1 (by decide)) at_418
    have G407 := G406.iload (v := (Int32.ofNat sv)) (pc' := 421) at_419 rfl
    have G408 := G407.iloadN (v := (Int32.ofNat A)) (pc' := 422) at_421 rfl
    have G409 := G408.iloadN (v := (Int32.ofNat B)) (pc' := 423) at_422 rfl
    have G410 := G409.iload (v := (Int32.ofNat D)) (pc' := 425) at_423 rfl
    have G411 := G410.iconst (v := (1 : Int32)) (pc' := 426) at_425
    obtain ⟨v412, h412, ⟨ev412, eh412⟩, g412⟩ := G411.callS (argsL := [(.int (Int32.ofNat sv)), (.int (Int32.ofNat A)), (.int (Int32.ofNat B)), (.int (Int32.ofNat D)), (.int (1 : Int32))]) (rest := [(.int (Int32.ofNat (own_mc (fun i => (own_L A B D).getD i 0) (own_S A B D) (fun j => ((((((([] : List Nat) ++ own_one (Int32.ofNat sv) 5) ++ own_one (Int32.ofNat sv) 4) ++ own_one (Int32.ofNat sv) 3) ++ own_one (Int32.ofNat sv) 2) ++ own_one (Int32.ofNat sv) 1) ++ own_one (Int32.ofNat sv) 0).getD j 0) ((((((([] : List Nat) ++ own_one (Int32.ofNat sv) 5) ++ own_one (Int32.ofNat sv) 4) ++ own_one (Int32.ofNat sv) 3) ++ own_one (Int32.ofNat sv) 2) ++ own_one (Int32.ofNat sv) 1) ++ own_one (Int32.ofNat sv) 0).length 1)))]) (pc' := 429) (k' := 8) (j' := 60) (cn12 l Z a0 hw (Int32.ofNat sv) (Int32.ofNat A) (Int32.ofNat B) (Int32.ofNat D) (1 : Int32) h374 n0 G411.size) rfl (hw _ (List.mem_of_getElem? (i := 59) rfl)) (hw _ (List.mem_of_getElem? (i := 60) rfl)) (hw _ (List.mem_of_getElem? (i := 3) rfl)) (hw _ (List.mem_of_getElem? (i := 61) rfl)) (by decide) at_426 pd8 rfl (W := 1) rfl rfl (by decide) (by decide) (by decide) (by decide) rfl rfl rfl
    subst ev412
    rw [eh412] at g412
    have G412 := g412 [(.int (fE (Int32.ofNat sv) (Int32.ofNat A) (Int32.ofNat B) (Int32.ofNat D) (1 : Int32))), (.int (Int32.ofNat (own_mc (fun i => (own_L A B D).getD i 0) (own_S A B D) (fun j => ((((((([] : List Nat) ++ own_one (Int32.ofNat sv) 5) ++ own_one (Int32.ofNat sv) 4) ++ own_one (Int32.ofNat sv) 3) ++ own_one (Int32.ofNat sv) 2) ++ own_one (Int32.ofNat sv) 1) ++ own_one (Int32.ofNat sv) 0).getD j 0) ((((((([] : List Nat) ++ own_one (Int32.ofNat sv) 5) ++ own_one (Int32.ofNat sv) 4) ++ own_one (Int32.ofNat sv) 3) ++ own_one (Int32.ofNat sv) 2) ++ own_one (Int32.ofNat sv) 1) ++ own_one (Int32.ofNat sv) 0).length 1)))] rfl
    have G413 := G412.icmpN at_429 432 (Jvm.Free.XT.ii_ne_f (own_fin A B D sv 1 hA hB hD hsv (by decide) _ (own_x1 sv) (own_m1 A B D sv 1)))
    have G414 := G413.aload (v := (.ref ra)) (pc' := 434) at_432 rfl
    have G415 := G414.iconst (v := (2 : Int32)) (pc' := 435) at_434
    have G416 := G415.ldI (i := 2) (v := (.int (Int32.ofNat (own_mc (fun i => (own_L A B D).getD i 0) (own_S A B D) (fun j => ((((((([] : List Nat) ++ own_one (Int32.ofNat sv) 5) ++ own_one (Int32.ofNat sv) 4) ++ own_one (Int32.ofNat sv) 3) ++ own_one (Int32.ofNat sv) 2) ++ own_one (Int32.ofNat sv) 1) ++ own_one (Int32.ofNat sv) 0).getD j 0) ((((((([] : List Nat) ++ own_one (Int32.ofNat sv) 5) ++ own_one (Int32.ofNat sv) 4) ++ own_one (Int32.ofNat sv) 3) ++ own_one (Int32.ofNat sv) 2) ++ own_one (Int32.ofNat sv) 1) ++ own_one (Int32.ofNat sv) 0).length 2)))) (pc' := 436) VR (by decide) (AR.2 2 (by decide)) at_435
    have G417 := G416.iload (v := (Int32.ofNat sv)) (pc' := 438) at_436 rfl
    have G418 := G417.iloadN (v := (Int32.ofNat A)) (pc' := 439) at_438 rfl
    have G419 := G418.iloadN (v := (Int32.ofNat B)) (pc' := 440) at_439 rfl
    have G420 := G419.iload (v := (Int32.ofNat D)) (pc' := 442) at_440 rfl
    have G421 := G420.iconst (v := (2 : Int32)) (pc' := 443) at_442
    obtain ⟨v422, h422, ⟨ev422, eh422⟩, g422⟩ := G421.callS (argsL := [(.int (Int32.ofNat sv)), (.int (Int32.ofNat A)), (.int (Int32.ofNat B)), (.int (Int32.ofNat D)), (.int (2 : Int32))]) (rest := [(.int (Int32.ofNat (own_mc (fun i => (own_L A B D).getD i 0) (own_S A B D) (fun j => ((((((([] : List Nat) ++ own_one (Int32.ofNat sv) 5) ++ own_one (Int32.ofNat sv) 4) ++ own_one (Int32.ofNat sv) 3) ++ own_one (Int32.ofNat sv) 2) ++ own_one (Int32.ofNat sv) 1) ++ own_one (Int32.ofNat sv) 0).getD j 0) ((((((([] : List Nat) ++ own_one (Int32.ofNat sv) 5) ++ own_one (Int32.ofNat sv) 4) ++ own_one (Int32.ofNat sv) 3) ++ own_one (Int32.ofNat sv) 2) ++ own_one (Int32.ofNat sv) 1) ++ own_one (Int32.ofNat sv) 0).length 2)))]) (pc' := 446) (k' := 8) (j' := 60) (cn12 l Z a0 hw (Int32.ofNat sv) (Int32.ofNat A) (Int32.ofNat B) (Int32.ofNat D) (2 : Int32) h374 n0 G421.size) rfl (hw _ (List.mem_of_getElem? (i := 59) rfl)) (hw _ (List.mem_of_getElem? (i := 60) rfl)) (hw _ (List.mem_of_getElem? (i := 3) rfl)) (hw _ (List.mem_of_getElem? (i := 61) rfl)) (by decide) at_443 pd8 rfl (W := 1) rfl rfl (by decide) (by decide) (by decide) (by decide) rfl rfl rfl
    subst ev422
    rw [eh422] at g422
    have G422 := g422 [(.int (fE (Int32.ofNat sv) (Int32.ofNat A) (Int32.ofNat B) (Int32.ofNat D) (2 : Int32))), (.int (Int32.ofNat (own_mc (fun i => (own_L A B D).getD i 0) (own_S A B D) (fun j => ((((((([] : List Nat) ++ own_one (Int32.ofNat sv) 5) ++ own_one (Int32.ofNat sv) 4) ++ own_one (Int32.ofNat sv) 3) ++ own_one (Int32.ofNat sv) 2) ++ own_one (Int32.ofNat sv) 1) ++ own_one (Int32.ofNat sv) 0).getD j 0) ((((((([] : List Nat) ++ own_one (Int32.ofNat sv) 5) ++ own_one (Int32.ofNat sv) 4) ++ own_one (Int32.ofNat sv) 3) ++ own_one (Int32.ofNat sv) 2) ++ own_one (Int32.ofNat sv) 1) ++ own_one (Int32.ofNat sv) 0).length 2)))] rfl
    have G423 := G422.icmpN at_446 449 (Jvm.Free.XT.ii_ne_f (own_fin A B D sv 2 hA hB hD hsv (by decide) _ (own_x1 sv) (own_m1 A B D sv 2)))
    have G424 := G423.iconst (v := (1 : Int32)) (pc' := 450) at_449
    have G425 := G424.goto at_450 454
    exact G425.retZ at_454 rfl (Or.inr rfl) rfl
set_option maxRecDepth 65536 in
set_option maxHeartbeats 40000000 in
theorem comes_1 {Post : Tables → Env → Array Value → State → Outcome → State → Prop} (hpost : ∀ tb e args s v u, (limb_1_1.after args s (.returned v) u = true ∧ limb_1_2.after args s (.returned v) u = true) → FrameEnd s (.returned v) u (Jvm.fieldLocs frame_1_writes args s ++ Jvm.arrayLocs frame_1_arrays args s ++ Jvm.staticLocs frame_1_statics s) 24 192 → Post tb e args s (.returned v) u) :
    ArmFor flags0 classFile x code maxLocals ret World_1 tables_1 room_1 Calls_1 rest_1 Pre_1 Post := by
  intro l hfl _ _ p e ha hc hk s m args below hf hA hF happ hP
  obtain ⟨hcalls, hrest, hpre⟩ := hP
  obtain ⟨-, -, -, hnamed, -, -, -, hat⟩ := (Spec.applies_iff hf).mp happ
  obtain ⟨hg, hn⟩ := and_e (Cond.before_iff.mp (show (Jvm.Cond.and given_1 narrow_1).before args s = true from hpre))
  obtain ⟨hcount, hg0⟩ := and_e hg
  obtain ⟨ga0, hg1⟩ := and_e hg0
  have ga1 := hg1
  obtain ⟨w0, w1, rfl⟩ : ∃ w0 w1 : Value, args = #[w0, w1] := by
    have hs : args.size = 2 := by simpa [Cond.value, given_1] using hcount
    obtain ⟨L⟩ := args
    match L, hs with
    | [w0, w1], _ => exact ⟨w0, w1, rfl⟩
  have hw := fun d (hd : d ∈ tables_1) => atoms_spec (ws := Jvm.Cond.code x code maxLocals ret :: tables_1) hat d (List.mem_cons_of_mem _ hd)
  obtain ⟨i0, ei0⟩ := is_v ga0
  obtain rfl : w0 = (.int i0) := Option.some.inj ei0
  obtain ⟨i1, ei1⟩ := is_v ga1
  obtain rfl : w1 = (.int i1) := Option.some.inj ei1
  obtain ⟨n, o, h1, h2, h3, _, L, rfl, ⟨rfl, N⟩, hq⟩ := lawc l s _ hw i0 i1 s.heap s.heap.size (Nat.le_refl _) p e ha hc hk s m _ below hf ((Spec.applies_iff_loose hf).mp happ).1 ⟨rfl, State.Warmed39.refl s, rfl⟩ trivial
  refine ⟨n, _, h1, h2, h3, hpost _ _ _ _ _ _ ⟨Cond.after_iff.mpr rfl, Cond.after_iff.mpr (eq_i res_at (Term.int_eval (1)) rfl)⟩ ⟨hq.1, hq.2.1, (hq.2.2.sift fun y hy => Or.inr (N y hy)).mono (by decide) (by decide)⟩⟩
theorem main_1_1 : Claimed_1_1 := comes_1 fun _ _ _ _ _ _ h hF => ⟨h.1, hF⟩
theorem main_1_2 : Claimed_1_2 := comes_1 fun _ _ _ _ _ _ h hF => ⟨h.2, hF⟩
end Jvm.Pilot.@@N@@
namespace Jvm.Pilot.@@N@@
open Jvm Jvm.ClassFile Sem Op Lib Jvm.Free Jvm.Stand Jvm.Pilot.@@N@@.Jvm.D
/-! MADE BY PROGRAM (witnessworld.py) out of the Statement's table words and the real class files: 12 classes; the members and pool entries that the words name. The judged class is class 1, her method 5. -/
namespace start1
open Jvm.ClassFile
def u (s : String) : CpInfo := .utf8 (stringToUtf16 s)
/-- a pool by its gaps: so many unusable entries, then the entry; so many at the end -/
def gap : Nat → List CpInfo → List CpInfo
  | 0, r => r
  | n + 1, r => .unusable :: gap n r
def poolList (es : List (Nat × CpInfo)) (last : Nat) : List CpInfo := es.foldr (fun e r => gap e.1 (e.2 :: r)) (gap last [])
def pool (es : List (Nat × CpInfo)) (last : Nat) : Array CpInfo := ⟨poolList es last⟩
def fileOf (pool : Array CpInfo) (this : Nat) (attrs : Array Attribute := #[]) (ms : Array MethodInfo := #[]) (fl : Nat := 33) (sup : Nat := 0) (ifs : Array Nat := #[]) (fds : Array FieldInfo := #[]) : ClassFile where
  minorVersion := 0
  majorVersion := 65
  constantPool := pool
  accessFlags := fl
  thisClass := this
  superClass := sup
  interfaces := ifs
  fields := fds
  methods := ms
  attributes := attrs
def plain (name : String) (sup : Option ClassId) : Class where
  name := name
  kind := .ordinary
  loader := none
  accessFlags := 33
  super := sup
  interfaces := #[]
  cf := none
  fields := #[]
  methods := #[]
  instanceTypes := #[]
  staticTypes := #[]
  resolved := #[]
  callSites := []
  init := .initialized
  statics := none
  mirror := none

def pool0 : Array CpInfo := pool [(5, u "<init>"), (0, u "()V"), (1, .class_ 10), (1, u "java/lang/Object")] 113

def k0c0 : Code := { maxStack := 0, maxLocals := 1, code := object_method_1_code, exceptionTable := #[], attributes := #[] }
def k0m0 : Method := { name := "<init>", desc := "()V", sig := { parameters := [], returnType := none }, accessFlags := 1, code := some k0c0 }
/-- java/lang/Object -/
def k0 : Class := { plain "java/lang/Object" none with
  accessFlags := 33
  interfaces := #[]
  cf := some (fileOf pool0 8 #[] #[{ accessFlags := 1, nameIndex := 5, descriptorIndex := 6, attributes := #[] }] 33 0 #[] #[])
  fields := #[]
  methods := #[k0m0]
  instanceTypes := #[]
  staticTypes := #[]
  resolved := Array.replicate 124 none
  statics := none }

def pool1 : Array CpInfo := pool [(2, .class_ 4), (1, u "java/lang/Object"), (0, u "<init>"), (0, u "()V"), (0, .methodref 8 9), (0, .class_ 10), (0, .nameAndType 11 12), (0, u "com/example/rhumb/rhumb/InstanceTagsTagCountsPinLaw"), (0, u "in"), (0, u "(II)I"), (0, .methodref 8 14), (0, .nameAndType 15 16), (0, u "put"), (0, u "([III)I"), (0, .methodref 8 18), (0, .nameAndType 19 20), (0, u "addIf"), (0, u "([IIII)I"), (0, .class_ 22), (0, u "com/example/rhumb/rhumb/InstanceTags"), (0, .methodref 21 24), (0, .nameAndType 5 25), (0, u "(I[I[I)V"), (0, .methodref 21 27), (0, .nameAndType 28 29), (0, u "tagCounts"), (0, u "([I)[I"), (0, .methodref 8 31), (0, .nameAndType 32 33), (0, u "expected"), (0, u "(IIIII)I"), (3, u "law"), (0, u "(II)Z")] 4

def k1m0 : Method := { name := "<init>", desc := "()V", sig := { parameters := [], returnType := none }, accessFlags := 1, code := none }
def k1c1 : Code := { maxStack := 3, maxLocals := 4, code := method_2_code, exceptionTable := #[], attributes := #[] }
def k1m1 : Method := { name := "put", desc := "([III)I", sig := { parameters := [(.array .int), .int, .int], returnType := some .int }, accessFlags := 10, code := some k1c1 }
def k1c2 : Code := { maxStack := 2, maxLocals := 2, code := method_3_code, exceptionTable := #[], attributes := #[] }
def k1m2 : Method := { name := "in", desc := "(II)I", sig := { parameters := [.int, .int], returnType := some .int }, accessFlags := 10, code := some k1c2 }
def k1c3 : Code := { maxStack := 3, maxLocals := 4, code := method_4_code, exceptionTable := #[], attributes := #[] }
def k1m3 : Method := { name := "addIf", desc := "([IIII)I", sig := { parameters := [(.array .int), .int, .int, .int], returnType := some .int }, accessFlags := 10, code := some k1c3 }
def k1c4 : Code := { maxStack := 4, maxLocals := 8, code := method_5_code, exceptionTable := #[], attributes := #[] }
def k1m4 : Method := { name := "expected", desc := "(IIIII)I", sig := { parameters := [.int, .int, .int, .int, .int], returnType := some .int }, accessFlags := 10, code := some k1c4 }
def k1c5 : Code := { maxStack := 6, maxLocals := 14, code := code, exceptionTable := #[], attributes := #[] }
def k1m5 : Method := { name := "law", desc := "(II)Z", sig := { parameters := [.int, .int], returnType := some .boolean }, accessFlags := 9, code := some k1c5 }
/-- com/example/rhumb/rhumb/InstanceTagsTagCountsPinLaw -/
def k1 : Class := { plain "com/example/rhumb/rhumb/InstanceTagsTagCountsPinLaw" (some 0) with
  accessFlags := 49
  interfaces := #[]
  cf := some (fileOf pool1 8 #[] #[{ accessFlags := 1, nameIndex := 5, descriptorIndex := 6, attributes := #[] }, { accessFlags := 10, nameIndex := 15, descriptorIndex := 16, attributes := #[] }, { accessFlags := 10, nameIndex := 11, descriptorIndex := 12, attributes := #[] }, { accessFlags := 10, nameIndex := 19, descriptorIndex := 20, attributes := #[] }, { accessFlags := 10, nameIndex := 32, descriptorIndex := 33, attributes := #[] }, { accessFlags := 9, nameIndex := 37, descriptorIndex := 38, attributes := #[] }] 49 2 #[] #[])
  fields := #[]
  methods := #[k1m0, k1m1, k1m2, k1m3, k1m4, k1m5]
  instanceTypes := #[]
  staticTypes := #[]
  resolved := Array.replicate 43 none
  statics := none }

def pool2 : Array CpInfo := pool [(1, .methodref 2 3), (0, .class_ 4), (0, .nameAndType 5 6), (0, u "java/lang/Object"), (0, u "<init>"), (0, u "()V"), (0, .methodref 8 9), (0, .class_ 10), (0, .nameAndType 11 12), (0, u "com/example/rhumb/rhumb/InstanceTags"), (0, u "checkTagsOfInstances"), (0, u "(I[I[I)V"), (0, .fieldref 8 14), (0, .nameAndType 15 16), (0, u "tagCount"), (0, u "I"), (0, .fieldref 8 18), (0, .nameAndType 19 20), (0, u "tagStart"), (0, u "[I"), (0, .fieldref 8 22), (0, .nameAndType 23 20), (0, u "tagIds"), (0, .fieldref 8 25), (0, .nameAndType 26 20), (0, u "instanceStart"), (0, .fieldref 8 28), (0, .nameAndType 29 20), (0, u "instanceIds"), (0, .methodref 8 31), (0, .nameAndType 32 6), (0, u "invert"), (13, .methodref 47 48), (0, .class_ 49), (0, .nameAndType 50 51), (0, u "java/util/Arrays"), (0, u "copyOf"), (0, u "([II)[I"), (0, .methodref 8 53), (0, .nameAndType 54 55), (0, u "instanceCount"), (0, u "()I"), (83, u "tagCounts"), (0, u "([I)[I")] 37

def k2c0 : Code := { maxStack := 3, maxLocals := 4, code := prog_15_method_1_code, exceptionTable := #[], attributes := #[] }
def k2m0 : Method := { name := "<init>", desc := "(I[I[I)V", sig := { parameters := [.int, (.array .int), (.array .int)], returnType := none }, accessFlags := 0, code := some k2c0 }
def k2c1 : Code := { maxStack := 4, maxLocals := 6, code := prog_15_method_2_code, exceptionTable := #[], attributes := #[] }
def k2m1 : Method := { name := "checkTagsOfInstances", desc := "(I[I[I)V", sig := { parameters := [.int, (.array .int), (.array .int)], returnType := none }, accessFlags := 10, code := some k2c1 }
def k2c2 : Code := { maxStack := 6, maxLocals := 5, code := prog_15_method_3_code, exceptionTable := #[], attributes := #[] }
def k2m2 : Method := { name := "invert", desc := "()V", sig := { parameters := [], returnType := none }, accessFlags := 2, code := some k2c2 }
def k2c3 : Code := { maxStack := 2, maxLocals := 1, code := prog_15_method_4_code, exceptionTable := #[], attributes := #[] }
def k2m3 : Method := { name := "instanceCount", desc := "()I", sig := { parameters := [], returnType := some .int }, accessFlags := 0, code := some k2c3 }
def k2c4 : Code := { maxStack := 4, maxLocals := 8, code := prog_15_method_9_code, exceptionTable := #[], attributes := #[] }
def k2m4 : Method := { name := "tagCounts", desc := "([I)[I", sig := { parameters := [(.array .int)], returnType := some (.array .int) }, accessFlags := 0, code := some k2c4 }
/-- com/example/rhumb/rhumb/InstanceTags -/
def k2 : Class := { plain "com/example/rhumb/rhumb/InstanceTags" (some 0) with
  accessFlags := 48
  interfaces := #[]
  cf := some (fileOf pool2 8 #[] #[{ accessFlags := 0, nameIndex := 5, descriptorIndex := 12, attributes := #[] }, { accessFlags := 10, nameIndex := 11, descriptorIndex := 12, attributes := #[] }, { accessFlags := 2, nameIndex := 32, descriptorIndex := 6, attributes := #[] }, { accessFlags := 0, nameIndex := 54, descriptorIndex := 55, attributes := #[] }, { accessFlags := 0, nameIndex := 139, descriptorIndex := 140, attributes := #[] }] 48 2 #[] #[{ accessFlags := 18, nameIndex := 15, descriptorIndex := 16, attributes := #[] }, { accessFlags := 18, nameIndex := 19, descriptorIndex := 20, attributes := #[] }, { accessFlags := 18, nameIndex := 23, descriptorIndex := 20, attributes := #[] }, { accessFlags := 18, nameIndex := 26, descriptorIndex := 20, attributes := #[] }, { accessFlags := 18, nameIndex := 29, descriptorIndex := 20, attributes := #[] }])
  fields := #[{ name := "tagCount", type := .int, accessFlags := 18, slot := 0, constantValue := 0 }, { name := "tagStart", type := (.array .int), accessFlags := 18, slot := 1, constantValue := 0 }, { name := "tagIds", type := (.array .int), accessFlags := 18, slot := 2, constantValue := 0 }, { name := "instanceStart", type := (.array .int), accessFlags := 18, slot := 3, constantValue := 0 }, { name := "instanceIds", type := (.array .int), accessFlags := 18, slot := 4, constantValue := 0 }]
  methods := #[k2m0, k2m1, k2m2, k2m3, k2m4]
  instanceTypes := #[.int, (.array .int), (.array .int), (.array .int), (.array .int)]
  staticTypes := #[]
  resolved := Array.replicate 178 none
  statics := none }

def pool3 : Array CpInfo := pool [(2, .class_ 4), (1, u "java/lang/Object"), (0, u "<init>"), (0, u "()V"), (7, .class_ 16), (1, u "java/util/Arrays"), (57, .class_ 76), (1, u "java/util/Arrays$NaturalOrder"), (36, .class_ 115), (1, u "java/util/Arrays$LegacyMergeSort"), (1, u "Z"), (32, .methodref 151 152), (0, .class_ 153), (0, .nameAndType 154 155), (0, u "java/lang/System"), (0, u "arraycopy"), (0, u "(Ljava/lang/Object;ILjava/lang/Object;II)V"), (146, u "copyOf"), (1, .methodref 305 306), (0, .class_ 307), (0, .nameAndType 308 309), (0, u "java/lang/Math"), (0, u "min"), (0, u "(II)I"), (65, .class_ 376), (0, u "java/util/Arrays$ArrayList"), (68, u "$assertionsDisabled"), (269, u "MIN_ARRAY_SORT_GRAN"), (0, u "I"), (2, u "INSERTIONSORT_THRESHOLD"), (151, u "([II)[I"), (103, .class_ 976), (0, u "java/util/Arrays$ArrayItr")] 52

def k3m0 : Method := { name := "<init>", desc := "()V", sig := { parameters := [], returnType := none }, accessFlags := 2, code := none }
def k3c1 : Code := { maxStack := 6, maxLocals := 3, code := jdk_65_method_123_code, exceptionTable := #[], attributes := #[] }
def k3m1 : Method := { name := "copyOf", desc := "([II)[I", sig := { parameters := [(.array .int), .int], returnType := some (.array .int) }, accessFlags := 9, code := some k3c1 }
/-- java/util/Arrays -/
def k3 : Class := { plain "java/util/Arrays" (some 0) with
  accessFlags := 49
  interfaces := #[]
  cf := some (fileOf pool3 14 #[.nestMembers #[975, 375, 113, 74]] #[{ accessFlags := 2, nameIndex := 5, descriptorIndex := 6, attributes := #[] }, { accessFlags := 9, nameIndex := 302, descriptorIndex := 871, attributes := #[] }] 49 2 #[] #[{ accessFlags := 26, nameIndex := 715, descriptorIndex := 716, attributes := #[] }, { accessFlags := 26, nameIndex := 719, descriptorIndex := 716, attributes := #[] }, { accessFlags := 4120, nameIndex := 445, descriptorIndex := 117, attributes := #[] }])
  fields := #[{ name := "MIN_ARRAY_SORT_GRAN", type := .int, accessFlags := 26, slot := 0, constantValue := 0 }, { name := "INSERTIONSORT_THRESHOLD", type := .int, accessFlags := 26, slot := 1, constantValue := 0 }, { name := "$assertionsDisabled", type := .boolean, accessFlags := 4120, slot := 2, constantValue := 0 }]
  methods := #[k3m0, k3m1]
  instanceTypes := #[]
  staticTypes := #[.int, .int, .boolean]
  resolved := Array.replicate 1029 none
  statics := none }

def pool4 : Array CpInfo := pool [(1, .class_ 2), (0, u "java/lang/Math"), (1, .class_ 6), (1, u "java/lang/Object"), (0, u "<init>"), (0, u "()V"), (89, .class_ 100), (1, u "java/lang/Math$RandomNumberGeneratorHolder"), (71, u "negativeZeroFloatBits"), (0, u "J"), (2, u "negativeZeroDoubleBits"), (24, u "min"), (43, u "$assertionsDisabled"), (0, u "Z"), (88, u "(II)I"), (2, u "twoToTheDoubleScaleDown"), (0, u "D"), (4, u "twoToTheDoubleScaleUp"), (9, u "E"), (3, u "PI"), (2, u "TAU"), (2, u "DEGREES_TO_RADIANS"), (0, u "RADIANS_TO_DEGREES")] 94

def k4m0 : Method := { name := "<init>", desc := "()V", sig := { parameters := [], returnType := none }, accessFlags := 2, code := none }
def k4c1 : Code := { maxStack := 2, maxLocals := 2, code := jdk_29_method_69_code, exceptionTable := #[], attributes := #[] }
def k4m1 : Method := { name := "min", desc := "(II)I", sig := { parameters := [.int, .int], returnType := some .int }, accessFlags := 9, code := some k4c1 }
/-- java/lang/Math -/
def k4 : Class := { plain "java/lang/Math" (some 0) with
  accessFlags := 49
  interfaces := #[]
  cf := some (fileOf pool4 1 #[.nestMembers #[98]] #[{ accessFlags := 2, nameIndex := 7, descriptorIndex := 8, attributes := #[] }, { accessFlags := 9, nameIndex := 201, descriptorIndex := 335, attributes := #[] }] 49 4 #[] #[{ accessFlags := 25, nameIndex := 354, descriptorIndex := 339, attributes := #[] }, { accessFlags := 25, nameIndex := 358, descriptorIndex := 339, attributes := #[] }, { accessFlags := 25, nameIndex := 361, descriptorIndex := 339, attributes := #[] }, { accessFlags := 26, nameIndex := 364, descriptorIndex := 339, attributes := #[] }, { accessFlags := 26, nameIndex := 365, descriptorIndex := 339, attributes := #[] }, { accessFlags := 26, nameIndex := 172, descriptorIndex := 173, attributes := #[] }, { accessFlags := 26, nameIndex := 176, descriptorIndex := 173, attributes := #[] }, { accessFlags := 8, nameIndex := 344, descriptorIndex := 339, attributes := #[] }, { accessFlags := 8, nameIndex := 338, descriptorIndex := 339, attributes := #[] }, { accessFlags := 4120, nameIndex := 245, descriptorIndex := 246, attributes := #[] }])
  fields := #[{ name := "E", type := .double, accessFlags := 25, slot := 0, constantValue := 0 }, { name := "PI", type := .double, accessFlags := 25, slot := 1, constantValue := 0 }, { name := "TAU", type := .double, accessFlags := 25, slot := 2, constantValue := 0 }, { name := "DEGREES_TO_RADIANS", type := .double, accessFlags := 26, slot := 3, constantValue := 0 }, { name := "RADIANS_TO_DEGREES", type := .double, accessFlags := 26, slot := 4, constantValue := 0 }, { name := "negativeZeroFloatBits", type := .long, accessFlags := 26, slot := 5, constantValue := 0 }, { name := "negativeZeroDoubleBits", type := .long, accessFlags := 26, slot := 6, constantValue := 0 }, { name := "twoToTheDoubleScaleUp", type := .double, accessFlags := 8, slot := 7, constantValue := 0 }, { name := "twoToTheDoubleScaleDown", type := .double, accessFlags := 8, slot := 8, constantValue := 0 }, { name := "$assertionsDisabled", type := .boolean, accessFlags := 4120, slot := 9, constantValue := 0 }]
  methods := #[k4m0, k4m1]
  instanceTypes := #[]
  staticTypes := #[.double, .double, .double, .double, .double, .long, .long, .double, .double, .boolean]
  resolved := Array.replicate 460 none
  statics := none }

def pool5 : Array CpInfo := pool [(2, .class_ 4), (1, u "java/lang/Object"), (0, u "<init>"), (0, u "()V"), (1, .class_ 10), (1, u "java/lang/System"), (0, u "allowSecurityManager"), (0, u "I"), (16, u "cons"), (0, u "Ljava/io/Console;"), (77, .class_ 110), (1, u "java/lang/System$CallersHolder"), (43, u "initialErrStream"), (0, u "Ljava/io/PrintStream;"), (19, u "security"), (0, u "Ljava/lang/SecurityManager;"), (31, .class_ 209), (0, u "java/lang/System$1"), (7, u "props"), (0, u "Ljava/util/Properties;"), (2, u "lineSeparator"), (0, u "Ljava/lang/String;"), (96, .class_ 321), (1, u "java/lang/System$LoggerFinder"), (5, .class_ 328), (0, u "java/lang/System$Logger"), (67, u "err"), (2, u "out"), (91, u "notSupportedJnuEncoding"), (15, u "in"), (17, u "initialIn"), (0, u "Ljava/io/InputStream;"), (35, u "bootLayer"), (0, u "Ljava/lang/ModuleLayer;"), (99, .class_ 664), (0, u "java/lang/System$2"), (9, u "NEVER"), (2, u "MAYBE"), (49, u "arraycopy"), (0, u "(Ljava/lang/Object;ILjava/lang/Object;II)V"), (72, .class_ 802), (0, u "java/lang/System$Logger$Level")] 31

def k5m0 : Method := { name := "<init>", desc := "()V", sig := { parameters := [], returnType := none }, accessFlags := 2, code := none }
def k5m1 : Method := { name := "arraycopy", desc := "(Ljava/lang/Object;ILjava/lang/Object;II)V", sig := { parameters := [(.object "java/lang/Object"), .int, (.object "java/lang/Object"), .int, .int], returnType := none }, accessFlags := 265, code := none }
/-- java/lang/System -/
def k5 : Class := { plain "java/lang/System" (some 0) with
  accessFlags := 49
  interfaces := #[]
  cf := some (fileOf pool5 8 #[.nestMembers #[319, 327, 801, 108, 663, 208]] #[{ accessFlags := 2, nameIndex := 5, descriptorIndex := 6, attributes := #[] }, { accessFlags := 265, nameIndex := 727, descriptorIndex := 728, attributes := #[] }] 49 2 #[] #[{ accessFlags := 25, nameIndex := 507, descriptorIndex := 526, attributes := #[] }, { accessFlags := 25, nameIndex := 399, descriptorIndex := 155, attributes := #[] }, { accessFlags := 25, nameIndex := 396, descriptorIndex := 155, attributes := #[] }, { accessFlags := 10, nameIndex := 525, descriptorIndex := 526, attributes := #[] }, { accessFlags := 26, nameIndex := 674, descriptorIndex := 12, attributes := #[] }, { accessFlags := 26, nameIndex := 677, descriptorIndex := 12, attributes := #[] }, { accessFlags := 10, nameIndex := 11, descriptorIndex := 12, attributes := #[] }, { accessFlags := 74, nameIndex := 175, descriptorIndex := 176, attributes := #[] }, { accessFlags := 10, nameIndex := 491, descriptorIndex := 222, attributes := #[] }, { accessFlags := 74, nameIndex := 29, descriptorIndex := 30, attributes := #[] }, { accessFlags := 74, nameIndex := 154, descriptorIndex := 155, attributes := #[] }, { accessFlags := 10, nameIndex := 217, descriptorIndex := 218, attributes := #[] }, { accessFlags := 10, nameIndex := 221, descriptorIndex := 222, attributes := #[] }, { accessFlags := 8, nameIndex := 562, descriptorIndex := 563, attributes := #[] }])
  fields := #[{ name := "in", type := (.object "java/io/InputStream"), accessFlags := 25, slot := 0, constantValue := 0 }, { name := "out", type := (.object "java/io/PrintStream"), accessFlags := 25, slot := 1, constantValue := 0 }, { name := "err", type := (.object "java/io/PrintStream"), accessFlags := 25, slot := 2, constantValue := 0 }, { name := "initialIn", type := (.object "java/io/InputStream"), accessFlags := 10, slot := 3, constantValue := 0 }, { name := "NEVER", type := .int, accessFlags := 26, slot := 4, constantValue := 0 }, { name := "MAYBE", type := .int, accessFlags := 26, slot := 5, constantValue := 0 }, { name := "allowSecurityManager", type := .int, accessFlags := 10, slot := 6, constantValue := 0 }, { name := "security", type := (.object "java/lang/SecurityManager"), accessFlags := 74, slot := 7, constantValue := 0 }, { name := "notSupportedJnuEncoding", type := (.object "java/lang/String"), accessFlags := 10, slot := 8, constantValue := 0 }, { name := "cons", type := (.object "java/io/Console"), accessFlags := 74, slot := 9, constantValue := 0 }, { name := "initialErrStream", type := (.object "java/io/PrintStream"), accessFlags := 74, slot := 10, constantValue := 0 }, { name := "props", type := (.object "java/util/Properties"), accessFlags := 10, slot := 11, constantValue := 0 }, { name := "lineSeparator", type := (.object "java/lang/String"), accessFlags := 10, slot := 12, constantValue := 0 }, { name := "bootLayer", type := (.object "java/lang/ModuleLayer"), accessFlags := 8, slot := 13, constantValue := 0 }]
  methods := #[k5m0, k5m1]
  instanceTypes := #[]
  staticTypes := #[(.object "java/io/InputStream"), (.object "java/io/PrintStream"), (.object "java/io/PrintStream"), (.object "java/io/InputStream"), .int, .int, .int, (.object "java/lang/SecurityManager"), (.object "java/lang/String"), (.object "java/io/Console"), (.object "java/io/PrintStream"), (.object "java/util/Properties"), (.object "java/lang/String"), (.object "java/lang/ModuleLayer")]
  resolved := Array.replicate 834 none
  statics := none }

def pool6 : Array CpInfo := pool [(1, u "java/lang/Cloneable"), (0, .class_ 1), (0, u "java/lang/Object"), (0, .class_ 3)] 3

/-- java/lang/Cloneable -/
def k6 : Class := { plain "java/lang/Cloneable" (some 0) with
  accessFlags := 1537
  interfaces := #[]
  cf := some (fileOf pool6 2 #[] #[] 1537 4 #[] #[])
  fields := #[]
  methods := #[]
  instanceTypes := #[]
  staticTypes := #[]
  resolved := Array.replicate 8 none
  statics := none }

def pool7 : Array CpInfo := pool [(1, u "java/io/Serializable"), (0, .class_ 1), (0, u "java/lang/Object"), (0, .class_ 3)] 3

/-- java/io/Serializable -/
def k7 : Class := { plain "java/io/Serializable" (some 0) with
  accessFlags := 1537
  interfaces := #[]
  cf := some (fileOf pool7 2 #[] #[] 1537 4 #[] #[])
  fields := #[]
  methods := #[]
  instanceTypes := #[]
  staticTypes := #[]
  resolved := Array.replicate 8 none
  statics := none }

/-- the primitive byte -/
def k8 : Class := { plain "byte" none with kind := .primitive 'B', accessFlags := 0x411 }
/-- [B -/
def k9 : Class := { plain "[B" (some 0) with kind := .array 8 .byte, interfaces := #[6, 7], accessFlags := 1041 }

/-- the primitive int -/
def k10 : Class := { plain "int" none with kind := .primitive 'I', accessFlags := 0x411 }
/-- [I -/
def k11 : Class := { plain "[I" (some 0) with kind := .array 10 .int, interfaces := #[6, 7], accessFlags := 1041 }

def heap : Heap := #[]
def classes : Array Class := #[k0, k1, k2, k3, k4, k5, k6, k7, k8, k9, k10, k11]
def interned : List (Array UInt16 × Addr) := []
def slotsUsed : Nat := 0
def theMethod : MethodId := ⟨1, 5⟩
def args0 : Array Value := #[.int 3, .int 5]
def aboutOver (below : List Frame) : State where
  vm := { classes := classes, interned := interned.toArray }
  heap := heap
  slotsUsed := slotsUsed
  threads := #[{ frames := .invoking theMethod args0 :: below }]
def below0 : List Frame := [.native { method := ⟨0, 0⟩, args := #[] }]
def about1 : State := aboutOver below0
def p0 : Program := .bare "" "" ""
def e0 : Env := launch0.env 0 0 0
theorem w_frames : about1.frames = Frame.invoking theMethod args0 :: below0 := rfl
set_option maxRecDepth 65536 in
theorem w_args : argsFit about1.vm theMethod args0 = true := by decide +kernel
set_option maxRecDepth 65536 in
theorem w_heap : heapFits about1 = true := by decide +kernel
set_option maxRecDepth 65536 in
theorem w_runnable : about1.curStatus? = some .runnable := by decide +kernel
set_option maxRecDepth 65536 in
theorem w_alone : about1.alone = true := by decide +kernel
set_option maxRecDepth 65536 in
theorem w_named : about1.methodNamed? x = some theMethod := by decide +kernel
set_option maxRecDepth 65536 in
theorem w_hears : about1.hears theMethod below0 = true := by decide +kernel
set_option maxRecDepth 65536 in
theorem w_ripe : about1.ripe theMethod args0 below0 = true := by decide +kernel
theorem w_running : about1.status = .running := rfl
set_option maxRecDepth 65536 in
theorem w_room : about1.hasRoom e0.platform room_1 = true :=
  launch0.hasRoom_least _ room_1 (by decide +kernel) (by decide +kernel) (by decide +kernel) (by decide +kernel) (by decide +kernel) (by decide +kernel)
theorem allAtoms_all (ts : List Jvm.Cond) (a : Array Jvm.Value) (st : Jvm.State) : (allAtoms ts).before a st = ts.all (fun c => c.before a st) := by
  induction ts with
  | nil => rfl
  | cons c t ih =>
    show (Jvm.Cond.and c (allAtoms t)).before a st = _
    rw [Jvm.Cond.before_and, ih, List.all_cons]
def words1 : List Jvm.Cond := Jvm.Cond.code x code maxLocals ret :: tables_1
/-- a 'code' word, met by the world's own term for the bytes: nothing is compared byte by byte -/
theorem code_word {y : MethodName} {bytes : ByteArray} {mx : Nat} {rt : Option FieldType} {a : Array Value} {s : State} {m : MethodId} {meth : Method} {c : Code} (h1 : s.methodNamed? y = some m) (h2 : s.vm.method? m = some meth) (h3 : meth.code = some c) (h4 : c.code = bytes)
    (h5 : (c.maxLocals == mx && c.exceptionTable.isEmpty && decide (c.maxStack ≤ mostOperands) && decide (meth.sig.returnType = rt) && !meth.locks && decide (parseMethodDescriptor y.desc = some meth.sig)) = true) : (Jvm.Cond.code y bytes mx rt).before a s = true := by
  simp only [Bool.and_eq_true, beq_iff_eq, Bool.not_eq_true', decide_eq_true_eq] at h5
  obtain ⟨⟨⟨⟨⟨g1, g2⟩, g3⟩, g4⟩, g5⟩, g6⟩ := h5
  simp [Cond.before, Cond.holds, Cond.value, h1, h2, h3, h4, g1, g2, g3, g4, g5, g6]
def isCode : Jvm.Cond → Bool
  | .code _ _ _ _ => true
  | _ => false
theorem all_split {L : List Jvm.Cond} {P : Jvm.Cond → Bool} (h1 : L.all (fun c => isCode c || P c) = true) (h2 : ∀ c ∈ L.filter isCode, P c = true) : L.all P = true := by
  refine List.all_eq_true.mpr fun c hc => ?_
  have h := List.all_eq_true.mp h1 c hc
  rcases Bool.eq_false_or_eq_true (isCode c) with hi | hi
  · exact h2 c (List.mem_filter.mpr ⟨hc, hi⟩)
  · simpa [hi] using h
set_option maxRecDepth 65536 in
theorem w_c0 : (Jvm.Cond.code x code maxLocals ret).before args0 about1 = true := code_word (m := ⟨1, 5⟩) (meth := k1m5) (c := k1c5) (by decide +kernel) rfl rfl rfl (by decide +kernel)
set_option maxRecDepth 65536 in
theorem w_c1 : (Jvm.Cond.code ({ cls := "com/example/rhumb/rhumb/InstanceTagsTagCountsPinLaw", name := "put", desc := "([III)I" } : Jvm.MethodName) method_2_code (4 : Nat) (Option.some Jvm.ClassFile.FieldType.int)).before args0 about1 = true := code_word (m := ⟨1, 1⟩) (meth := k1m1) (c := k1c1) (by decide +kernel) rfl rfl rfl (by decide +kernel)
set_option maxRecDepth 65536 in
theorem w_c2 : (Jvm.Cond.code ({ cls := "com/example/rhumb/rhumb/InstanceTagsTagCountsPinLaw", name := "in", desc := "(II)I" } : Jvm.MethodName) method_3_code (2 : Nat) (Option.some Jvm.ClassFile.FieldType.int)).before args0 about1 = true := code_word (m := ⟨1, 2⟩) (meth := k1m2) (c := k1c2) (by decide +kernel) rfl rfl rfl (by decide +kernel)
set_option maxRecDepth 65536 in
theorem w_c3 : (Jvm.Cond.code ({ cls := "com/example/rhumb/rhumb/InstanceTagsTagCountsPinLaw", name := "addIf", desc := "([IIII)I" } : Jvm.MethodName) method_4_code (4 : Nat) (Option.some Jvm.ClassFile.FieldType.int)).before args0 about1 = true := code_word (m := ⟨1, 3⟩) (meth := k1m3) (c := k1c3) (by decide +kernel) rfl rfl rfl (by decide +kernel)
set_option maxRecDepth 65536 in
theorem w_c4 : (Jvm.Cond.code ({ cls := "com/example/rhumb/rhumb/InstanceTags", name := "<init>", desc := "(I[I[I)V" } : Jvm.MethodName) prog_15_method_1_code (4 : Nat) (Option.none : Option Jvm.ClassFile.FieldType)).before args0 about1 = true := code_word (m := ⟨2, 0⟩) (meth := k2m0) (c := k2c0) (by decide +kernel) rfl rfl rfl (by decide +kernel)
set_option maxRecDepth 65536 in
theorem w_c5 : (Jvm.Cond.code ({ cls := "java/lang/Object", name := "<init>", desc := "()V" } : Jvm.MethodName) object_method_1_code (1 : Nat) (Option.none : Option Jvm.ClassFile.FieldType)).before args0 about1 = true := code_word (m := ⟨0, 0⟩) (meth := k0m0) (c := k0c0) (by decide +kernel) rfl rfl rfl (by decide +kernel)
set_option maxRecDepth 65536 in
theorem w_c6 : (Jvm.Cond.code ({ cls := "com/example/rhumb/rhumb/InstanceTags", name := "checkTagsOfInstances", desc := "(I[I[I)V" } : Jvm.MethodName) prog_15_method_2_code (6 : Nat) (Option.none : Option Jvm.ClassFile.FieldType)).before args0 about1 = true := code_word (m := ⟨2, 1⟩) (meth := k2m1) (c := k2c1) (by decide +kernel) rfl rfl rfl (by decide +kernel)
set_option maxRecDepth 65536 in
theorem w_c7 : (Jvm.Cond.code ({ cls := "com/example/rhumb/rhumb/InstanceTags", name := "invert", desc := "()V" } : Jvm.MethodName) prog_15_method_3_code (5 : Nat) (Option.none : Option Jvm.ClassFile.FieldType)).before args0 about1 = true := code_word (m := ⟨2, 2⟩) (meth := k2m2) (c := k2c2) (by decide +kernel) rfl rfl rfl (by decide +kernel)
set_option maxRecDepth 65536 in
theorem w_c8 : (Jvm.Cond.code ({ cls := "java/util/Arrays", name := "copyOf", desc := "([II)[I" } : Jvm.MethodName) jdk_65_method_123_code (3 : Nat) (Option.some (Jvm.ClassFile.FieldType.array Jvm.ClassFile.FieldType.int))).before args0 about1 = true := code_word (m := ⟨3, 1⟩) (meth := k3m1) (c := k3c1) (by decide +kernel) rfl rfl rfl (by decide +kernel)
set_option maxRecDepth 65536 in
theorem w_c9 : (Jvm.Cond.code ({ cls := "java/lang/Math", name := "min", desc := "(II)I" } : Jvm.MethodName) jdk_29_method_69_code (2 : Nat) (Option.some Jvm.ClassFile.FieldType.int)).before args0 about1 = true := code_word (m := ⟨4, 1⟩) (meth := k4m1) (c := k4c1) (by decide +kernel) rfl rfl rfl (by decide +kernel)
set_option maxRecDepth 65536 in
theorem w_c10 : (Jvm.Cond.code ({ cls := "com/example/rhumb/rhumb/InstanceTags", name := "instanceCount", desc := "()I" } : Jvm.MethodName) prog_15_method_4_code (1 : Nat) (Option.some Jvm.ClassFile.FieldType.int)).before args0 about1 = true := code_word (m := ⟨2, 3⟩) (meth := k2m3) (c := k2c3) (by decide +kernel) rfl rfl rfl (by decide +kernel)
set_option maxRecDepth 65536 in
theorem w_c11 : (Jvm.Cond.code ({ cls := "com/example/rhumb/rhumb/InstanceTags", name := "tagCounts", desc := "([I)[I" } : Jvm.MethodName) prog_15_method_9_code (8 : Nat) (Option.some (Jvm.ClassFile.FieldType.array Jvm.ClassFile.FieldType.int))).before args0 about1 = true := code_word (m := ⟨2, 4⟩) (meth := k2m4) (c := k2c4) (by decide +kernel) rfl rfl rfl (by decide +kernel)
set_option maxRecDepth 65536 in
theorem w_c12 : (Jvm.Cond.code ({ cls := "com/example/rhumb/rhumb/InstanceTagsTagCountsPinLaw", name := "expected", desc := "(IIIII)I" } : Jvm.MethodName) method_5_code (8 : Nat) (Option.some Jvm.ClassFile.FieldType.int)).before args0 about1 = true := code_word (m := ⟨1, 4⟩) (meth := k1m4) (c := k1c4) (by decide +kernel) rfl rfl rfl (by decide +kernel)
def codes1 : List Jvm.Cond := [Jvm.Cond.code x code maxLocals ret, Jvm.Cond.code ({ cls := "com/example/rhumb/rhumb/InstanceTagsTagCountsPinLaw", name := "put", desc := "([III)I" } : Jvm.MethodName) method_2_code (4 : Nat) (Option.some Jvm.ClassFile.FieldType.int), Jvm.Cond.code ({ cls := "com/example/rhumb/rhumb/InstanceTagsTagCountsPinLaw", name := "in", desc := "(II)I" } : Jvm.MethodName) method_3_code (2 : Nat) (Option.some Jvm.ClassFile.FieldType.int), Jvm.Cond.code ({ cls := "com/example/rhumb/rhumb/InstanceTagsTagCountsPinLaw", name := "addIf", desc := "([IIII)I" } : Jvm.MethodName) method_4_code (4 : Nat) (Option.some Jvm.ClassFile.FieldType.int), Jvm.Cond.code ({ cls := "com/example/rhumb/rhumb/InstanceTags", name := "<init>", desc := "(I[I[I)V" } : Jvm.MethodName) prog_15_method_1_code (4 : Nat) (Option.none : Option Jvm.ClassFile.FieldType), Jvm.Cond.code ({ cls := "java/lang/Object", name := "<init>", desc := "()V" } : Jvm.MethodName) object_method_1_code (1 : Nat) (Option.none : Option Jvm.ClassFile.FieldType), Jvm.Cond.code ({ cls := "com/example/rhumb/rhumb/InstanceTags", name := "checkTagsOfInstances", desc := "(I[I[I)V" } : Jvm.MethodName) prog_15_method_2_code (6 : Nat) (Option.none : Option Jvm.ClassFile.FieldType), Jvm.Cond.code ({ cls := "com/example/rhumb/rhumb/InstanceTags", name := "invert", desc := "()V" } : Jvm.MethodName) prog_15_method_3_code (5 : Nat) (Option.none : Option Jvm.ClassFile.FieldType), Jvm.Cond.code ({ cls := "java/util/Arrays", name := "copyOf", desc := "([II)[I" } : Jvm.MethodName) jdk_65_method_123_code (3 : Nat) (Option.some (Jvm.ClassFile.FieldType.array Jvm.ClassFile.FieldType.int)), Jvm.Cond.code ({ cls := "java/lang/Math", name := "min", desc := "(II)I" } : Jvm.MethodName) jdk_29_method_69_code (2 : Nat) (Option.some Jvm.ClassFile.FieldType.int), Jvm.Cond.code ({ cls := "com/example/rhumb/rhumb/InstanceTags", name := "instanceCount", desc := "()I" } : Jvm.MethodName) prog_15_method_4_code (1 : Nat) (Option.some Jvm.ClassFile.FieldType.int), Jvm.Cond.code ({ cls := "com/example/rhumb/rhumb/InstanceTags", name := "tagCounts", desc := "([I)[I" } : Jvm.MethodName) prog_15_method_9_code (8 : Nat) (Option.some (Jvm.ClassFile.FieldType.array Jvm.ClassFile.FieldType.int)), Jvm.Cond.code ({ cls := "com/example/rhumb/rhumb/InstanceTagsTagCountsPinLaw", name := "expected", desc := "(IIIII)I" } : Jvm.MethodName) method_5_code (8 : Nat) (Option.some Jvm.ClassFile.FieldType.int)]
set_option maxRecDepth 65536 in
theorem codes_eq : words1.filter isCode = codes1 := rfl
theorem w_codes : ∀ c ∈ words1.filter isCode, c.before args0 about1 = true := by
  rw [codes_eq]
  intro c hc
  simp only [codes1, List.mem_cons, List.not_mem_nil, or_false] at hc
  rcases hc with rfl | rfl | rfl | rfl | rfl | rfl | rfl | rfl | rfl | rfl | rfl | rfl | rfl
  · exact w_c0
  · exact w_c1
  · exact w_c2
  · exact w_c3
  · exact w_c4
  · exact w_c5
  · exact w_c6
  · exact w_c7
  · exact w_c8
  · exact w_c9
  · exact w_c10
  · exact w_c11
  · exact w_c12
set_option maxRecDepth 65536 in
theorem w_t1 : (words1.take 24).all (fun c => isCode c || c.before args0 about1) = true := by decide +kernel
set_option maxRecDepth 65536 in
theorem w_t2 : ((words1.drop 24).take 24).all (fun c => isCode c || c.before args0 about1) = true := by decide +kernel
set_option maxRecDepth 65536 in
theorem w_t3 : ((words1.drop 24).drop 24).all (fun c => isCode c || c.before args0 about1) = true := by decide +kernel
theorem w_tables : (allAtoms (Jvm.Cond.code x code maxLocals ret :: tables_1)).before args0 about1 = true := by
  rw [allAtoms_all]
  show words1.all (fun c => c.before args0 about1) = true
  refine all_split ?_ w_codes
  rw [← List.take_append_drop 24 words1, List.all_append, w_t1, ← List.take_append_drop 24 (words1.drop 24), List.all_append, w_t2, w_t3]
  rfl
set_option maxRecDepth 65536 in
theorem w_case : (Jvm.Cond.and given_1 narrow_1).before args0 about1 = true := by decide +kernel
theorem w_applies : (headSpec (Jvm.Cond.code x code maxLocals ret :: tables_1) room_1).applies x e0.platform about1 = true :=
  (Spec.applies_iff w_frames).mpr ⟨w_running, w_runnable, w_alone, w_named, w_hears, w_ripe, w_room, w_tables⟩
theorem atStart : AtStart classFile x code maxLocals ret World_1 tables_1 room_1 Calls_1 rest_1 Pre_1 launch0 p0 e0 about1 theMethod args0 below0 :=
  ⟨lists_1, trivial, launch0.admits_env _ _ _, launch0.least_env, fairChoices_fair.cas, fairChoices_fair.clock, w_frames, w_args, w_heap, w_applies, trivial, trivial, w_case⟩
end start1
theorem witness_1 : WitnessClaimed_1 := ⟨start1.p0, start1.e0, start1.about1, start1.theMethod, start1.args0, start1.below0, start1.atStart⟩
end Jvm.Pilot.@@N@@
