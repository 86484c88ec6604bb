import JvmDerived
import JvmDerived.Pilot.@@N@@Statement
import JvmDerived.Pilot.@@N@@Code
set_option linter.unusedVariables false
set_option linter.unusedSimpArgs false
namespace Jvm.OwnKit
open Sem ClassFile Op Lib Jvm.Stand Jvm.Free Jvm.LawKit Jvm.RoadKit
section OwnKit
set_option maxHeartbeats 4000000
variable {p : Program} {l : Launch} {e : Env} {R : Room} {s : State} {m : MethodId} {args : Array Value} {below : List Frame} {meth : Method} {c : Code} {Z : State} {own : String} {bytes : ByteArray} {maxL : Nat} {ret : Option FieldType} {n0 : Nat} {s₀ : State} {h : Heap} {k j pc : Nat} {L : Array Slot} {S : List Value} {a0 : Array Value}
/-- where a walk stands -/
def Go (p : Program) (l : Launch) (e : Env) (R : Room) (s : State) (m : MethodId) (args : Array Value) (below : List Frame) (meth : Method) (c : Code) (Z : State) (own : String) (bytes : ByteArray) (maxL : Nat) (ret : Option FieldType) (n0 : Nat) (s₀ : State) (h : Heap) (k j pc : Nat) (L : Array Slot) (S : List Value) : Prop :=
  (p.tables.exec = Jvm.exec ∧ c.code = bytes ∧ c.maxLocals = maxL ∧ Z.Warmed39 s.vm ∧ s.vm.findClass own = some m.cls ∧ meth.sig.returnType = ret ∧ meth.locks = false ∧ n0 ≤ s.heap.size) ∧
  ∃ (T : State) (locs : List Loc), Stand p l e R s m args below meth c T locs k j ∧ T.heap = h ∧ Fr n0 locs ∧ ∀ t, Steps p.tables e below (T.setTop (mkF m pc L S)) t → Steps p.tables e below s₀ t
/-- how a walk ends -/
def Fini (p : Program) (e : Env) (below : List Frame) (s s₀ : State) (n0 kc js : Nat) (Q : Option Value → Heap → Prop) : Prop :=
  ∃ s₂ o, Steps p.tables e below s₀ s₂ ∧ s₂.status = .running ∧ Ended s₂ below o ∧ ∃ v L, o = .returned v ∧ (Q v s₂.heap ∧ Fr n0 L) ∧ FrameEnd s o s₂ L kc js
/-- a body's contract at one heap and these arguments -/
def Con (l : Launch) (y : MethodName) (bytes : ByteArray) (maxL : Nat) (ret : Option FieldType) (ws : List Cond) (rm : Room) (kc js : Nat) (Z : State) (as' : Array Value) (h0 : Heap) (n0 : Nat) (Q : Option Value → Heap → Prop) : Prop :=
  MetFree l y (head1 (Cond.code y bytes maxL ret :: ws) rm) (fun a U => a = as' ∧ Z.Warmed39 U.vm ∧ U.heap = h0) (fun _ _ _ _ _ => True) (fun _ U o U' => ∃ v L, o = .returned v ∧ (Q v U'.heap ∧ Fr n0 L) ∧ FrameEnd U o U' L kc js)
theorem Con.of {y : MethodName} {ws : List Cond} {rm : Room} {kc js : Nat} {as' : Array Value} {h0 : Heap} {L0 : Array Slot} {Q : Option Value → Heap → Prop} (hpl : plainFor y = true) (hn : n0 ≤ h0.size) (hef : ∀ m, entryFrame m as' maxL = mkF m 0 L0 [])
    (body : ∀ (p : Program) (e : Env) (s : State) (m : MethodId) (below : List Frame) (meth : Method) (c : Code) (s₀ : State), meth.name = y.name → Go p l e rm s m as' below meth c Z y.cls bytes maxL ret n0 s₀ h0 0 0 0 L0 [] → Fini p e below s s₀ n0 kc js Q) : Con l y bytes maxL ret ws rm kc js Z as' h0 n0 Q := by
  refine MetFree.of_bodySF hpl hisR ?_
  intro p e s m args below meth c s₁ Bd hml0 hP hK
  obtain ⟨rfl, hZ, hh⟩ := hP
  have hx := Bd.exec
  have X0 : Stand p l e rm s m args below meth c s₁ [] 0 0 := Stand.of_body Bd
  exact body p e s m below meth c _ (name_of_methodNamed Bd.named Bd.method).1 ⟨⟨hx, Bd.bytes, hml0, hZ, findClass_of_methodNamed Bd.named, Bd.returns, Bd.notSynchronized, by rw [hh]; exact hn⟩, s₁, [], X0, by rw [← hh, Bd.state]; rfl, Fr.nil n0, fun t k => castTop (hef m) k⟩
/-- the same contract with a weaker word -/
theorem Fini.mono {kc js : Nat} {Q Q' : Option Value → Heap → Prop} (F : Fini p e below s s₀ n0 kc js Q) (hq : ∀ v h, Q v h → Q' v h) : Fini p e below s s₀ n0 kc js Q' := by
  obtain ⟨s₂, o, a1, a2, a3, v, L, a4, ⟨a5, a6⟩, a7⟩ := F
  exact ⟨s₂, o, a1, a2, a3, v, L, a4, ⟨hq _ _ a5, a6⟩, a7⟩
theorem Go.step {pc' : Nat} {L' : Array Slot} {S' : List Value} (G : Go p l e R s m args below meth c Z own bytes maxL ret n0 s₀ h k j pc L S) (f : ∀ T locs, Stand p l e R s m args below meth c T locs k j → T.heap = h → p.tables.exec = Jvm.exec → c.code = bytes → ∀ t, Steps p.tables e below (T.setTop (mkF m pc' L' S')) t → Steps p.tables e below (T.setTop (mkF m pc L S)) t) : Go p l e R s m args below meth c Z own bytes maxL ret n0 s₀ h k j pc' L' S' := by
  obtain ⟨⟨hx, hb, r⟩, T, locs, X, eT, N, st⟩ := G
  exact ⟨⟨hx, hb, r⟩, T, locs, X, eT, N, fun t q => st t (f T locs X eT hx hb t q)⟩
theorem Go.size (G : Go p l e R s m args below meth c Z own bytes maxL ret n0 s₀ h k j pc L S) : n0 ≤ h.size := by
  obtain ⟨⟨_, _, _, _, _, _, _, hn⟩, T, locs, X, eT, N, st⟩ := G
  have q : s.heap.size ≤ T.heap.size := X.same.2.1
  rw [← eT]; exact Nat.le_trans hn q
theorem Go.iadd {x y : Int32} (G : Go p l e R s m args below meth c Z own bytes maxL ret n0 s₀ h k j pc L (.int y :: .int x :: S)) (hd : decode bytes pc = .ok (.iadd, 1))  {pc' : Nat} (hp : pc + 1 = pc' := by rfl) : Go p l e R s m args below meth c Z own bytes maxL ret n0 s₀ h k j pc' L (.int (x + y) :: S) := by
  subst hp; exact G.step fun T locs X eT hx hb t q => XS.iadd X.here hx rfl (Jvm.hb hb hd) rfl  q
theorem Go.isub {x y : Int32} (G : Go p l e R s m args below meth c Z own bytes maxL ret n0 s₀ h k j pc L (.int y :: .int x :: S)) (hd : decode bytes pc = .ok (.isub, 1))  {pc' : Nat} (hp : pc + 1 = pc' := by rfl) : Go p l e R s m args below meth c Z own bytes maxL ret n0 s₀ h k j pc' L (.int (x - y) :: S) := by
  subst hp; exact G.step fun T locs X eT hx hb t q => XS.isub X.here hx rfl (Jvm.hb hb hd) rfl  q
theorem Go.imul {x y : Int32} (G : Go p l e R s m args below meth c Z own bytes maxL ret n0 s₀ h k j pc L (.int y :: .int x :: S)) (hd : decode bytes pc = .ok (.imul, 1))  {pc' : Nat} (hp : pc + 1 = pc' := by rfl) : Go p l e R s m args below meth c Z own bytes maxL ret n0 s₀ h k j pc' L (.int (x * y) :: S) := by
  subst hp; exact G.step fun T locs X eT hx hb t q => XS.imul X.here hx rfl (Jvm.hb hb hd) rfl  q
theorem Go.iand {x y : Int32} (G : Go p l e R s m args below meth c Z own bytes maxL ret n0 s₀ h k j pc L (.int y :: .int x :: S)) (hd : decode bytes pc = .ok (.iand, 1))  {pc' : Nat} (hp : pc + 1 = pc' := by rfl) : Go p l e R s m args below meth c Z own bytes maxL ret n0 s₀ h k j pc' L (.int (x &&& y) :: S) := by
  subst hp; exact G.step fun T locs X eT hx hb t q => XS.iand X.here hx rfl (Jvm.hb hb hd) rfl  q
theorem Go.ior {x y : Int32} (G : Go p l e R s m args below meth c Z own bytes maxL ret n0 s₀ h k j pc L (.int y :: .int x :: S)) (hd : decode bytes pc = .ok (.ior, 1))  {pc' : Nat} (hp : pc + 1 = pc' := by rfl) : Go p l e R s m args below meth c Z own bytes maxL ret n0 s₀ h k j pc' L (.int (x ||| y) :: S) := by
  subst hp; exact G.step fun T locs X eT hx hb t q => XS.ior X.here hx rfl (Jvm.hb hb hd) rfl  q
theorem Go.ixor {x y : Int32} (G : Go p l e R s m args below meth c Z own bytes maxL ret n0 s₀ h k j pc L (.int y :: .int x :: S)) (hd : decode bytes pc = .ok (.ixor, 1))  {pc' : Nat} (hp : pc + 1 = pc' := by rfl) : Go p l e R s m args below meth c Z own bytes maxL ret n0 s₀ h k j pc' L (.int (x ^^^ y) :: S) := by
  subst hp; exact G.step fun T locs X eT hx hb t q => XS.ixor X.here hx rfl (Jvm.hb hb hd) rfl  q
theorem Go.ishl {x y : Int32} (G : Go p l e R s m args below meth c Z own bytes maxL ret n0 s₀ h k j pc L (.int y :: .int x :: S)) (hd : decode bytes pc = .ok (.ishl, 1))  {pc' : Nat} (hp : pc + 1 = pc' := by rfl) : Go p l e R s m args below meth c Z own bytes maxL ret n0 s₀ h k j pc' L (.int (x <<< (y &&& 31)) :: S) := by
  subst hp; exact G.step fun T locs X eT hx hb t q => XS.ishl X.here hx rfl (Jvm.hb hb hd) rfl  q
theorem Go.ishr {x y : Int32} (G : Go p l e R s m args below meth c Z own bytes maxL ret n0 s₀ h k j pc L (.int y :: .int x :: S)) (hd : decode bytes pc = .ok (.ishr, 1))  {pc' : Nat} (hp : pc + 1 = pc' := by rfl) : Go p l e R s m args below meth c Z own bytes maxL ret n0 s₀ h k j pc' L (.int (x >>> (y &&& 31)) :: S) := by
  subst hp; exact G.step fun T locs X eT hx hb t q => XS.ishr X.here hx rfl (Jvm.hb hb hd) rfl  q
theorem Go.iushr {x y : Int32} (G : Go p l e R s m args below meth c Z own bytes maxL ret n0 s₀ h k j pc L (.int y :: .int x :: S)) (hd : decode bytes pc = .ok (.iushr, 1))  {pc' : Nat} (hp : pc + 1 = pc' := by rfl) : Go p l e R s m args below meth c Z own bytes maxL ret n0 s₀ h k j pc' L (.int ((x.toUInt32 >>> (y &&& 31).toUInt32).toInt32) :: S) := by
  subst hp; exact G.step fun T locs X eT hx hb t q => XS.iushr X.here hx rfl (Jvm.hb hb hd) rfl  q
theorem Go.ladd {x y : Int64} (G : Go p l e R s m args below meth c Z own bytes maxL ret n0 s₀ h k j pc L (.long y :: .long x :: S)) (hd : decode bytes pc = .ok (.ladd, 1))  {pc' : Nat} (hp : pc + 1 = pc' := by rfl) : Go p l e R s m args below meth c Z own bytes maxL ret n0 s₀ h k j pc' L (.long (x + y) :: S) := by
  subst hp; exact G.step fun T locs X eT hx hb t q => XS.ladd X.here hx rfl (Jvm.hb hb hd) rfl  q
theorem Go.lsub {x y : Int64} (G : Go p l e R s m args below meth c Z own bytes maxL ret n0 s₀ h k j pc L (.long y :: .long x :: S)) (hd : decode bytes pc = .ok (.lsub, 1))  {pc' : Nat} (hp : pc + 1 = pc' := by rfl) : Go p l e R s m args below meth c Z own bytes maxL ret n0 s₀ h k j pc' L (.long (x - y) :: S) := by
  subst hp; exact G.step fun T locs X eT hx hb t q => XS.lsub X.here hx rfl (Jvm.hb hb hd) rfl  q
theorem Go.lmul {x y : Int64} (G : Go p l e R s m args below meth c Z own bytes maxL ret n0 s₀ h k j pc L (.long y :: .long x :: S)) (hd : decode bytes pc = .ok (.lmul, 1))  {pc' : Nat} (hp : pc + 1 = pc' := by rfl) : Go p l e R s m args below meth c Z own bytes maxL ret n0 s₀ h k j pc' L (.long (x * y) :: S) := by
  subst hp; exact G.step fun T locs X eT hx hb t q => XS.lmul X.here hx rfl (Jvm.hb hb hd) rfl  q
theorem Go.land {x y : Int64} (G : Go p l e R s m args below meth c Z own bytes maxL ret n0 s₀ h k j pc L (.long y :: .long x :: S)) (hd : decode bytes pc = .ok (.land, 1))  {pc' : Nat} (hp : pc + 1 = pc' := by rfl) : Go p l e R s m args below meth c Z own bytes maxL ret n0 s₀ h k j pc' L (.long (x &&& y) :: S) := by
  subst hp; exact G.step fun T locs X eT hx hb t q => XS.land X.here hx rfl (Jvm.hb hb hd) rfl  q
theorem Go.lor {x y : Int64} (G : Go p l e R s m args below meth c Z own bytes maxL ret n0 s₀ h k j pc L (.long y :: .long x :: S)) (hd : decode bytes pc = .ok (.lor, 1))  {pc' : Nat} (hp : pc + 1 = pc' := by rfl) : Go p l e R s m args below meth c Z own bytes maxL ret n0 s₀ h k j pc' L (.long (x ||| y) :: S) := by
  subst hp; exact G.step fun T locs X eT hx hb t q => XS.lor X.here hx rfl (Jvm.hb hb hd) rfl  q
theorem Go.lxor {x y : Int64} (G : Go p l e R s m args below meth c Z own bytes maxL ret n0 s₀ h k j pc L (.long y :: .long x :: S)) (hd : decode bytes pc = .ok (.lxor, 1))  {pc' : Nat} (hp : pc + 1 = pc' := by rfl) : Go p l e R s m args below meth c Z own bytes maxL ret n0 s₀ h k j pc' L (.long (x ^^^ y) :: S) := by
  subst hp; exact G.step fun T locs X eT hx hb t q => XS.lxor X.here hx rfl (Jvm.hb hb hd) rfl  q
theorem Go.lshl {x : Int64} {y : Int32} (G : Go p l e R s m args below meth c Z own bytes maxL ret n0 s₀ h k j pc L (.int y :: .long x :: S)) (hd : decode bytes pc = .ok (.lshl, 1))  {pc' : Nat} (hp : pc + 1 = pc' := by rfl) : Go p l e R s m args below meth c Z own bytes maxL ret n0 s₀ h k j pc' L (.long (x <<< (y &&& 0x3f).toInt64) :: S) := by
  subst hp; exact G.step fun T locs X eT hx hb t q => XS.lshl X.here hx rfl (Jvm.hb hb hd) rfl  q
theorem Go.lshr {x : Int64} {y : Int32} (G : Go p l e R s m args below meth c Z own bytes maxL ret n0 s₀ h k j pc L (.int y :: .long x :: S)) (hd : decode bytes pc = .ok (.lshr, 1))  {pc' : Nat} (hp : pc + 1 = pc' := by rfl) : Go p l e R s m args below meth c Z own bytes maxL ret n0 s₀ h k j pc' L (.long (x >>> (y &&& 0x3f).toInt64) :: S) := by
  subst hp; exact G.step fun T locs X eT hx hb t q => XS.lshr X.here hx rfl (Jvm.hb hb hd) rfl  q
theorem Go.lushr {x : Int64} {y : Int32} (G : Go p l e R s m args below meth c Z own bytes maxL ret n0 s₀ h k j pc L (.int y :: .long x :: S)) (hd : decode bytes pc = .ok (.lushr, 1))  {pc' : Nat} (hp : pc + 1 = pc' := by rfl) : Go p l e R s m args below meth c Z own bytes maxL ret n0 s₀ h k j pc' L (.long ((x.toUInt64 >>> (y &&& 0x3f).toInt64.toUInt64).toInt64) :: S) := by
  subst hp; exact G.step fun T locs X eT hx hb t q => XS.lushr X.here hx rfl (Jvm.hb hb hd) rfl  q
theorem Go.ineg {x : Int32} (G : Go p l e R s m args below meth c Z own bytes maxL ret n0 s₀ h k j pc L (.int x :: S)) (hd : decode bytes pc = .ok (.ineg, 1))  {pc' : Nat} (hp : pc + 1 = pc' := by rfl) : Go p l e R s m args below meth c Z own bytes maxL ret n0 s₀ h k j pc' L (.int (-x) :: S) := by
  subst hp; exact G.step fun T locs X eT hx hb t q => XS.ineg X.here hx rfl (Jvm.hb hb hd) rfl  q
theorem Go.lneg {x : Int64} (G : Go p l e R s m args below meth c Z own bytes maxL ret n0 s₀ h k j pc L (.long x :: S)) (hd : decode bytes pc = .ok (.lneg, 1))  {pc' : Nat} (hp : pc + 1 = pc' := by rfl) : Go p l e R s m args below meth c Z own bytes maxL ret n0 s₀ h k j pc' L (.long (-x) :: S) := by
  subst hp; exact G.step fun T locs X eT hx hb t q => XS.lneg X.here hx rfl (Jvm.hb hb hd) rfl  q
theorem Go.i2l {x : Int32} (G : Go p l e R s m args below meth c Z own bytes maxL ret n0 s₀ h k j pc L (.int x :: S)) (hd : decode bytes pc = .ok (.i2l, 1))  {pc' : Nat} (hp : pc + 1 = pc' := by rfl) : Go p l e R s m args below meth c Z own bytes maxL ret n0 s₀ h k j pc' L (.long (x.toInt64) :: S) := by
  subst hp; exact G.step fun T locs X eT hx hb t q => XS.i2l X.here hx rfl (Jvm.hb hb hd) rfl  q
theorem Go.l2i {x : Int64} (G : Go p l e R s m args below meth c Z own bytes maxL ret n0 s₀ h k j pc L (.long x :: S)) (hd : decode bytes pc = .ok (.l2i, 1))  {pc' : Nat} (hp : pc + 1 = pc' := by rfl) : Go p l e R s m args below meth c Z own bytes maxL ret n0 s₀ h k j pc' L (.int (x.toInt32) :: S) := by
  subst hp; exact G.step fun T locs X eT hx hb t q => XS.l2i X.here hx rfl (Jvm.hb hb hd) rfl  q
theorem Go.i2b {x : Int32} (G : Go p l e R s m args below meth c Z own bytes maxL ret n0 s₀ h k j pc L (.int x :: S)) (hd : decode bytes pc = .ok (.i2b, 1))  {pc' : Nat} (hp : pc + 1 = pc' := by rfl) : Go p l e R s m args below meth c Z own bytes maxL ret n0 s₀ h k j pc' L (.int (x.toInt8.toInt32) :: S) := by
  subst hp; exact G.step fun T locs X eT hx hb t q => XS.i2b X.here hx rfl (Jvm.hb hb hd) rfl  q
theorem Go.i2s {x : Int32} (G : Go p l e R s m args below meth c Z own bytes maxL ret n0 s₀ h k j pc L (.int x :: S)) (hd : decode bytes pc = .ok (.i2s, 1))  {pc' : Nat} (hp : pc + 1 = pc' := by rfl) : Go p l e R s m args below meth c Z own bytes maxL ret n0 s₀ h k j pc' L (.int (x.toInt16.toInt32) :: S) := by
  subst hp; exact G.step fun T locs X eT hx hb t q => XS.i2s X.here hx rfl (Jvm.hb hb hd) rfl  q
theorem Go.i2c {x : Int32} (G : Go p l e R s m args below meth c Z own bytes maxL ret n0 s₀ h k j pc L (.int x :: S)) (hd : decode bytes pc = .ok (.i2c, 1))  {pc' : Nat} (hp : pc + 1 = pc' := by rfl) : Go p l e R s m args below meth c Z own bytes maxL ret n0 s₀ h k j pc' L (.int (x.toUInt32.toUInt16.toUInt32.toInt32) :: S) := by
  subst hp; exact G.step fun T locs X eT hx hb t q => XS.i2c X.here hx rfl (Jvm.hb hb hd) rfl  q
theorem Go.lcmp {x y : Int64} (G : Go p l e R s m args below meth c Z own bytes maxL ret n0 s₀ h k j pc L (.long y :: .long x :: S)) (hd : decode bytes pc = .ok (.lcmp, 1))  {pc' : Nat} (hp : pc + 1 = pc' := by rfl) : Go p l e R s m args below meth c Z own bytes maxL ret n0 s₀ h k j pc' L (.int (Jvm.Free.XT.cmpL x y) :: S) := by
  subst hp; exact G.step fun T locs X eT hx hb t q => Jvm.Free.XT.lcmp X.here hx rfl (Jvm.hb hb hd) rfl  q
theorem Go.idiv {x y : Int32} (G : Go p l e R s m args below meth c Z own bytes maxL ret n0 s₀ h k j pc L (.int y :: .int x :: S)) (hd : decode bytes pc = .ok (.idiv, 1)) (hy : y ≠ 0) {pc' : Nat} (hp : pc + 1 = pc' := by rfl) : Go p l e R s m args below meth c Z own bytes maxL ret n0 s₀ h k j pc' L (.int (x / y) :: S) := by
  subst hp; exact G.step fun T locs X eT hx hb t q => XS.idiv X.here hx rfl (Jvm.hb hb hd) rfl hy q
theorem Go.irem {x y : Int32} (G : Go p l e R s m args below meth c Z own bytes maxL ret n0 s₀ h k j pc L (.int y :: .int x :: S)) (hd : decode bytes pc = .ok (.irem, 1)) (hy : y ≠ 0) {pc' : Nat} (hp : pc + 1 = pc' := by rfl) : Go p l e R s m args below meth c Z own bytes maxL ret n0 s₀ h k j pc' L (.int (x % y) :: S) := by
  subst hp; exact G.step fun T locs X eT hx hb t q => iremM X hx rfl (Jvm.hb hb hd) rfl hy q
theorem Go.lrem {x y : Int64} (G : Go p l e R s m args below meth c Z own bytes maxL ret n0 s₀ h k j pc L (.long y :: .long x :: S)) (hd : decode bytes pc = .ok (.lrem, 1)) (hy : y ≠ 0) {pc' : Nat} (hp : pc + 1 = pc' := by rfl) : Go p l e R s m args below meth c Z own bytes maxL ret n0 s₀ h k j pc' L (.long (x % y) :: S) := by
  subst hp; exact G.step fun T locs X eT hx hb t q => XS.lrem X.here hx rfl (Jvm.hb hb hd) rfl hy (by rw [lrem_mod]; exact q)
theorem Go.iconst {i : Int} (v : Int32) (G : Go p l e R s m args below meth c Z own bytes maxL ret n0 s₀ h k j pc L S) (hd : decode bytes pc = .ok (.iconst i, 1)) (hv : Int32.ofInt i = v := by decide) {pc' : Nat} (hp : pc + 1 = pc' := by rfl) : Go p l e R s m args below meth c Z own bytes maxL ret n0 s₀ h k j pc' L (.int v :: S) := by
  subst hp; exact G.step fun T locs X eT hx hb t q => Jvm.Free.XT.iconstV X.here hx rfl v (Jvm.hb hb hd) hv q
theorem Go.bipush {i : Int} (v : Int32) (G : Go p l e R s m args below meth c Z own bytes maxL ret n0 s₀ h k j pc L S) (hd : decode bytes pc = .ok (.bipush i, 2)) (hv : (Int8.ofInt i).toInt32 = v := by decide) {pc' : Nat} (hp : pc + 2 = pc' := by rfl) : Go p l e R s m args below meth c Z own bytes maxL ret n0 s₀ h k j pc' L (.int v :: S) := by
  subst hp; exact G.step fun T locs X eT hx hb t q => Jvm.Free.XT.bipushV X.here hx rfl v (Jvm.hb hb hd) hv q
theorem Go.sipush {i : Int} (v : Int32) (G : Go p l e R s m args below meth c Z own bytes maxL ret n0 s₀ h k j pc L S) (hd : decode bytes pc = .ok (.sipush i, 3)) (hv : (Int16.ofInt i).toInt32 = v := by decide) {pc' : Nat} (hp : pc + 3 = pc' := by rfl) : Go p l e R s m args below meth c Z own bytes maxL ret n0 s₀ h k j pc' L (.int v :: S) := by
  subst hp; exact G.step fun T locs X eT hx hb t q => Jvm.Free.XT.sipushV X.here hx rfl v (Jvm.hb hb hd) hv q
theorem Go.lconst {i : Fin 2} (v : Int64) (G : Go p l e R s m args below meth c Z own bytes maxL ret n0 s₀ h k j pc L S) (hd : decode bytes pc = .ok (.lconst i, 1)) (hv : Int64.ofNat i = v := by decide) {pc' : Nat} (hp : pc + 1 = pc' := by rfl) : Go p l e R s m args below meth c Z own bytes maxL ret n0 s₀ h k j pc' L (.long v :: S) := by
  subst hp; exact G.step fun T locs X eT hx hb t q => Jvm.Free.XT.lconstV X.here hx rfl v (Jvm.hb hb hd) hv q
theorem Go.aconstNull (G : Go p l e R s m args below meth c Z own bytes maxL ret n0 s₀ h k j pc L S) (hd : decode bytes pc = .ok (.aconst_null, 1)) {pc' : Nat} (hp : pc + 1 = pc' := by rfl) : Go p l e R s m args below meth c Z own bytes maxL ret n0 s₀ h k j pc' L (.null :: S) := by
  subst hp; exact G.step fun T locs X eT hx hb t q => XS.aconstNull X.here hx rfl (Jvm.hb hb hd) q
theorem Go.ldc {i : Nat} {v : Int32} (G : Go p l e R s m args below meth c Z own bytes maxL ret n0 s₀ h k j pc L S) (w : (Cond.constant own i v).before a0 Z = true) (hd : decode bytes pc = .ok (.ldc i, 2)) {pc' : Nat} (hp : pc + 2 = pc' := by rfl) : Go p l e R s m args below meth c Z own bytes maxL ret n0 s₀ h k j pc' L (.int v :: S) := by
  subst hp
  obtain ⟨⟨hx, hb, hm, hZ, ho, r⟩, T, locs, X, eT, N, st⟩ := G
  exact ⟨⟨hx, hb, hm, hZ, ho, r⟩, T, locs, X, eT, N, fun t q => st t (X.ldcInt hx ho (mvT hZ w) (g := mkF m pc L S) rfl (Jvm.hb hb hd) t q)⟩
theorem Go.ldc2 {i : Nat} {v : Int64} (G : Go p l e R s m args below meth c Z own bytes maxL ret n0 s₀ h k j pc L S) (w : (Cond.constantLong own i v).before a0 Z = true) (hd : decode bytes pc = .ok (.ldc2_w i, 3)) {pc' : Nat} (hp : pc + 3 = pc' := by rfl) : Go p l e R s m args below meth c Z own bytes maxL ret n0 s₀ h k j pc' L (.long v :: S) := by
  subst hp
  obtain ⟨⟨hx, hb, hm, hZ, ho, r⟩, T, locs, X, eT, N, st⟩ := G
  exact ⟨⟨hx, hb, hm, hZ, ho, r⟩, T, locs, X, eT, N, fun t q => st t (X.ldc2Long hx ho (mvT hZ w) (g := mkF m pc L S) rfl (Jvm.hb hb hd) t q)⟩
theorem Go.iloadN {i : Fin 4} {v : Int32} (G : Go p l e R s m args below meth c Z own bytes maxL ret n0 s₀ h k j pc L S) (hd : decode bytes pc = .ok (.iload_n i, 1)) (hl : L[i.val]? = some (.val (.int v))) {pc' : Nat} (hp : pc + 1 = pc' := by rfl) : Go p l e R s m args below meth c Z own bytes maxL ret n0 s₀ h k j pc' L (.int v :: S) := by
  subst hp; exact G.step fun T locs X eT hx hb t q => XS.iloadN X.here hx rfl (Jvm.hb hb hd) hl q
theorem Go.iload {i : Nat} {v : Int32} (G : Go p l e R s m args below meth c Z own bytes maxL ret n0 s₀ h k j pc L S) (hd : decode bytes pc = .ok (.iload i, 2)) (hl : L[i]? = some (.val (.int v))) {pc' : Nat} (hp : pc + 2 = pc' := by rfl) : Go p l e R s m args below meth c Z own bytes maxL ret n0 s₀ h k j pc' L (.int v :: S) := by
  subst hp; exact G.step fun T locs X eT hx hb t q => XS.iload X.here hx rfl (Jvm.hb hb hd) hl q
theorem Go.lloadN {i : Fin 4} {v : Int64} (G : Go p l e R s m args below meth c Z own bytes maxL ret n0 s₀ h k j pc L S) (hd : decode bytes pc = .ok (.lload_n i, 1)) (hl : L[i.val]? = some (.val (.long v))) {pc' : Nat} (hp : pc + 1 = pc' := by rfl) : Go p l e R s m args below meth c Z own bytes maxL ret n0 s₀ h k j pc' L (.long v :: S) := by
  subst hp; exact G.step fun T locs X eT hx hb t q => XS.lloadN X.here hx rfl (Jvm.hb hb hd) hl q
theorem Go.lload {i : Nat} {v : Int64} (G : Go p l e R s m args below meth c Z own bytes maxL ret n0 s₀ h k j pc L S) (hd : decode bytes pc = .ok (.lload i, 2)) (hl : L[i]? = some (.val (.long v))) {pc' : Nat} (hp : pc + 2 = pc' := by rfl) : Go p l e R s m args below meth c Z own bytes maxL ret n0 s₀ h k j pc' L (.long v :: S) := by
  subst hp; exact G.step fun T locs X eT hx hb t q => XS.lload X.here hx rfl (Jvm.hb hb hd) hl q
theorem Go.aloadN {i : Fin 4} {v : Value} (G : Go p l e R s m args below meth c Z own bytes maxL ret n0 s₀ h k j pc L S) (hd : decode bytes pc = .ok (.aload_n i, 1)) (hl : L[i.val]? = some (.val v)) (hv : v.isRef = true := by rfl) {pc' : Nat} (hp : pc + 1 = pc' := by rfl) : Go p l e R s m args below meth c Z own bytes maxL ret n0 s₀ h k j pc' L (v :: S) := by
  subst hp; exact G.step fun T locs X eT hx hb t q => XS.aloadN X.here hx rfl (Jvm.hb hb hd) hl hv q
theorem Go.aload {i : Nat} {v : Value} (G : Go p l e R s m args below meth c Z own bytes maxL ret n0 s₀ h k j pc L S) (hd : decode bytes pc = .ok (.aload i, 2)) (hl : L[i]? = some (.val v)) (hv : v.isRef = true := by rfl) {pc' : Nat} (hp : pc + 2 = pc' := by rfl) : Go p l e R s m args below meth c Z own bytes maxL ret n0 s₀ h k j pc' L (v :: S) := by
  subst hp; exact G.step fun T locs X eT hx hb t q => XS.aload X.here hx rfl (Jvm.hb hb hd) hl hv q
theorem Go.istoreN {i : Fin 4} {x : Int32} {L' : Array Slot} (G : Go p l e R s m args below meth c Z own bytes maxL ret n0 s₀ h k j pc L (.int x :: S)) (hd : decode bytes pc = .ok (.istore_n i, 1)) (hl : storeLocals L i.val (.int x) = some L') {pc' : Nat} (hp : pc + 1 = pc' := by rfl) : Go p l e R s m args below meth c Z own bytes maxL ret n0 s₀ h k j pc' L' S := by
  subst hp; exact G.step fun T locs X eT hx hb t q => XS.istoreN X.here hx rfl (Jvm.hb hb hd) rfl hl q
theorem Go.istore {i : Nat} {x : Int32} {L' : Array Slot} (G : Go p l e R s m args below meth c Z own bytes maxL ret n0 s₀ h k j pc L (.int x :: S)) (hd : decode bytes pc = .ok (.istore i, 2)) (hl : storeLocals L i (.int x) = some L') {pc' : Nat} (hp : pc + 2 = pc' := by rfl) : Go p l e R s m args below meth c Z own bytes maxL ret n0 s₀ h k j pc' L' S := by
  subst hp; exact G.step fun T locs X eT hx hb t q => XS.istore X.here hx rfl (Jvm.hb hb hd) rfl hl q
theorem Go.lstoreN {i : Fin 4} {x : Int64} {L' : Array Slot} (G : Go p l e R s m args below meth c Z own bytes maxL ret n0 s₀ h k j pc L (.long x :: S)) (hd : decode bytes pc = .ok (.lstore_n i, 1)) (hl : storeLocals L i.val (.long x) = some L') {pc' : Nat} (hp : pc + 1 = pc' := by rfl) : Go p l e R s m args below meth c Z own bytes maxL ret n0 s₀ h k j pc' L' S := by
  subst hp; exact G.step fun T locs X eT hx hb t q => XS.lstoreN X.here hx rfl (Jvm.hb hb hd) rfl hl q
theorem Go.lstore {i : Nat} {x : Int64} {L' : Array Slot} (G : Go p l e R s m args below meth c Z own bytes maxL ret n0 s₀ h k j pc L (.long x :: S)) (hd : decode bytes pc = .ok (.lstore i, 2)) (hl : storeLocals L i (.long x) = some L') {pc' : Nat} (hp : pc + 2 = pc' := by rfl) : Go p l e R s m args below meth c Z own bytes maxL ret n0 s₀ h k j pc' L' S := by
  subst hp; exact G.step fun T locs X eT hx hb t q => XS.lstore X.here hx rfl (Jvm.hb hb hd) rfl hl q
theorem Go.astoreN {i : Fin 4} {x : Value} {L' : Array Slot} (G : Go p l e R s m args below meth c Z own bytes maxL ret n0 s₀ h k j pc L (x :: S)) (hd : decode bytes pc = .ok (.astore_n i, 1)) (hl : storeLocals L i.val x = some L') (hv : x.isRef = true := by rfl) {pc' : Nat} (hp : pc + 1 = pc' := by rfl) : Go p l e R s m args below meth c Z own bytes maxL ret n0 s₀ h k j pc' L' S := by
  subst hp; exact G.step fun T locs X eT hx hb t q => XS.astoreN X.here hx rfl (Jvm.hb hb hd) rfl hv hl q
theorem Go.astore {i : Nat} {x : Value} {L' : Array Slot} (G : Go p l e R s m args below meth c Z own bytes maxL ret n0 s₀ h k j pc L (x :: S)) (hd : decode bytes pc = .ok (.astore i, 2)) (hl : storeLocals L i x = some L') (hv : x.isRef = true := by rfl) {pc' : Nat} (hp : pc + 2 = pc' := by rfl) : Go p l e R s m args below meth c Z own bytes maxL ret n0 s₀ h k j pc' L' S := by
  subst hp; exact G.step fun T locs X eT hx hb t q => XS.astore X.here hx rfl (Jvm.hb hb hd) rfl hv hl q
theorem Go.iinc {i : Nat} {cst : Int} {x : Int32} {L' : Array Slot} (v : Int32) (G : Go p l e R s m args below meth c Z own bytes maxL ret n0 s₀ h k j pc L S) (hd : decode bytes pc = .ok (.iinc i cst, 3)) (hl : L[i]? = some (.val (.int x))) (hl' : storeLocals L i (.int (x + v)) = some L') (hv : Int32.ofInt cst = v := by decide) {pc' : Nat} (hp : pc + 3 = pc' := by rfl) : Go p l e R s m args below meth c Z own bytes maxL ret n0 s₀ h k j pc' L' S := by
  subst hp; exact G.step fun T locs X eT hx hb t q => Jvm.Free.XT.iincV X.here hx rfl v (Jvm.hb hb hd) hv hl hl' q
theorem Go.dup {x : Value} (G : Go p l e R s m args below meth c Z own bytes maxL ret n0 s₀ h k j pc L (x :: S)) (hd : decode bytes pc = .ok (.dup, 1)) (hc : x.category = 1 := by rfl) {pc' : Nat} (hp : pc + 1 = pc' := by rfl) : Go p l e R s m args below meth c Z own bytes maxL ret n0 s₀ h k j pc' L (x :: x :: S) := by
  subst hp; exact G.step fun T locs X eT hx hb t q => XS.dup X.here hx rfl (Jvm.hb hb hd) rfl hc q
theorem Go.pop {x : Value} (G : Go p l e R s m args below meth c Z own bytes maxL ret n0 s₀ h k j pc L (x :: S)) (hd : decode bytes pc = .ok (.pop, 1)) (hc : x.category = 1 := by rfl) {pc' : Nat} (hp : pc + 1 = pc' := by rfl) : Go p l e R s m args below meth c Z own bytes maxL ret n0 s₀ h k j pc' L S := by
  subst hp; exact G.step fun T locs X eT hx hb t q => XS.pop X.here hx rfl (Jvm.hb hb hd) rfl hc q
theorem Go.dupX1 {x y : Value} (G : Go p l e R s m args below meth c Z own bytes maxL ret n0 s₀ h k j pc L (x :: y :: S)) (hd : decode bytes pc = .ok (.dup_x1, 1)) (hc : x.category = 1 := by rfl) (hc2 : y.category = 1 := by rfl) {pc' : Nat} (hp : pc + 1 = pc' := by rfl) : Go p l e R s m args below meth c Z own bytes maxL ret n0 s₀ h k j pc' L (x :: y :: x :: S) := by
  subst hp; exact G.step fun T locs X eT hx hb t q => XS.dupX1 X.here hx rfl (Jvm.hb hb hd) rfl hc hc2 q
theorem Go.dup2 {x y : Value} (G : Go p l e R s m args below meth c Z own bytes maxL ret n0 s₀ h k j pc L (x :: y :: S)) (hd : decode bytes pc = .ok (.dup2, 1)) (hc : x.category = 1 := by rfl) (hc2 : y.category = 1 := by rfl) {pc' : Nat} (hp : pc + 1 = pc' := by rfl) : Go p l e R s m args below meth c Z own bytes maxL ret n0 s₀ h k j pc' L (x :: y :: x :: y :: S) := by
  subst hp; exact G.step fun T locs X eT hx hb t q => Jvm.Free.XT.dup2 X.here hx rfl (Jvm.hb hb hd) rfl hc hc2 q
theorem Go.goto {o : Int} (G : Go p l e R s m args below meth c Z own bytes maxL ret n0 s₀ h k j pc L S) (hd : decode bytes pc = .ok (.goto o, 3)) (pc' : Nat) (ho : 0 ≤ (pc : Int) + o := by decide) (hp : ((pc : Int) + o).toNat = pc' := by decide) : Go p l e R s m args below meth c Z own bytes maxL ret n0 s₀ h k j pc' L S := by
  exact G.step fun T locs X eT hx hb t q => XS.goto X.here hx rfl (pc0 := pc) (pc' := pc') rfl (Jvm.hb hb hd) ho hp q
theorem Go.ifY {cd : ClassFile.Cond} {o : Int} {x : Int32} (G : Go p l e R s m args below meth c Z own bytes maxL ret n0 s₀ h k j pc L (.int x :: S)) (hd : decode bytes pc = .ok (.ifCond cd o, 3)) (pc' : Nat) (hc : ifCond.holds cd x = true) (ho : 0 ≤ (pc : Int) + o := by decide) (hp : ((pc : Int) + o).toNat = pc' := by decide) : Go p l e R s m args below meth c Z own bytes maxL ret n0 s₀ h k j pc' L S := by
  exact G.step fun T locs X eT hx hb t q => XS.ifYes X.here hx rfl (pc0 := pc) (pc' := pc') rfl (Jvm.hb hb hd) rfl hc ho hp q
theorem Go.ifN {cd : ClassFile.Cond} {o : Int} {x : Int32} (G : Go p l e R s m args below meth c Z own bytes maxL ret n0 s₀ h k j pc L (.int x :: S)) (hd : decode bytes pc = .ok (.ifCond cd o, 3)) (pc' : Nat) (hc : ifCond.holds cd x = false) (hp : pc + 3 = pc' := by rfl) : Go p l e R s m args below meth c Z own bytes maxL ret n0 s₀ h k j pc' L S := by
  subst hp; exact G.step fun T locs X eT hx hb t q => XS.ifNo X.here hx rfl (Jvm.hb hb hd) rfl hc q
theorem Go.icmpY {cd : ClassFile.Cond} {o : Int} {x y : Int32} (G : Go p l e R s m args below meth c Z own bytes maxL ret n0 s₀ h k j pc L (.int y :: .int x :: S)) (hd : decode bytes pc = .ok (.if_icmp cd o, 3)) (pc' : Nat) (hc : if_icmp.holds cd x y = true) (ho : 0 ≤ (pc : Int) + o := by decide) (hp : ((pc : Int) + o).toNat = pc' := by decide) : Go p l e R s m args below meth c Z own bytes maxL ret n0 s₀ h k j pc' L S := by
  exact G.step fun T locs X eT hx hb t q => XS.icmpYes X.here hx rfl (pc0 := pc) (pc' := pc') rfl (Jvm.hb hb hd) rfl hc ho hp q
theorem Go.icmpN {cd : ClassFile.Cond} {o : Int} {x y : Int32} (G : Go p l e R s m args below meth c Z own bytes maxL ret n0 s₀ h k j pc L (.int y :: .int x :: S)) (hd : decode bytes pc = .ok (.if_icmp cd o, 3)) (pc' : Nat) (hc : if_icmp.holds cd x y = false) (hp : pc + 3 = pc' := by rfl) : Go p l e R s m args below meth c Z own bytes maxL ret n0 s₀ h k j pc' L S := by
  subst hp; exact G.step fun T locs X eT hx hb t q => XS.icmpNo X.here hx rfl (Jvm.hb hb hd) rfl hc q
theorem Go.ifnullY {o : Int} (G : Go p l e R s m args below meth c Z own bytes maxL ret n0 s₀ h k j pc L (.null :: S)) (hd : decode bytes pc = .ok (.ifnull o, 3)) (pc' : Nat) (ho : 0 ≤ (pc : Int) + o := by decide) (hp : ((pc : Int) + o).toNat = pc' := by decide) : Go p l e R s m args below meth c Z own bytes maxL ret n0 s₀ h k j pc' L S := by
  exact G.step fun T locs X eT hx hb t q => XS.ifnullYes X.here hx rfl (pc0 := pc) (pc' := pc') rfl (Jvm.hb hb hd) rfl ho hp q
theorem Go.ifnullN {o : Int} {b : Addr} (G : Go p l e R s m args below meth c Z own bytes maxL ret n0 s₀ h k j pc L (.ref b :: S)) (hd : decode bytes pc = .ok (.ifnull o, 3)) (pc' : Nat) (hp : pc + 3 = pc' := by rfl) : Go p l e R s m args below meth c Z own bytes maxL ret n0 s₀ h k j pc' L S := by
  subst hp; exact G.step fun T locs X eT hx hb t q => XS.ifnullNo X.here hx rfl (Jvm.hb hb hd) rfl q
theorem Go.ifnonnullY {o : Int} {b : Addr} (G : Go p l e R s m args below meth c Z own bytes maxL ret n0 s₀ h k j pc L (.ref b :: S)) (hd : decode bytes pc = .ok (.ifnonnull o, 3)) (pc' : Nat) (ho : 0 ≤ (pc : Int) + o := by decide) (hp : ((pc : Int) + o).toNat = pc' := by decide) : Go p l e R s m args below meth c Z own bytes maxL ret n0 s₀ h k j pc' L S := by
  exact G.step fun T locs X eT hx hb t q => XS.ifnonnullYes X.here hx rfl (pc0 := pc) (pc' := pc') rfl (Jvm.hb hb hd) rfl ho hp q
theorem Go.ifnonnullN {o : Int} (G : Go p l e R s m args below meth c Z own bytes maxL ret n0 s₀ h k j pc L (.null :: S)) (hd : decode bytes pc = .ok (.ifnonnull o, 3)) (pc' : Nat) (hp : pc + 3 = pc' := by rfl) : Go p l e R s m args below meth c Z own bytes maxL ret n0 s₀ h k j pc' L S := by
  subst hp; exact G.step fun T locs X eT hx hb t q => XS.ifnonnullNo X.here hx rfl (Jvm.hb hb hd) rfl q
theorem Go.out {w : Value} {t : FieldType} {i : Instr} {kc js : Nat} {Q : Option Value → Heap → Prop} (G : Go p l e R s m args below meth c Z own bytes maxL ret n0 s₀ h k j pc L (w :: S)) (hr : ret = some t) (hn : narrow t w = w)
    (hi : (i = .ireturn ∧ (t = .int ∨ t = .boolean ∨ t = .byte ∨ t = .char ∨ t = .short) ∧ ∃ z, w = .int z) ∨ (i = .lreturn ∧ t = .long ∧ ∃ z, w = .long z) ∨ (i = .dreturn ∧ t = .double ∧ ∃ z, w = .double z) ∨ (i = .freturn ∧ t = .float ∧ ∃ z, w = .float z) ∨ (i = .areturn ∧ t.isReference = true ∧ w.isRef = true))
    (hd : decode bytes pc = .ok (i, 1)) (hQ : Q (some w) h) (hk : k ≤ kc) (hj : j ≤ js) : Fini p e below s s₀ n0 kc js Q := by
  obtain ⟨⟨hx, hb, hm, hZ, ho, hret, hlk, hn0⟩, T, locs, X, eT, N, st⟩ := G
  subst hr
  obtain ⟨fs, hr, hrun, hended, hW, hsame⟩ := X.leave (v := some w) (fun h => by rw [hret] at h; cases h) hlk
  exact ⟨_, _, st _ (retOut X hx hret hn hi (Jvm.hb hb hd) hr), hrun, hended, _, _, rfl, ⟨by show Q _ T.heap; rw [eT]; exact hQ, N⟩, ⟨_, rfl⟩, hW, hsame.mono hk hj⟩
theorem Go.retI {z : Int32} {kc js : Nat} {Q : Option Value → Heap → Prop} (G : Go p l e R s m args below meth c Z own bytes maxL ret n0 s₀ h k j pc L (.int z :: S)) (hd : decode bytes pc = .ok (.ireturn, 1)) (hr : ret = some .int) (hQ : Q (some (.int z)) h) (hk : k ≤ kc := by decide) (hj : j ≤ js := by decide) : Fini p e below s s₀ n0 kc js Q :=
  G.out hr rfl (Or.inl ⟨rfl, Or.inl rfl, z, rfl⟩) hd hQ hk hj
theorem Go.retS {z : Int32} {t : FieldType} {kc js : Nat} {Q : Option Value → Heap → Prop} (G : Go p l e R s m args below meth c Z own bytes maxL ret n0 s₀ h k j pc L (.int z :: S)) (hd : decode bytes pc = .ok (.ireturn, 1)) (hr : ret = some t) (ht : t = .int ∨ t = .boolean ∨ t = .byte ∨ t = .char ∨ t = .short) (hn : narrow t (.int z) = .int z) (hQ : Q (some (.int z)) h) (hk : k ≤ kc := by decide) (hj : j ≤ js := by decide) : Fini p e below s s₀ n0 kc js Q :=
  G.out hr hn (Or.inl ⟨rfl, ht, z, rfl⟩) hd hQ hk hj
theorem Go.retZ {z : Int32} {kc js : Nat} {Q : Option Value → Heap → Prop} (G : Go p l e R s m args below meth c Z own bytes maxL ret n0 s₀ h k j pc L (.int z :: S)) (hd : decode bytes pc = .ok (.ireturn, 1)) (hr : ret = some .boolean) (hn : z = 0 ∨ z = 1) (hQ : Q (some (.int z)) h) (hk : k ≤ kc := by decide) (hj : j ≤ js := by decide) : Fini p e below s s₀ n0 kc js Q :=
  G.out hr (by rcases hn with rfl | rfl <;> rfl) (Or.inl ⟨rfl, Or.inr (Or.inl rfl), z, rfl⟩) hd hQ hk hj
theorem Go.retJ {z : Int64} {kc js : Nat} {Q : Option Value → Heap → Prop} (G : Go p l e R s m args below meth c Z own bytes maxL ret n0 s₀ h k j pc L (.long z :: S)) (hd : decode bytes pc = .ok (.lreturn, 1)) (hr : ret = some .long) (hQ : Q (some (.long z)) h) (hk : k ≤ kc := by decide) (hj : j ≤ js := by decide) : Fini p e below s s₀ n0 kc js Q :=
  G.out hr rfl (Or.inr (Or.inl ⟨rfl, rfl, z, rfl⟩)) hd hQ hk hj
theorem Go.retA {a : Addr} {t : FieldType} {kc js : Nat} {Q : Option Value → Heap → Prop} (G : Go p l e R s m args below meth c Z own bytes maxL ret n0 s₀ h k j pc L (.ref a :: S)) (hd : decode bytes pc = .ok (.areturn, 1)) (hr : ret = some t) (ht : t.isReference = true) (hn : narrow t (.ref a) = .ref a) (hQ : Q (some (.ref a)) h) (hk : k ≤ kc := by decide) (hj : j ≤ js := by decide) : Fini p e below s s₀ n0 kc js Q :=
  G.out hr hn (Or.inr (Or.inr (Or.inr (Or.inr ⟨rfl, ht, rfl⟩)))) hd hQ hk hj
theorem Go.retV {kc js : Nat} {Q : Option Value → Heap → Prop} (G : Go p l e R s m args below meth c Z own bytes maxL ret n0 s₀ h k j pc L []) (hd : decode bytes pc = .ok (.return_, 1)) (hr : ret = none) (hQ : Q none h) (hk : k ≤ kc := by decide) (hj : j ≤ js := by decide) : Fini p e below s s₀ n0 kc js Q := by
  obtain ⟨⟨hx, hb, hm, hZ, ho, hret, hlk, hn0⟩, T, locs, X, eT, N, st⟩ := G
  subst hr
  obtain ⟨fs, hr, hrun, hended, hW, hsame⟩ := X.leave (v := none) (fun _ => rfl) hlk
  exact ⟨_, _, st _ (X.returnOut hx hret (Jvm.hb hb hd) hr), hrun, hended, _, _, rfl, ⟨by show Q _ T.heap; rw [eT]; exact hQ, N⟩, ⟨_, rfl⟩, hW, hsame.mono hk hj⟩
theorem Go.callS {S0 argsL rest : List Value} {y : MethodName} {bytes' : ByteArray} {maxL' : Nat} {ret' r : Option FieldType} {ps : List FieldType} {rm : Room} {index : Nat} {Q : Option Value → Heap → Prop} (G : Go p l e R s m args below meth c Z own bytes maxL ret n0 s₀ h k j pc L S0) (C : Con l y bytes' maxL' ret' [] rm rm.cells rm.slots Z argsL.toArray h n0 Q) (hS : S0 = argsL.reverse ++ rest)
    (w1 : (Cond.methodLink own index y).before a0 Z = true) (w2 : (Cond.static y).before a0 Z = true) (w3 : (Cond.initialized y.cls).before a0 Z = true) (w4 : (Cond.code y bytes' maxL' ret').before a0 Z = true) (hy : y.cls ≠ "java/lang/invoke/MethodHandle" ∧ y.cls ≠ "java/lang/invoke/VarHandle")
    (hd : decode bytes pc = .ok (.invokestatic index, 3)) (hpd : parseMethodDescriptor y.desc = some ⟨ps, r⟩) (hl : argsL.length = ps.length) {W : Nat} (hW : (rest.map fun v => v.category).sum = W) (hL : L.size = maxL) (hf : rm.frames + 1 ≤ R.frames) (hlo : W + (maxL' + 11) + rm.locals ≤ R.locals) (hc : k + rm.cells ≤ R.cells) (hs : j + rm.slots ≤ R.slots) {pc' k' j' : Nat} (hp : pc + 3 = pc') (hk' : k + rm.cells = k') (hj' : j + rm.slots = j') :
    ∃ v h', Q v h' ∧ ∀ S', v.toList ++ rest = S' → Go p l e R s m args below meth c Z own bytes maxL ret n0 s₀ h' k' j' pc' L S' := by
  subst hp hk' hj' hS
  obtain ⟨⟨hx, hb, hm, hZ, ho, hret, hlk, hn0⟩, T, locs, X, eT, N, st⟩ := G
  obtain ⟨v, _, ⟨T', L', k', n'⟩, -, X', ⟨Lc, hQ, l', y', z'⟩, st'⟩ := Jvm.LawKit.callS X hx (y := y) ho (mvT hZ w1) (mvT hZ w2) (mvT hZ w3) (mvT hZ w4) hy (backOf (W := W) (R := R) (rm := rm) (Q := fun v h L => Q v h ∧ Fr n0 L) C hZ w4 w3 hf hlo) (g := mkF m pc L (argsL.reverse ++ rest)) rfl (by rw [hm]; exact hL) (argsL := argsL) (rest := rest) (lenOf hpd hl) rfl (by show 2 * 0 + _ ≤ _; omega) (Jvm.hb hb hd) (fun _ _ => ⟨rfl, eT, hc, hs⟩)
  dsimp only [Pt.U, Pt.locs, Pt.cells, Pt.slots] at X' l' y' z' st' hQ
  subst l' y' z'
  refine ⟨v, T'.heap, hQ.1, fun S' e => ?_⟩
  subst e
  exact ⟨⟨hx, hb, hm, hZ, ho, hret, hlk, hn0⟩, T', _, X', rfl, Fr.app N hQ.2, fun t q => st t (st' t q)⟩
theorem Go.callI {S0 argsL rest : List Value} {y : MethodName} {bytes' : ByteArray} {maxL' : Nat} {r : Option FieldType} {ps : List FieldType} {rm : Room} {index : Nat} {Q : Option Value → Heap → Prop} {a : Addr} (G : Go p l e R s m args below meth c Z own bytes maxL ret n0 s₀ h k j pc L S0) (C : Con l y bytes' maxL' none [] rm rm.cells rm.slots Z (.ref a :: argsL).toArray h n0 Q) (hS : S0 = argsL.reverse ++ .ref a :: rest) (hyn : y.name = "<init>")
    (w1 : (Cond.methodLink own index y).before a0 Z = true) (w2 : (Cond.instanceMethod y).before a0 Z = true) (w3 : (Cond.initialized y.cls).before a0 Z = true) (w4 : (Cond.code y bytes' maxL' none).before a0 Z = true) (hy : y.cls ≠ "java/lang/invoke/MethodHandle" ∧ y.cls ≠ "java/lang/invoke/VarHandle")
    (hd : decode bytes pc = .ok (.invokespecial index, 3)) (hpd : parseMethodDescriptor y.desc = some ⟨ps, r⟩) (hl : argsL.length = ps.length) {W : Nat} (hW : (rest.map fun v => v.category).sum = W) (hL : L.size = maxL) (hf : rm.frames + 1 ≤ R.frames) (hlo : W + (maxL' + 11) + rm.locals ≤ R.locals) (hc : k + rm.cells ≤ R.cells) (hs : j + rm.slots ≤ R.slots) {pc' k' j' : Nat} (hp : pc + 3 = pc') (hk' : k + rm.cells = k') (hj' : j + rm.slots = j') :
    ∃ v h', Q v h' ∧ ∀ S', v.toList ++ rest = S' → Go p l e R s m args below meth c Z own bytes maxL ret n0 s₀ h' k' j' pc' L S' := by
  subst hp hk' hj' hS
  obtain ⟨⟨hx, hb, hm, hZ, ho, hret, hlk, hn0⟩, T, locs, X, eT, N, st⟩ := G
  obtain ⟨v, _, ⟨T', L', k', n'⟩, -, X', ⟨Lc, hQ, l', y', z'⟩, st'⟩ := X.specialBack hx (y := y) hyn ho (mvT hZ w1) (mvT hZ w2) (mvT hZ w4) hy (backOf (W := W) (R := R) (rm := rm) (Q := fun v h L => Q v h ∧ Fr n0 L) C hZ w4 w3 hf hlo) (g := mkF m pc L (argsL.reverse ++ .ref a :: rest)) rfl (by rw [hm]; exact hL) (Steps.refl _) (a := a) (argsL := argsL) (rest := rest) (lenOf hpd hl) rfl (by show 2 * 0 + _ ≤ _; omega) (Jvm.hb hb hd) (fun _ _ => ⟨rfl, eT, hc, hs⟩)
  dsimp only [Pt.U, Pt.locs, Pt.cells, Pt.slots] at X' l' y' z' st' hQ
  subst l' y' z'
  refine ⟨v, T'.heap, hQ.1, fun S' e => ?_⟩
  subst e
  exact ⟨⟨hx, hb, hm, hZ, ho, hret, hlk, hn0⟩, T', _, X', rfl, Fr.app N hQ.2, fun t q => st t (st'.trans q)⟩
theorem Go.callV {S0 argsL rest : List Value} {y : MethodName} {bytes' : ByteArray} {maxL' : Nat} {ret' r : Option FieldType} {ps : List FieldType} {rm : Room} {index : Nat} {Q : Option Value → Heap → Prop} {a : Addr} {K : String} (G : Go p l e R s m args below meth c Z own bytes maxL ret n0 s₀ h k j pc L S0) (C : Con l y bytes' maxL' ret' [] rm rm.cells rm.slots Z (.ref a :: argsL).toArray h n0 Q) (hS : S0 = argsL.reverse ++ .ref a :: rest) (E : Exa Z h a K)
    (w1 : (Cond.methodLink own index y).before a0 Z = true) (w1' : (Cond.declares y).before a0 Z = true) (w1'' : (Cond.selects K y y).before a0 Z = true) (w2 : (Cond.instanceMethod y).before a0 Z = true) (w3 : (Cond.initialized y.cls).before a0 Z = true) (w4 : (Cond.code y bytes' maxL' ret').before a0 Z = true) (hy : y.cls ≠ "java/lang/invoke/MethodHandle" ∧ y.cls ≠ "java/lang/invoke/VarHandle")
    (hd : decode bytes pc = .ok (.invokevirtual index, 3)) (hpd : parseMethodDescriptor y.desc = some ⟨ps, r⟩) (hl : argsL.length = ps.length) {W : Nat} (hW : (rest.map fun v => v.category).sum = W) (hL : L.size = maxL) (hf : rm.frames + 1 ≤ R.frames) (hlo : W + (maxL' + 11) + rm.locals ≤ R.locals) (hc : k + rm.cells ≤ R.cells) (hs : j + rm.slots ≤ R.slots) {pc' k' j' : Nat} (hp : pc + 3 = pc') (hk' : k + rm.cells = k') (hj' : j + rm.slots = j') :
    ∃ v h', Q v h' ∧ ∀ S', v.toList ++ rest = S' → Go p l e R s m args below meth c Z own bytes maxL ret n0 s₀ h' k' j' pc' L S' := by
  subst hp hk' hj' hS
  obtain ⟨⟨hx, hb, hm, hZ, ho, hret, hlk, hn0⟩, T, locs, X, eT, N, st⟩ := G
  obtain ⟨cq, kq, q1, q2, q3⟩ := isOf hZ eT E
  obtain ⟨v, _, ⟨T', L', k', n'⟩, -, X', ⟨Lc, hQ, l', y', z'⟩, st'⟩ := X.virtualBack hx (y := y) (z := y) ho (mvT hZ w1) (mvT hZ w1') (notFace_of_selects (args := #[]) (mvT hZ w1'')) (mvT hZ w1'') (mvT hZ w2) hy (backOf (W := W) (R := R) (rm := rm) (Q := fun v h L => Q v h ∧ Fr n0 L) C hZ w4 w3 hf hlo) q1 q3 (g := mkF m pc L (argsL.reverse ++ .ref a :: rest)) rfl (by rw [hm]; exact hL) (Steps.refl _) (argsL := argsL) (rest := rest) (lenOf hpd hl) rfl (by show 2 * 0 + _ ≤ _; omega) (Jvm.hb hb hd) (fun _ _ => ⟨rfl, eT, hc, hs⟩)
  dsimp only [Pt.U, Pt.locs, Pt.cells, Pt.slots] at X' l' y' z' st' hQ
  subst l' y' z'
  refine ⟨v, T'.heap, hQ.1, fun S' e => ?_⟩
  subst e
  exact ⟨⟨hx, hb, hm, hZ, ho, hret, hlk, hn0⟩, T', _, X', rfl, Fr.app N hQ.2, fun t q => st t (st'.trans q)⟩
theorem Go.initO {a : Addr} {index : Nat} (G : Go p l e R s m args below meth c Z own bytes maxL ret n0 s₀ h k j pc L (.ref a :: S)) (w1 : (Cond.methodLink own index Lib.objectInit).before a0 Z = true) (w2 : (Cond.instanceMethod Lib.objectInit).before a0 Z = true) (w3 : (Cond.code Lib.objectInit Jvm.LibCode.Object.Init0.code 1 none).before a0 Z = true) (hd : decode bytes pc = .ok (.invokespecial index, 3)) {W : Nat} (hW : (S.map fun v => v.category).sum = W) (hL : L.size = maxL) (hf : 1 ≤ R.frames) (hlo : W + 12 ≤ R.locals) {pc' : Nat} (hp : pc + 3 = pc' := by rfl) : Go p l e R s m args below meth c Z own bytes maxL ret n0 s₀ h k j pc' L S := by
  subst hp
  obtain ⟨⟨hx, hb, hm, hZ, ho, r⟩, T, locs, X, eT, N, st⟩ := G
  obtain ⟨T', X', e', st'⟩ := Jvm.RoadKit.initO X hx hZ ho w1 w2 w3 eT (g := mkF m pc L (.ref a :: S)) rfl (by rw [hm]; exact hL) rfl (Jvm.hb hb hd) hf (W := W) (by show 2 * 0 + _ ≤ _; omega) hlo
  exact ⟨⟨hx, hb, hm, hZ, ho, r⟩, T', locs, X', e', N, fun t q => st t (st' t q)⟩
theorem Go.newO {C : String} {index n : Nat} (G : Go p l e R s m args below meth c Z own bytes maxL ret n0 s₀ h k j pc L S) (w1 : (Cond.classLink own index C).before a0 Z = true) (w2 : (Cond.instantiable C n).before a0 Z = true) (w3 : (Cond.initialized C).before a0 Z = true) (hd : decode bytes pc = .ok (.new index, 3)) {pc' k' j' : Nat} (hp : pc + 3 = pc') (hk : k + 1 = k') (hj : j + n = j') (hc : k' ≤ R.cells) (hl : j' ≤ R.slots) :
    ∃ a h', a = h.size ∧ n0 ≤ a ∧ Ext h h' ∧ Exa Z h' a C ∧ (∀ {O nm d : String} {ty : FieldType}, Laid Z a0 C O nm d → parseFieldDescriptor d = some ty → Fld Z h' a O nm d (defaultValue ty)) ∧ Go p l e R s m args below meth c Z own bytes maxL ret n0 s₀ h' k' j' pc' L (.ref a :: S) := by
  have hsz := G.size
  subst hp hk hj
  obtain ⟨⟨hx, hb, hm, hZ, ho, r⟩, T, locs, X, eT, N, st⟩ := G
  obtain ⟨T2, h2, X2, e2, E2, A2, D2, -, st2⟩ := Jvm.RoadKit.newO X hx hZ ho w1 w2 w3 eT (g := mkF m pc L S) rfl (Jvm.hb hb hd) hc hl
  exact ⟨h.size, h2, rfl, hsz, E2, A2, D2, ⟨hx, hb, hm, hZ, ho, r⟩, T2, locs, X2, e2, N, fun t q => st t (st2 t q)⟩
theorem Go.getF {a : Addr} {R0 O n d host : String} {index : Nat} {v : Value} (G : Go p l e R s m args below meth c Z own bytes maxL ret n0 s₀ h k j pc L (.ref a :: S)) (w : (Cond.fieldLink own index R0 n d).before a0 Z = true ∨ (Cond.fieldLinkNest own index R0 n d host).before a0 Z = true) (via : Via Z R0 O n d) (F : Fld Z h a O n d v) (hd : decode bytes pc = .ok (.getfield index, 3)) {pc' : Nat} (hp : pc + 3 = pc' := by rfl) : Go p l e R s m args below meth c Z own bytes maxL ret n0 s₀ h k j pc' L (v :: S) := by
  subst hp
  obtain ⟨⟨hx, hb, hm, hZ, ho, r⟩, T, locs, X, eT, N, st⟩ := G
  obtain ⟨T', X', e', st'⟩ := Jvm.RoadKit.getF X hx hZ ho w via eT F (g := mkF m pc L (.ref a :: S)) rfl rfl (Jvm.hb hb hd)
  exact ⟨⟨hx, hb, hm, hZ, ho, r⟩, T', locs, X', e', N, fun t q => st t (st' t q)⟩
theorem Go.putF {a : Addr} {R0 O n d host C : String} {index kk : Nat} {ty : FieldType} {v old : Value} (G : Go p l e R s m args below meth c Z own bytes maxL ret n0 s₀ h k j pc L (v :: .ref a :: S)) (w : (Cond.fieldLink own index R0 n d).before a0 Z = true ∨ (Cond.fieldLinkNest own index R0 n d host).before a0 Z = true) (via : Via Z R0 O n d) (F : Fld Z h a O n d old) (E : Exa Z h a C) (ha : n0 ≤ a) (Ly : (Cond.lays C O n d).before a0 Z = true ∨ ((Cond.laysFinal C O n d).before a0 Z = true ∧ own = O ∧ meth.name = "<init>")) (wi : (Cond.instantiable C kk).before a0 Z = true) (hty : parseFieldDescriptor d = some ty) (hn : narrow ty v = v) (hf : fits ty v = true) (hd : decode bytes pc = .ok (.putfield index, 3)) {pc' : Nat} (hp : pc + 3 = pc' := by rfl) :
    ∃ h', Wr h h' a (Jvm.RoadKit.slotOf Z O n d) v ∧ Go p l e R s m args below meth c Z own bytes maxL ret n0 s₀ h' k j pc' L S := by
  subst hp
  obtain ⟨⟨hx, hb, hm, hZ, ho, r⟩, T, locs, X, eT, N, st⟩ := G
  obtain ⟨T', h', X', e', W', st'⟩ := Jvm.RoadKit.putF X hx hZ ho w via eT F E Ly wi hty hn hf (g := mkF m pc L (v :: .ref a :: S)) rfl rfl (Jvm.hb hb hd)
  exact ⟨h', W', ⟨hx, hb, hm, hZ, ho, r⟩, T', _, X', e', Fr.snoc X' N ha, fun t q => st t (st' t q)⟩
/-- an array of that kind whose places hold these values -/
def Av (Z : State) (h : Heap) (a : Addr) (ty : FieldType) (vs : List Value) : Prop := ∃ c : Cell, Arr Z h a c ty ∧ c.slots.toList = vs ∧ vs.length < 2 ^ 31 ∧ ∀ v ∈ vs, fits ty v = true
theorem Av.lt {a : Addr} {ty : FieldType} {vs : List Value} (A : Av Z h a ty vs) : a < h.size := by obtain ⟨c, A, -⟩ := A; exact A.lt
theorem Av.len {a : Addr} {ty : FieldType} {vs : List Value} (A : Av Z h a ty vs) : vs.length < 2 ^ 31 := by obtain ⟨c, _, _, q, _⟩ := A; exact q
theorem Av.fit {a : Addr} {ty : FieldType} {vs : List Value} (A : Av Z h a ty vs) : ∀ v ∈ vs, fits ty v = true := by obtain ⟨c, _, _, _, q⟩ := A; exact q
theorem Av.ext {h' : Heap} {a : Addr} {ty : FieldType} {vs : List Value} (A : Av Z h a ty vs) (E : Ext h h') : Av Z h' a ty vs := by obtain ⟨c, A, q⟩ := A; exact ⟨c, A.ext E, q⟩
theorem Av.other {h' : Heap} {a b : Addr} {sl : Nat} {v : Value} {ty : FieldType} {vs : List Value} (A : Av Z h b ty vs) (W : Wr h h' a sl v) (q : b ≠ a) : Av Z h' b ty vs := by obtain ⟨c, A, r⟩ := A; exact ⟨c, A.other W q, r⟩
theorem Av.keep {h' : Heap} {a : Addr} {ws : List Addr} {ty : FieldType} {vs : List Value} (A : Av Z h a ty vs) (K : Keep h h' ws) (q : a ∉ ws) : Av Z h' a ty vs := by obtain ⟨c, A, r⟩ := A; exact ⟨c, ⟨K.2.1 a c A.1 q, A.2⟩, r⟩
theorem Av.set {h' : Heap} {a : Addr} {i : Nat} {v : Value} {ty : FieldType} {vs : List Value} (A : Av Z h a ty vs) (W : Wr h h' a i v) (hf : fits ty v = true) : Av Z h' a ty (vs.set i v) := by
  obtain ⟨c, A, rfl, r, f⟩ := A
  exact ⟨c.setSlot i v, A.same W, by simp [Cell.setSlot], by simpa using r, fun x hx => (List.mem_or_eq_of_mem_set hx).elim (f x) fun q => q ▸ hf⟩
theorem idx_of {x : Int32} {i n : Nat} (hx : x.toInt = (i : Int)) (hi : i < n) : ¬ (x < 0 ∨ n ≤ x.toNatClampNeg) ∧ x.toNatClampNeg = i := by
  have e : x.toNatClampNeg = i := by show x.toInt.toNat = i; omega
  refine ⟨?_, e⟩
  rw [e, Int32.lt_iff_toInt_lt, hx]
  show ¬ (((i : Nat) : Int) < 0 ∨ n ≤ i)
  omega
theorem Go.newA {n : Int32} {aty : ArrayType} {ty : FieldType} {dv : Value} {N cap : Nat} (G : Go p l e R s m args below meth c Z own bytes maxL ret n0 s₀ h k j pc L (.int n :: S)) (w : (Cond.arrayClass ty).before a0 Z = true) (hd : decode bytes pc = .ok (.newarray aty, 2)) (hty : newarray.typeOf aty = ty) (hdv : defaultValue ty = dv) (hn : n.toInt = (N : Int)) (hN : N ≤ cap) (hb : cap * 8 ≤ 536870912) {pc' k' j' : Nat} (hp : pc + 2 = pc') (hk : k + 1 = k') (hj : j + cap = j') (hc : k' ≤ R.cells) (hl : j' ≤ R.slots) :
    ∃ a h', a = h.size ∧ n0 ≤ a ∧ Ext h h' ∧ Av Z h' a ty (List.replicate N dv) ∧ Go p l e R s m args below meth c Z own bytes maxL ret n0 s₀ h' k' j' pc' L (.ref a :: S) := by
  have hsz := G.size
  have e1 : n.toNatClampNeg = N := by show n.toInt.toNat = N; omega
  have e2 := n.toInt_lt
  subst hp hk hj hty hdv
  obtain ⟨⟨hx, hb', hm, hZ, ho, r⟩, T, locs, X, eT, N', st⟩ := G
  obtain ⟨T2, h2, cA, X2, e3, E2, A2, st2⟩ := Jvm.RoadKit.newP X hx hZ w eT (g := mkF m pc L (.int n :: S)) rfl (Jvm.hb hb' hd) rfl (by rw [Int32.lt_iff_toInt_lt, hn]; show ¬ ((N : Nat) : Int) < 0; omega) (cap := cap) (by rw [e1]; exact hN) hb hc hl
  exact ⟨h.size, h2, rfl, hsz, E2, ⟨_, A2, by rw [Jvm.RoadKit.newA, e1]; simp, by rw [List.length_replicate]; omega, fun v hv => by rw [List.eq_of_mem_replicate hv]; cases aty <;> rfl⟩, ⟨hx, hb', hm, hZ, ho, r⟩, T2, locs, X2, e3, N', fun t q => st t (st2 t q)⟩
theorem Go.stI {a : Addr} {x : Int32} {y : Int32} {i : Nat} {vs : List Value} (G : Go p l e R s m args below meth c Z own bytes maxL ret n0 s₀ h k j pc L (.int x :: .int y :: .ref a :: S)) (A : Av Z h a .int vs) (ha : n0 ≤ a) (hy : y.toInt = (i : Int)) (hi : i < vs.length) (hd : decode bytes pc = .ok (.iastore, 1)) {pc' : Nat} (hp : pc + 1 = pc' := by rfl) :
    ∃ h', Wr h h' a i (.int x) ∧ Av Z h' a .int (vs.set i (.int x)) ∧ Go p l e R s m args below meth c Z own bytes maxL ret n0 s₀ h' k j pc' L S := by
  have A0 := A
  obtain ⟨cl, Ar, rfl, hlen, -⟩ := A
  rw [Array.length_toList] at hi
  have ⟨i1, i2⟩ := idx_of hy hi
  subst hp
  obtain ⟨⟨hx, hb, hm, hZ, ho, r⟩, T, locs, X, eT, N, st⟩ := G
  obtain ⟨T', h', X', e', W', st'⟩ := Jvm.RoadKit.stI X hx hZ eT Ar i1 (g := mkF m pc L (.int x :: .int y :: .ref a :: S)) rfl rfl (Jvm.hb hb hd)
  have N' := Fr.snoc X' N ha
  rw [i2] at W'
  exact ⟨h', W', A0.set W' rfl, ⟨hx, hb, hm, hZ, ho, r⟩, T', _, X', e', N', fun t q => st t (st' t q)⟩
theorem Go.stJ {a : Addr} {x : Int64} {y : Int32} {i : Nat} {vs : List Value} (G : Go p l e R s m args below meth c Z own bytes maxL ret n0 s₀ h k j pc L (.long x :: .int y :: .ref a :: S)) (A : Av Z h a .long vs) (ha : n0 ≤ a) (hy : y.toInt = (i : Int)) (hi : i < vs.length) (hd : decode bytes pc = .ok (.lastore, 1)) {pc' : Nat} (hp : pc + 1 = pc' := by rfl) :
    ∃ h', Wr h h' a i (.long x) ∧ Av Z h' a .long (vs.set i (.long x)) ∧ Go p l e R s m args below meth c Z own bytes maxL ret n0 s₀ h' k j pc' L S := by
  have A0 := A
  obtain ⟨cl, Ar, rfl, hlen, -⟩ := A
  rw [Array.length_toList] at hi
  have ⟨i1, i2⟩ := idx_of hy hi
  subst hp
  obtain ⟨⟨hx, hb, hm, hZ, ho, r⟩, T, locs, X, eT, N, st⟩ := G
  obtain ⟨T', h', X', e', W', st'⟩ := Jvm.RoadKit.stJ X hx hZ eT Ar i1 (g := mkF m pc L (.long x :: .int y :: .ref a :: S)) rfl rfl (Jvm.hb hb hd)
  have N' := Fr.snoc X' N ha
  rw [i2] at W'
  exact ⟨h', W', A0.set W' rfl, ⟨hx, hb, hm, hZ, ho, r⟩, T', _, X', e', N', fun t q => st t (st' t q)⟩
theorem Go.stB {a : Addr} {x : Int32} {y : Int32} {i : Nat} {vs : List Value} (G : Go p l e R s m args below meth c Z own bytes maxL ret n0 s₀ h k j pc L (.int x :: .int y :: .ref a :: S)) (A : Av Z h a .byte vs) (ha : n0 ≤ a) (hy : y.toInt = (i : Int)) (hi : i < vs.length) (hd : decode bytes pc = .ok (.bastore, 1)) {pc' : Nat} (hp : pc + 1 = pc' := by rfl) :
    ∃ h', Wr h h' a i (.int (nar .byte x)) ∧ Av Z h' a .byte (vs.set i (.int (nar .byte x))) ∧ Go p l e R s m args below meth c Z own bytes maxL ret n0 s₀ h' k j pc' L S := by
  have A0 := A
  obtain ⟨cl, Ar, rfl, hlen, -⟩ := A
  rw [Array.length_toList] at hi
  have ⟨i1, i2⟩ := idx_of hy hi
  subst hp
  obtain ⟨⟨hx, hb, hm, hZ, ho, r⟩, T, locs, X, eT, N, st⟩ := G
  obtain ⟨T', h', X', e', W', st'⟩ := Jvm.RoadKit.stB X hx hZ eT Ar i1 (g := mkF m pc L (.int x :: .int y :: .ref a :: S)) rfl rfl (Jvm.hb hb hd)
  have N' := Fr.snoc X' N ha
  rw [i2] at W'
  exact ⟨h', W', A0.set W' (fits_nar_byte x), ⟨hx, hb, hm, hZ, ho, r⟩, T', _, X', e', N', fun t q => st t (st' t q)⟩
theorem Go.ldI {a : Addr} {v : Value} {y : Int32} {i : Nat} {vs : List Value} (G : Go p l e R s m args below meth c Z own bytes maxL ret n0 s₀ h k j pc L (.int y :: .ref a :: S)) (A : Av Z h a .int vs) (hy : y.toInt = (i : Int)) (hv : vs[i]? = some v) (hd : decode bytes pc = .ok (.iaload, 1)) {pc' : Nat} (hp : pc + 1 = pc' := by rfl) : Go p l e R s m args below meth c Z own bytes maxL ret n0 s₀ h k j pc' L (v :: S) := by
  obtain ⟨cl, Ar, rfl, hlen, -⟩ := A
  have hi : i < cl.slots.size := by rw [← Array.length_toList]; exact (List.getElem?_eq_some_iff.mp hv).1
  have ⟨i1, i2⟩ := idx_of hy hi
  rw [Array.getElem?_toList] at hv
  subst hp
  obtain ⟨⟨hx, hb, hm, hZ, ho, r⟩, T, locs, X, eT, N, st⟩ := G
  exact ⟨⟨hx, hb, hm, hZ, ho, r⟩, T, locs, X, eT, N, fun t q => st t (X.iaload hx (j := y) (v := v) (by rw [eT]; exact Ar.1) (State.isArrayOf_alike hZ.alike Ar.2.1) Ar.2.2 i1 (by rw [i2]; exact hv) (g := mkF m pc L (.int y :: .ref a :: S)) rfl rfl (Jvm.hb hb hd) t q)⟩
theorem Go.ldJ {a : Addr} {v : Value} {y : Int32} {i : Nat} {vs : List Value} (G : Go p l e R s m args below meth c Z own bytes maxL ret n0 s₀ h k j pc L (.int y :: .ref a :: S)) (A : Av Z h a .long vs) (hy : y.toInt = (i : Int)) (hv : vs[i]? = some v) (hd : decode bytes pc = .ok (.laload, 1)) {pc' : Nat} (hp : pc + 1 = pc' := by rfl) : Go p l e R s m args below meth c Z own bytes maxL ret n0 s₀ h k j pc' L (v :: S) := by
  obtain ⟨cl, Ar, rfl, hlen, -⟩ := A
  have hi : i < cl.slots.size := by rw [← Array.length_toList]; exact (List.getElem?_eq_some_iff.mp hv).1
  have ⟨i1, i2⟩ := idx_of hy hi
  rw [Array.getElem?_toList] at hv
  subst hp
  obtain ⟨⟨hx, hb, hm, hZ, ho, r⟩, T, locs, X, eT, N, st⟩ := G
  exact ⟨⟨hx, hb, hm, hZ, ho, r⟩, T, locs, X, eT, N, fun t q => st t (X.laload hx (j := y) (v := v) (by rw [eT]; exact Ar.1) (State.isArrayOf_alike hZ.alike Ar.2.1) Ar.2.2 i1 (by rw [i2]; exact hv) (g := mkF m pc L (.int y :: .ref a :: S)) rfl rfl (Jvm.hb hb hd) t q)⟩
theorem Go.ldB {a : Addr} {v : Value} {y : Int32} {i : Nat} {vs : List Value} (G : Go p l e R s m args below meth c Z own bytes maxL ret n0 s₀ h k j pc L (.int y :: .ref a :: S)) (A : Av Z h a .byte vs) (hy : y.toInt = (i : Int)) (hv : vs[i]? = some v) (hd : decode bytes pc = .ok (.baload, 1)) {pc' : Nat} (hp : pc + 1 = pc' := by rfl) : Go p l e R s m args below meth c Z own bytes maxL ret n0 s₀ h k j pc' L (v :: S) := by
  obtain ⟨cl, Ar, rfl, hlen, -⟩ := A
  have hi : i < cl.slots.size := by rw [← Array.length_toList]; exact (List.getElem?_eq_some_iff.mp hv).1
  have ⟨i1, i2⟩ := idx_of hy hi
  rw [Array.getElem?_toList] at hv
  subst hp
  obtain ⟨⟨hx, hb, hm, hZ, ho, r⟩, T, locs, X, eT, N, st⟩ := G
  exact ⟨⟨hx, hb, hm, hZ, ho, r⟩, T, locs, X, eT, N, fun t q => st t (X.baloadBytes hx (j := y) (v := v) (by rw [eT]; exact Ar.1) (State.isArrayOf_alike hZ.alike Ar.2.1) Ar.2.2 i1 (by rw [i2]; exact hv) (g := mkF m pc L (.int y :: .ref a :: S)) rfl rfl (Jvm.hb hb hd) t q)⟩
theorem Go.arrlen {a : Addr} {ty : FieldType} {vs : List Value} (v : Int32) (G : Go p l e R s m args below meth c Z own bytes maxL ret n0 s₀ h k j pc L (.ref a :: S)) (A : Av Z h a ty vs) (hv : v.toInt = (vs.length : Int)) (hd : decode bytes pc = .ok (.arraylength, 1)) {pc' : Nat} (hp : pc + 1 = pc' := by rfl) : Go p l e R s m args below meth c Z own bytes maxL ret n0 s₀ h k j pc' L (.int v :: S) := by
  obtain ⟨cl, Ar, rfl, hlen, -⟩ := A
  have e1 : cl.slots.size.toInt32 = v := by
    rw [Array.length_toList] at hlen hv
    apply Int32.toInt_inj.mp
    rw [hv]
    exact Int32.toInt_ofNat_of_lt (by omega)
  subst hp e1
  obtain ⟨⟨hx, hb, hm, hZ, ho, r⟩, T, locs, X, eT, N, st⟩ := G
  exact ⟨⟨hx, hb, hm, hZ, ho, r⟩, T, locs, X, eT, N, fun t q => st t (X.arraylength hx (by rw [eT]; exact Ar.1) (State.isArrayOf_alike hZ.alike Ar.2.1) (g := mkF m pc L (.ref a :: S)) rfl rfl (Jvm.hb hb hd) t q)⟩
theorem Av.arv {a : Addr} {ty : FieldType} {vs : List Value} (A : Av Z h a ty vs) (dv : Value) : ∃ kk, Arv Z h a kk ty (Int32.ofNat vs.length) vs dv := by
  obtain ⟨cl, Ar, rfl, hlen, hfit⟩ := A
  have e1 : (Int32.ofNat cl.slots.toList.length).toInt = ((cl.slots.toList.length : Nat) : Int) := Int32.toInt_ofNat_of_lt hlen
  have e2 : (Int32.ofNat cl.slots.toList.length).toNatClampNeg = cl.slots.size := by
    show (Int32.ofNat cl.slots.toList.length).toInt.toNat = _
    rw [e1, Array.length_toList]; rfl
  have e3 : ∀ i, i < cl.slots.size → cl.slots[i]? = some (cl.slots.toList.getD i dv) := fun i hi => by
    rw [List.getD_eq_getElem?_getD, Array.getElem?_toList, Array.getElem?_eq_getElem hi]; rfl
  refine ⟨cl.cls, cl, Ar, rfl, e2.symm, ?_, e3, fun i hi => hfit _ ?_⟩
  · rw [Int32.lt_iff_toInt_lt, e1]; show ¬ _ < (0 : Int); omega
  · have q := e3 i hi
    rw [← Array.getElem?_toList] at q
    exact List.mem_of_getElem? q
theorem av_of_arv {a : Addr} {kk : ClassId} {ty : FieldType} {z : Int32} {vs : List Value} {dv : Value} (A : Arv Z h a kk ty z vs dv) (hz : z.toNatClampNeg = vs.length) (hl : vs.length < 2 ^ 31) : Av Z h a ty vs := by
  obtain ⟨cl, Ar, -, S, -, H, F⟩ := A
  have e : cl.slots.toList = vs := by
    apply List.ext_getElem?
    intro i
    rw [Array.getElem?_toList]
    by_cases hi : i < cl.slots.size
    · rw [H i hi, List.getD_eq_getElem?_getD, List.getElem?_eq_getElem (by omega)]; rfl
    · rw [Array.getElem?_eq_none (by omega), List.getElem?_eq_none (by omega)]
  refine ⟨cl, Ar, e, hl, fun v hv => ?_⟩
  obtain ⟨i, hi, rfl⟩ := List.getElem_of_mem hv
  have q := F i (by rw [S, hz]; exact hi)
  rwa [List.getD_eq_getElem?_getD, List.getElem?_eq_getElem hi] at q
theorem us_of (vs : List Value) (sp n : Nat) (dv : Value) (hh : sp + n ≤ vs.length) : ((List.range n).map fun i => vs.getD (sp + i) dv) = (vs.drop sp).take n := by
  apply List.ext_getElem?
  intro i
  by_cases hi : i < n
  · rw [List.getElem?_map, List.getElem?_range hi, List.getElem?_take_of_lt hi, List.getElem?_drop, List.getElem?_eq_getElem (by omega)]
    simp [List.getD_eq_getElem?_getD, List.getElem?_eq_getElem (show sp + i < vs.length by omega)]
  · rw [List.getElem?_eq_none (by simp; omega), List.getElem?_eq_none (by simp; omega)]
theorem Go.newAE {n : Int32} {aty : ArrayType} {ty : FieldType} {dv : Value} {N cap : Nat} {ad : String} (G : Go p l e R s m args below meth c Z own bytes maxL ret n0 s₀ h k j pc L (.int n :: S)) (w : (Cond.arrayClass ty).before a0 Z = true) (hd : decode bytes pc = .ok (.newarray aty, 2)) (hty : newarray.typeOf aty = ty) (hdv : defaultValue ty = dv) (hn : n.toInt = (N : Int)) (hN : N ≤ cap) (hb : cap * 8 ≤ 536870912) (had : "[" ++ ty.toString = ad) {pc' k' j' : Nat} (hp : pc + 2 = pc') (hk : k + 1 = k') (hj : j + cap = j') (hc : k' ≤ R.cells) (hl : j' ≤ R.slots) :
    ∃ a h', a = h.size ∧ n0 ≤ a ∧ Ext h h' ∧ Av Z h' a ty (List.replicate N dv) ∧ Exa Z h' a ad ∧ Go p l e R s m args below meth c Z own bytes maxL ret n0 s₀ h' k' j' pc' L (.ref a :: S) := by
  have hsz := G.size
  have e1 : n.toNatClampNeg = N := by show n.toInt.toNat = N; omega
  have e2 := n.toInt_lt
  subst hp hk hj hty hdv
  obtain ⟨⟨hx, hb', hm, hZ, ho, r⟩, T, locs, X, eT, N', st⟩ := G
  obtain ⟨T2, h2, cA, X2, e3, E2, A2, EE, st2⟩ := Jvm.RoadKit.newPE X hx hZ w eT (g := mkF m pc L (.int n :: S)) rfl (Jvm.hb hb' hd) rfl (by rw [Int32.lt_iff_toInt_lt, hn]; show ¬ ((N : Nat) : Int) < 0; omega) (cap := cap) (by rw [e1]; exact hN) hb hc hl had
  exact ⟨h.size, h2, rfl, hsz, E2, ⟨_, A2, by rw [Jvm.RoadKit.newA, e1]; simp, by rw [List.length_replicate]; omega, fun v hv => by rw [List.eq_of_mem_replicate hv]; cases aty <;> rfl⟩, EE, ⟨hx, hb', hm, hZ, ho, r⟩, T2, locs, X2, e3, N', fun t q => st t (st2 t q)⟩
theorem Go.clone {a : Addr} {ty : FieldType} {vs : List Value} {ad : String} {index cap : Nat} (G : Go p l e R s m args below meth c Z own bytes maxL ret n0 s₀ h k j pc L (.ref a :: S)) (A : Av Z h a ty vs) (E : Exa Z h a ad)
    (w1 : (Cond.methodLink own index ⟨ad, "clone", "()Ljava/lang/Object;"⟩).before a0 Z = true) (w2 : (Cond.sameMethod ad "java/lang/Object" "clone" "()Ljava/lang/Object;").before a0 Z = true) (w3 : (Cond.native ⟨"java/lang/Object", "clone", "()Ljava/lang/Object;"⟩).before a0 Z = true)
    (w4 : (Cond.instanceMethod ⟨"java/lang/Object", "clone", "()Ljava/lang/Object;"⟩).before a0 Z = true) (w5 : (Cond.selects ad ⟨ad, "clone", "()Ljava/lang/Object;"⟩ ⟨"java/lang/Object", "clone", "()Ljava/lang/Object;"⟩).before a0 Z = true) (w6 : (Cond.castable ad "java/lang/Cloneable").before a0 Z = true)
    (hd : decode bytes pc = .ok (.invokevirtual index, 3)) {W : Nat} (hW : (S.map fun v => v.category).sum = W) (hL : L.size = maxL) (hf : 1 ≤ R.frames) (hlo : W + 14 ≤ R.locals) (hcap : vs.length ≤ cap) {pc' k' j' : Nat} (hp : pc + 3 = pc') (hk : k + 1 = k') (hj : j + cap = j') (hc : k' ≤ R.cells) (hl : j' ≤ R.slots) :
    ∃ b h', b = h.size ∧ n0 ≤ b ∧ Ext h h' ∧ Av Z h' b ty vs ∧ Exa Z h' b ad ∧ Go p l e R s m args below meth c Z own bytes maxL ret n0 s₀ h' k' j' pc' L (.ref b :: S) := by
  have hsz := G.size
  obtain ⟨cl, Ar, rfl, hlen, hfit⟩ := A
  have FC : FitC Z cl := fitC_of Ar fun i hi v hv => hfit v (by rw [← Array.getElem?_toList] at hv; exact List.mem_of_getElem? hv)
  subst hp hk hj
  obtain ⟨⟨hx, hb', hm, hZ, ho, r⟩, T, locs, X, eT, N', st⟩ := G
  obtain ⟨T2, h2, X2, e3, E2, A2, EE, st2⟩ := Jvm.RoadKit.cloneA X hx hZ ho w1 w2 w3 w4 w5 w6 eT Ar E FC (g := mkF m pc L (.ref a :: S)) rfl (by rw [hm]; exact hL) rfl (Jvm.hb hb' hd) hf (W := W) (by show 2 * 0 + _ ≤ _; omega) hlo (cap := cap) (by rw [← Array.length_toList]; exact hcap) hc hl
  exact ⟨h.size, h2, rfl, hsz, E2, ⟨_, A2, rfl, hlen, hfit⟩, EE, ⟨hx, hb', hm, hZ, ho, r⟩, T2, locs, X2, e3, N', fun t q => st t (st2 t q)⟩
theorem Go.cast {a : Addr} {K : String} {index : Nat} (G : Go p l e R s m args below meth c Z own bytes maxL ret n0 s₀ h k j pc L (.ref a :: S)) (w : (Cond.classLink own index K).before a0 Z = true) (F : Ins Z h a K true) (hd : decode bytes pc = .ok (.checkcast index, 3)) {pc' : Nat} (hp : pc + 3 = pc' := by rfl) : Go p l e R s m args below meth c Z own bytes maxL ret n0 s₀ h k j pc' L (.ref a :: S) := by
  subst hp
  obtain ⟨⟨hx, hb, hm, hZ, ho, r⟩, T, locs, X, eT, N, st⟩ := G
  obtain ⟨T', X', e', st'⟩ := Jvm.RoadKit.castY X hx hZ ho w eT F (g := mkF m pc L (.ref a :: S)) rfl rfl (Jvm.hb hb hd)
  exact ⟨⟨hx, hb, hm, hZ, ho, r⟩, T', locs, X', e', N, fun t q => st t (st' t q)⟩
theorem Go.cp {a b : Addr} {ty : FieldType} {vs vd : List Value} {sp dp nn : Int32} {s' d' n' index : Nat} (G : Go p l e R s m args below meth c Z own bytes maxL ret n0 s₀ h k j pc L (.int nn :: .int dp :: .ref b :: .int sp :: .ref a :: S)) (A : Av Z h a ty vs) (B : Av Z h b ty vd) (hty : refKind ty = false) (hb : n0 ≤ b)
    (w1 : (Cond.methodLink own index Jvm.Stand.acN).before a0 Z = true) (w2 : (Cond.native Jvm.Stand.acN).before a0 Z = true) (w3 : (Cond.static Jvm.Stand.acN).before a0 Z = true) (w4 : (Cond.initialized "java/lang/System").before a0 Z = true)
    (hs : sp.toInt = (s' : Int)) (hd' : dp.toInt = (d' : Int)) (hn : nn.toInt = (n' : Int)) (h4 : s' + n' ≤ vs.length) (h5 : d' + n' ≤ vd.length) (hd : decode bytes pc = .ok (.invokestatic index, 3)) {W : Nat} (hW : (S.map fun v => v.category).sum = W) (hL : L.size = maxL) (hf : 1 ≤ R.frames) (hlo : W + (nativeFrameWords "java/lang/System" "arraycopy" 5 + 11) ≤ R.locals) {pc' : Nat} (hp : pc + 3 = pc' := by rfl) :
    ∃ h', Keep h h' [b] ∧ Av Z h' b ty (vd.take d' ++ (vs.drop s').take n' ++ vd.drop (d' + n')) ∧ Go p l e R s m args below meth c Z own bytes maxL ret n0 s₀ h' k j pc' L S := by
  subst hp
  have lA := A.len
  have lB := B.len
  obtain ⟨kA, VA⟩ := A.arv .null
  obtain ⟨kB, VB⟩ := B.arv .null
  have nn0 : ∀ {x : Int32} {y : Nat}, x.toInt = (y : Int) → ¬ x < 0 ∧ x.toNatClampNeg = y := fun {x y} q => ⟨by rw [Int32.lt_iff_toInt_lt, q]; show ¬ _ < (0 : Int); omega, by show x.toInt.toNat = y; omega⟩
  have zl : ∀ (us : List Value), us.length < 2 ^ 31 → (Int32.ofNat us.length).toNatClampNeg = us.length := fun us q => (nn0 (Int32.toInt_ofNat_of_lt q)).2
  obtain ⟨⟨hx, hby, hm, hZ, ho, r⟩, T, locs, X, eT, N, st⟩ := G
  obtain ⟨T', h', Lc, X', e', N', Kp, V', st'⟩ := Jvm.RoadKit.cpA X hx hZ ho w1 w2 w3 w4 eT VA VB (us := (vs.drop s').take n') (Or.inl ⟨rfl, hty⟩) (nn0 hs).1 (nn0 hd').1 (nn0 hn).1 (by rw [(nn0 hs).2, (nn0 hn).2, zl _ lA]; exact h4) (by rw [(nn0 hd').2, (nn0 hn).2, zl _ lB]; exact h5) (by rw [(nn0 hs).2, (nn0 hn).2, us_of _ _ _ _ h4]) (by rw [(nn0 hd').2, (nn0 hn).2]; exact h5) N hb (g := mkF m pc L (.int nn :: .int dp :: .ref b :: .int sp :: .ref a :: S)) rfl (by rw [hm]; exact hL) rfl (Jvm.hb hby hd) hf (W := W) (by show 2 * 0 + _ ≤ _; omega) hlo
  rw [(nn0 hd').2, (nn0 hn).2] at V'
  have ll : (vd.take d' ++ (vs.drop s').take n' ++ vd.drop (d' + n')).length = vd.length := by simp; omega
  exact ⟨h', Kp, av_of_arv V' (by rw [ll]; exact zl _ lB) (by rw [ll]; exact lB), ⟨hx, hby, hm, hZ, ho, r⟩, T', Lc, X', e', N', fun t q => st t (st' t q)⟩
end OwnKit
end Jvm.OwnKit
namespace Jvm.Pilot.@@N@@
open Jvm Jvm.ClassFile Sem Op Lib Jvm.Free Jvm.Stand Jvm.LawKit Jvm.RoadKit Bundle Jvm.OwnKit Jvm.Pilot.@@N@@.Jvm.D
theorem d1_0 : decode prog_51_method_1_code 0 = .ok (.aload_n 0, 1) := by decide +kernel
theorem d1_1 : decode prog_51_method_1_code 1 = .ok (.invokespecial 3, 3) := by decide +kernel
theorem d1_4 : decode prog_51_method_1_code 4 = .ok (.aload_n 0, 1) := by decide +kernel
theorem d1_5 : decode prog_51_method_1_code 5 = .ok (.ldc 11, 2) := by decide +kernel
theorem d1_7 : decode prog_51_method_1_code 7 = .ok (.newarray .byte, 2) := by decide +kernel
theorem d1_9 : decode prog_51_method_1_code 9 = .ok (.putfield 12, 3) := by decide +kernel
theorem d1_12 : decode prog_51_method_1_code 12 = .ok (.aload_n 0, 1) := by decide +kernel
theorem d1_13 : decode prog_51_method_1_code 13 = .ok (.sipush 1024, 3) := by decide +kernel
theorem d1_16 : decode prog_51_method_1_code 16 = .ok (.newarray .int, 2) := by decide +kernel
theorem d1_18 : decode prog_51_method_1_code 18 = .ok (.putfield 16, 3) := by decide +kernel
theorem d1_21 : decode prog_51_method_1_code 21 = .ok (.return_, 1) := by decide +kernel
theorem pn0 : plainName "com/example/bloom2d/bloom2d/held/ElementList" = true := by first | (simp [plainName, overriddenIn]; done) | decide +kernel
theorem ef1 (m : MethodId) (a : Addr) : entryFrame m #[(.ref a)] 1 = mkF m 0 #[.val (.ref a)] [] := by first | (simp [entryFrame, mkF, argsToLocals, Value.category]; done) | rfl
def rm1 : Room := { frames := 1, cells := 2, slots := 66560, locals := 12 }
set_option maxRecDepth 65536 in
set_option maxHeartbeats 40000000 in
theorem cn1 (l : Launch) (Z : State) (a0 : Array Value) (hw : ∀ d ∈ tables_1, d.before a0 Z = true) (a : Addr) (h0 : Heap) (n0 : Nat) (hn : n0 ≤ h0.size) (E_a : Exa Z h0 a "com/example/bloom2d/bloom2d/held/ElementList") (F_a_bytes : Fld Z h0 a "com/example/bloom2d/bloom2d/held/ElementList" "bytes" "[B" .null) (F_a_ends : Fld Z h0 a "com/example/bloom2d/bloom2d/held/ElementList" "ends" "[I" .null) (F_a_size : Fld Z h0 a "com/example/bloom2d/bloom2d/held/ElementList" "size" "I" (.int (0 : Int32))) (g_a : n0 ≤ a) :
    Con l (⟨"com/example/bloom2d/bloom2d/held/ElementList", "<init>", "()V"⟩ : MethodName) prog_51_method_1_code 1 none [] rm1 rm1.cells rm1.slots Z #[(.ref a)] h0 n0 (fun v h => ∃ a5 : Addr, ∃ a21 : Addr, v = none ∧ Keep h0 h [a] ∧ h0.size ≤ a5 ∧ h0.size ≤ a21 ∧ a5 ≠ a21 ∧ Exa Z h a "com/example/bloom2d/bloom2d/held/ElementList" ∧ Fld Z h a "com/example/bloom2d/bloom2d/held/ElementList" "bytes" "[B" (.ref a5) ∧ Fld Z h a "com/example/bloom2d/bloom2d/held/ElementList" "ends" "[I" (.ref a21) ∧ Fld Z h a "com/example/bloom2d/bloom2d/held/ElementList" "size" "I" (.int (0 : Int32)) ∧ Av Z h a5 .byte (List.replicate 65536 (.int (0 : Int32))) ∧ Av Z h a21 .int (List.replicate 1024 (.int (0 : Int32)))) := by
  refine Con.of (plainFor_of_name pn0) hn (fun m => ef1 m a) ?_
  intro p e s m below meth c s₀ hnm G0
  have K0 : Keep h0 h0 [a] := Keep.refl _ _
  have G1 := G0.aloadN (v := (.ref a)) (pc' := 1) d1_0 rfl
  have G2 := G1.initO (pc' := 4) (hw _ (List.mem_of_getElem? (i := 7) rfl)) (hw _ (List.mem_of_getElem? (i := 8) rfl)) (hw _ (List.mem_of_getElem? (i := 9) rfl)) d1_1 (W := 0) rfl rfl (by decide) (by decide)
  have G3 := G2.aloadN (v := (.ref a)) (pc' := 5) d1_4 rfl
  have G4 := G3.ldc (v := (65536 : Int32)) (pc' := 7) (hw _ (List.mem_of_getElem? (i := 10) rfl)) d1_5
  obtain ⟨a5, h5, ea5, g_a5, X5, V5, G5⟩ := G4.newA (ty := .byte) (dv := (.int (0 : Int32))) (N := 65536) (cap := 65536) (pc' := 9) (k' := 1) (j' := 65536) (hw _ (List.mem_of_getElem? (i := 0) rfl)) d1_7 rfl rfl (by decide) (by decide) (by decide) rfl rfl rfl (by decide) (by decide)
  have ne6 : a ≠ a5 := by rw [ea5]; exact Nat.ne_of_lt E_a.lt
  have sz5 : h0.size ≤ a5 := by rw [ea5]; exact K0.1
  have E7 : Exa Z h5 a "com/example/bloom2d/bloom2d/held/ElementList" := E_a.ext X5
  have F8 : Fld Z h5 a "com/example/bloom2d/bloom2d/held/ElementList" "bytes" "[B" .null := F_a_bytes.ext X5
  have F9 : Fld Z h5 a "com/example/bloom2d/bloom2d/held/ElementList" "ends" "[I" .null := F_a_ends.ext X5
  have F10 : Fld Z h5 a "com/example/bloom2d/bloom2d/held/ElementList" "size" "I" (.int (0 : Int32)) := F_a_size.ext X5
  have K11 : Keep h0 h5 [a] := K0.ext X5
  obtain ⟨h12, W12, G12⟩ := G5.putF (v := (.ref a5)) (pc' := 12) (host := "") (Or.inl (hw _ (List.mem_of_getElem? (i := 11) rfl))) Via.refl F8 E7 g_a (Or.inl (hw _ (List.mem_of_getElem? (i := 12) rfl))) (hw _ (List.mem_of_getElem? (i := 2) rfl)) (ty := (.array .byte)) (by decide) rfl rfl d1_9
  have E13 : Exa Z h12 a "com/example/bloom2d/bloom2d/held/ElementList" := E7.wr W12
  have F14 : Fld Z h12 a "com/example/bloom2d/bloom2d/held/ElementList" "bytes" "[B" (.ref a5) := F8.same W12
  have F15 : Fld Z h12 a "com/example/bloom2d/bloom2d/held/ElementList" "ends" "[I" .null := F9.other W12 (Or.inr (slot_ne (Or.inl (hw _ (List.mem_of_getElem? (i := 15) rfl))) (Or.inl (hw _ (List.mem_of_getElem? (i := 12) rfl))) (by decide) (t := (.array .int)) (t' := (.array .byte)) (by decide) (by decide)))
  have F16 : Fld Z h12 a "com/example/bloom2d/bloom2d/held/ElementList" "size" "I" (.int (0 : Int32)) := F10.other W12 (Or.inr (slot_ne (Or.inl (hw _ (List.mem_of_getElem? (i := 22) rfl))) (Or.inl (hw _ (List.mem_of_getElem? (i := 12) rfl))) (by decide) (t := .int) (t' := (.array .byte)) (by decide) (by decide)))
  have K17 : Keep h0 h12 [a] := K11.wr W12 (Or.inl (List.mem_of_getElem? (i := 0) rfl))
  have V18 : Av Z h12 a5 .byte (List.replicate 65536 (.int (0 : Int32))) := V5.other W12 (Ne.symm ne6)
  have G19 := G12.aloadN (v := (.ref a)) (pc' := 13) d1_12 rfl
  have G20 := G19.sipush (v := (1024 : Int32)) (pc' := 16) d1_13
  obtain ⟨a21, h21, ea21, g_a21, X21, V21, G21⟩ := G20.newA (ty := .int) (dv := (.int (0 : Int32))) (N := 1024) (cap := 1024) (pc' := 18) (k' := 2) (j' := 66560) (hw _ (List.mem_of_getElem? (i := 13) rfl)) d1_16 rfl rfl (by decide) (by decide) (by decide) rfl rfl rfl (by decide) (by decide)
  have ne22 : a ≠ a21 := by rw [ea21]; exact Nat.ne_of_lt E13.lt
  have ne23 : a5 ≠ a21 := by rw [ea21]; exact Nat.ne_of_lt V18.lt
  have sz21 : h0.size ≤ a21 := by rw [ea21]; exact K17.1
  have E24 : Exa Z h21 a "com/example/bloom2d/bloom2d/held/ElementList" := E13.ext X21
  have F25 : Fld Z h21 a "com/example/bloom2d/bloom2d/held/ElementList" "bytes" "[B" (.ref a5) := F14.ext X21
  have F26 : Fld Z h21 a "com/example/bloom2d/bloom2d/held/ElementList" "ends" "[I" .null := F15.ext X21
  have F27 : Fld Z h21 a "com/example/bloom2d/bloom2d/held/ElementList" "size" "I" (.int (0 : Int32)) := F16.ext X21
  have K28 : Keep h0 h21 [a] := K17.ext X21
  have V29 : Av Z h21 a5 .byte (List.replicate 65536 (.int (0 : Int32))) := V18.ext X21
  obtain ⟨h30, W30, G30⟩ := G21.putF (v := (.ref a21)) (pc' := 21) (host := "") (Or.inl (hw _ (List.mem_of_getElem? (i := 14) rfl))) Via.refl F26 E24 g_a (Or.inl (hw _ (List.mem_of_getElem? (i := 15) rfl))) (hw _ (List.mem_of_getElem? (i := 2) rfl)) (ty := (.array .int)) (by decide) rfl rfl d1_18
  have E31 : Exa Z h30 a "com/example/bloom2d/bloom2d/held/ElementList" := E24.wr W30
  have F32 : Fld Z h30 a "com/example/bloom2d/bloom2d/held/ElementList" "bytes" "[B" (.ref a5) := F25.other W30 (Or.inr (slot_ne (Or.inl (hw _ (List.mem_of_getElem? (i := 12) rfl))) (Or.inl (hw _ (List.mem_of_getElem? (i := 15) rfl))) (by decide) (t := (.array .byte)) (t' := (.array .int)) (by decide) (by decide)))
  have F33 : Fld Z h30 a "com/example/bloom2d/bloom2d/held/ElementList" "ends" "[I" (.ref a21) := F26.same W30
  have F34 : Fld Z h30 a "com/example/bloom2d/bloom2d/held/ElementList" "size" "I" (.int (0 : Int32)) := F27.other W30 (Or.inr (slot_ne (Or.inl (hw _ (List.mem_of_getElem? (i := 22) rfl))) (Or.inl (hw _ (List.mem_of_getElem? (i := 15) rfl))) (by decide) (t := .int) (t' := (.array .int)) (by decide) (by decide)))
  have K35 : Keep h0 h30 [a] := K28.wr W30 (Or.inl (List.mem_of_getElem? (i := 0) rfl))
  have V36 : Av Z h30 a5 .byte (List.replicate 65536 (.int (0 : Int32))) := V29.other W30 (Ne.symm ne6)
  have V37 : Av Z h30 a21 .int (List.replicate 1024 (.int (0 : Int32))) := V21.other W30 (Ne.symm ne22)
  exact G30.retV d1_21 rfl ⟨a5, a21, rfl, K35, sz5, sz21, ne23, E31, F32, F33, F34, V36, V37⟩
theorem own_e (x y : Int32) : (x.toInt64 + y.toInt64).toInt32 = x + y := by
  apply Int32.toInt_inj.mp
  have e1 := c_l2i (x.toInt64 + y.toInt64)
  have e2 := c_ladd x.toInt64 y.toInt64
  have e3 := c_iadd x y
  have r1 := rng32 (x.toInt64 + y.toInt64).toInt32
  have r2 := rng32 (x + y)
  have e4 := c_i2l x
  have e5 := c_i2l y
  omega
theorem own_le (w x : Int32) (h1 : 0 ≤ w.toInt ∧ w.toInt ≤ 510) (h2 : 0 ≤ x.toInt ∧ x.toInt ≤ 255) : ¬ (65536 : Int32).toInt64 < w.toInt64 + x.toInt64 := by
  have e2 := c_ladd w.toInt64 x.toInt64
  have e4 := c_i2l w
  have e5 := c_i2l x
  have r := rng64 (w.toInt64 + x.toInt64)
  have k : (65536 : Int32).toInt64.toInt = 65536 := rfl
  rw [Int64.lt_iff_toInt_lt, k]
  omega
theorem own_n (z : Int32) (n : Nat) (h : z.toInt = (n : Int)) (h2 : n ≤ 2) : ¬ z = (1024 : Int32) := fun q => by
  rw [q] at h
  have k : (1024 : Int32).toInt = 1024 := rfl
  omega
theorem d4_0 : decode prog_51_method_8_code 0 = .ok (.iload_n 1, 1) := by decide +kernel
theorem d4_1 : decode prog_51_method_8_code 1 = .ok (.ifCond .ne 7, 3) := by decide +kernel
theorem d4_4 : decode prog_51_method_8_code 4 = .ok (.iconst 0, 1) := by decide +kernel
theorem d4_5 : decode prog_51_method_8_code 5 = .ok (.goto 11, 3) := by decide +kernel
theorem d4_8 : decode prog_51_method_8_code 8 = .ok (.aload_n 0, 1) := by decide +kernel
theorem d4_9 : decode prog_51_method_8_code 9 = .ok (.getfield 16, 3) := by decide +kernel
theorem d4_12 : decode prog_51_method_8_code 12 = .ok (.iload_n 1, 1) := by decide +kernel
theorem d4_13 : decode prog_51_method_8_code 13 = .ok (.iconst 1, 1) := by decide +kernel
theorem d4_14 : decode prog_51_method_8_code 14 = .ok (.isub, 1) := by decide +kernel
theorem d4_15 : decode prog_51_method_8_code 15 = .ok (.iaload, 1) := by decide +kernel
theorem d4_16 : decode prog_51_method_8_code 16 = .ok (.ireturn, 1) := by decide +kernel
theorem ef4 (m : MethodId) (a : Addr) (x0 : Int32) : entryFrame m #[(.ref a), (.int x0)] 2 = mkF m 0 #[.val (.ref a), .val (.int x0)] [] := by first | (simp [entryFrame, mkF, argsToLocals, Value.category]; done) | rfl
def rm4 : Room := { frames := 0, cells := 0, slots := 0, locals := 0 }
set_option maxRecDepth 65536 in
set_option maxHeartbeats 40000000 in
theorem cn4 (l : Launch) (Z : State) (a0 : Array Value) (hw : ∀ d ∈ tables_1, d.before a0 Z = true) (a : Addr) (x0 : Int32) (h0 : Heap) (n0 : Nat) (hn : n0 ≤ h0.size) (be : Addr) (ve : List Value) (w : Int32) (F0 : Fld Z h0 a "com/example/bloom2d/bloom2d/held/ElementList" "ends" "[I" (.ref be)) (V0 : Av Z h0 be .int ve) (hq : (x0 = 0 ∧ w = 0) ∨ ∃ n : Nat, ¬ x0 = 0 ∧ (x0 - 1).toInt = (n : Int) ∧ ve[n]? = some (.int w)) :
    Con l (⟨"com/example/bloom2d/bloom2d/held/ElementList", "start", "(I)I"⟩ : MethodName) prog_51_method_8_code 2 (some .int) [] rm4 rm4.cells rm4.slots Z #[(.ref a), (.int x0)] h0 n0 (fun v h => v = some (.int w) ∧ h = h0) := by
  refine Con.of (plainFor_of_name pn0) hn (fun m => ef4 m a x0) ?_
  intro p e s m below meth c s₀ hnm G0
  rcases hq with ⟨q1, q2⟩ | ⟨n, q1, q2, q3⟩
  · have G1 := G0.iloadN (v := x0) (pc' := 1) d4_0 rfl
    have G2 := G1.ifN d4_1 4 (Jvm.Free.XT.i0_ne_f q1)
    have G3 := G2.iconst (v := (0 : Int32)) (pc' := 5) d4_4
    have G4 := G3.goto d4_5 16
    exact G4.retI d4_16 rfl ⟨by rw [q2], rfl⟩
  · have G1 := G0.iloadN (v := x0) (pc' := 1) d4_0 rfl
    have G2 := G1.ifY d4_1 8 (Jvm.Free.XT.i0_ne_t q1)
    have G3 := G2.aloadN (v := (.ref a)) (pc' := 9) d4_8 rfl
    have G4 := G3.getF (pc' := 12) (v := (.ref be)) (host := "") (Or.inl (hw _ (List.mem_of_getElem? (i := 14) rfl))) Via.refl F0 d4_9
    have G5 := G4.iloadN (v := x0) (pc' := 13) d4_12 rfl
    have G6 := G5.iconst (v := (1 : Int32)) (pc' := 14) d4_13
    have G7 := G6.isub (pc' := 15) d4_14
    have G8 := G7.ldI (i := n) (v := (.int w)) (pc' := 16) V0 q2 q3 d4_15
    exact G8.retI d4_16 rfl ⟨rfl, rfl⟩
theorem d3_0 : decode prog_51_method_2_code 0 = .ok (.aload_n 0, 1) := by decide +kernel
theorem d3_1 : decode prog_51_method_2_code 1 = .ok (.aload_n 0, 1) := by decide +kernel
theorem d3_2 : decode prog_51_method_2_code 2 = .ok (.getfield 20, 3) := by decide +kernel
theorem d3_5 : decode prog_51_method_2_code 5 = .ok (.invokevirtual 24, 3) := by decide +kernel
theorem d3_8 : decode prog_51_method_2_code 8 = .ok (.istore 4, 2) := by decide +kernel
theorem d3_10 : decode prog_51_method_2_code 10 = .ok (.iload 4, 2) := by decide +kernel
theorem d3_12 : decode prog_51_method_2_code 12 = .ok (.i2l, 1) := by decide +kernel
theorem d3_13 : decode prog_51_method_2_code 13 = .ok (.iload_n 3, 1) := by decide +kernel
theorem d3_14 : decode prog_51_method_2_code 14 = .ok (.i2l, 1) := by decide +kernel
theorem d3_15 : decode prog_51_method_2_code 15 = .ok (.ladd, 1) := by decide +kernel
theorem d3_16 : decode prog_51_method_2_code 16 = .ok (.lstore 5, 2) := by decide +kernel
theorem d3_18 : decode prog_51_method_2_code 18 = .ok (.lload 5, 2) := by decide +kernel
theorem d3_20 : decode prog_51_method_2_code 20 = .ok (.aload_n 0, 1) := by decide +kernel
theorem d3_21 : decode prog_51_method_2_code 21 = .ok (.getfield 12, 3) := by decide +kernel
theorem d3_24 : decode prog_51_method_2_code 24 = .ok (.arraylength, 1) := by decide +kernel
theorem d3_25 : decode prog_51_method_2_code 25 = .ok (.i2l, 1) := by decide +kernel
theorem d3_26 : decode prog_51_method_2_code 26 = .ok (.lcmp, 1) := by decide +kernel
theorem d3_27 : decode prog_51_method_2_code 27 = .ok (.ifCond .le 24, 3) := by decide +kernel
theorem d3_30 : decode prog_51_method_2_code 30 = .ok (.aload_n 0, 1) := by decide +kernel
theorem d3_31 : decode prog_51_method_2_code 31 = .ok (.aload_n 0, 1) := by decide +kernel
theorem d3_32 : decode prog_51_method_2_code 32 = .ok (.getfield 12, 3) := by decide +kernel
theorem d3_35 : decode prog_51_method_2_code 35 = .ok (.aload_n 0, 1) := by decide +kernel
theorem d3_36 : decode prog_51_method_2_code 36 = .ok (.getfield 12, 3) := by decide +kernel
theorem d3_39 : decode prog_51_method_2_code 39 = .ok (.arraylength, 1) := by decide +kernel
theorem d3_40 : decode prog_51_method_2_code 40 = .ok (.lload 5, 2) := by decide +kernel
theorem d3_42 : decode prog_51_method_2_code 42 = .ok (.invokestatic 28, 3) := by decide +kernel
theorem d3_45 : decode prog_51_method_2_code 45 = .ok (.invokestatic 32, 3) := by decide +kernel
theorem d3_48 : decode prog_51_method_2_code 48 = .ok (.putfield 12, 3) := by decide +kernel
theorem d3_51 : decode prog_51_method_2_code 51 = .ok (.aload_n 0, 1) := by decide +kernel
theorem d3_52 : decode prog_51_method_2_code 52 = .ok (.getfield 20, 3) := by decide +kernel
theorem d3_55 : decode prog_51_method_2_code 55 = .ok (.aload_n 0, 1) := by decide +kernel
theorem d3_56 : decode prog_51_method_2_code 56 = .ok (.getfield 16, 3) := by decide +kernel
theorem d3_59 : decode prog_51_method_2_code 59 = .ok (.arraylength, 1) := by decide +kernel
theorem d3_60 : decode prog_51_method_2_code 60 = .ok (.if_icmp .ne 29, 3) := by decide +kernel
theorem d3_63 : decode prog_51_method_2_code 63 = .ok (.aload_n 0, 1) := by decide +kernel
theorem d3_64 : decode prog_51_method_2_code 64 = .ok (.aload_n 0, 1) := by decide +kernel
theorem d3_65 : decode prog_51_method_2_code 65 = .ok (.getfield 16, 3) := by decide +kernel
theorem d3_68 : decode prog_51_method_2_code 68 = .ok (.aload_n 0, 1) := by decide +kernel
theorem d3_69 : decode prog_51_method_2_code 69 = .ok (.getfield 16, 3) := by decide +kernel
theorem d3_72 : decode prog_51_method_2_code 72 = .ok (.arraylength, 1) := by decide +kernel
theorem d3_73 : decode prog_51_method_2_code 73 = .ok (.aload_n 0, 1) := by decide +kernel
theorem d3_74 : decode prog_51_method_2_code 74 = .ok (.getfield 20, 3) := by decide +kernel
theorem d3_77 : decode prog_51_method_2_code 77 = .ok (.i2l, 1) := by decide +kernel
theorem d3_78 : decode prog_51_method_2_code 78 = .ok (.lconst 1, 1) := by decide +kernel
theorem d3_79 : decode prog_51_method_2_code 79 = .ok (.ladd, 1) := by decide +kernel
theorem d3_80 : decode prog_51_method_2_code 80 = .ok (.invokestatic 28, 3) := by decide +kernel
theorem d3_83 : decode prog_51_method_2_code 83 = .ok (.invokestatic 38, 3) := by decide +kernel
theorem d3_86 : decode prog_51_method_2_code 86 = .ok (.putfield 16, 3) := by decide +kernel
theorem d3_89 : decode prog_51_method_2_code 89 = .ok (.aload_n 1, 1) := by decide +kernel
theorem d3_90 : decode prog_51_method_2_code 90 = .ok (.iload_n 2, 1) := by decide +kernel
theorem d3_91 : decode prog_51_method_2_code 91 = .ok (.aload_n 0, 1) := by decide +kernel
theorem d3_92 : decode prog_51_method_2_code 92 = .ok (.getfield 12, 3) := by decide +kernel
theorem d3_95 : decode prog_51_method_2_code 95 = .ok (.iload 4, 2) := by decide +kernel
theorem d3_97 : decode prog_51_method_2_code 97 = .ok (.iload_n 3, 1) := by decide +kernel
theorem d3_98 : decode prog_51_method_2_code 98 = .ok (.invokestatic 41, 3) := by decide +kernel
theorem d3_101 : decode prog_51_method_2_code 101 = .ok (.aload_n 0, 1) := by decide +kernel
theorem d3_102 : decode prog_51_method_2_code 102 = .ok (.getfield 16, 3) := by decide +kernel
theorem d3_105 : decode prog_51_method_2_code 105 = .ok (.aload_n 0, 1) := by decide +kernel
theorem d3_106 : decode prog_51_method_2_code 106 = .ok (.dup, 1) := by decide +kernel
theorem d3_107 : decode prog_51_method_2_code 107 = .ok (.getfield 20, 3) := by decide +kernel
theorem d3_110 : decode prog_51_method_2_code 110 = .ok (.dup_x1, 1) := by decide +kernel
theorem d3_111 : decode prog_51_method_2_code 111 = .ok (.iconst 1, 1) := by decide +kernel
theorem d3_112 : decode prog_51_method_2_code 112 = .ok (.iadd, 1) := by decide +kernel
theorem d3_113 : decode prog_51_method_2_code 113 = .ok (.putfield 20, 3) := by decide +kernel
theorem d3_116 : decode prog_51_method_2_code 116 = .ok (.lload 5, 2) := by decide +kernel
theorem d3_118 : decode prog_51_method_2_code 118 = .ok (.l2i, 1) := by decide +kernel
theorem d3_119 : decode prog_51_method_2_code 119 = .ok (.iastore, 1) := by decide +kernel
theorem d3_120 : decode prog_51_method_2_code 120 = .ok (.return_, 1) := by decide +kernel
theorem ef3 (m : MethodId) (a : Addr) (src : Addr) (x1 : Int32) (x2 : Int32) : entryFrame m #[(.ref a), (.ref src), (.int x1), (.int x2)] 7 = mkF m 0 #[.val (.ref a), .val (.ref src), .val (.int x1), .val (.int x2), .unset, .unset, .unset] [] := by first | (simp [entryFrame, mkF, argsToLocals, Value.category]; done) | rfl
theorem pd0 : parseMethodDescriptor "(I)I" = some ⟨[.int], some .int⟩ := by decide +kernel
def rm3 : Room := { frames := 1, cells := 0, slots := 0, locals := 18 }
set_option maxRecDepth 65536 in
set_option maxHeartbeats 40000000 in
theorem cn3 (l : Launch) (Z : State) (a0 : Array Value) (hw : ∀ d ∈ tables_1, d.before a0 Z = true) (a : Addr) (src : Addr) (x1 : Int32) (x2 : Int32) (bb : Addr) (be : Addr) (sz : Int32) (vs : List Value) (vb : List Value) (ve : List Value) (w : Int32) (n : Nat) (h0 : Heap) (n0 : Nat) (hn : n0 ≤ h0.size) (E_a : Exa Z h0 a "com/example/bloom2d/bloom2d/held/ElementList") (F_a_bytes : Fld Z h0 a "com/example/bloom2d/bloom2d/held/ElementList" "bytes" "[B" (.ref bb)) (F_a_ends : Fld Z h0 a "com/example/bloom2d/bloom2d/held/ElementList" "ends" "[I" (.ref be)) (F_a_size : Fld Z h0 a "com/example/bloom2d/bloom2d/held/ElementList" "size" "I" (.int sz)) (V_src : Av Z h0 src .byte vs) (V_bb : Av Z h0 bb .byte vb) (V_be : Av Z h0 be .int ve) (g_a : n0 ≤ a) (g_be : n0 ≤ be) (g_bb : n0 ≤ bb) (ne_src_a : src ≠ a) (ne_bb_a : bb ≠ a) (ne_be_a : be ≠ a) (ne_src_be : src ≠ be) (ne_bb_be : bb ≠ be) (ne_src_bb : src ≠ bb) (hq : (sz = 0 ∧ w = 0) ∨ ∃ n : Nat, ¬ sz = 0 ∧ (sz - 1).toInt = (n : Int) ∧ ve[n]? = some (.int w)) (hwb : 0 ≤ w.toInt ∧ w.toInt ≤ 510) (hx1 : 0 ≤ x1.toInt ∧ x1.toInt ≤ 255) (hx2 : 0 ≤ x2.toInt ∧ x2.toInt ≤ 255) (hsz : sz.toInt = (n : Int)) (hn2 : n ≤ 2) (hvs : vs.length = 512) (hvb : vb.length = 65536) (hve : ve.length = 1024) :
    Con l (⟨"com/example/bloom2d/bloom2d/held/ElementList", "add", "([BII)V"⟩ : MethodName) prog_51_method_2_code 7 none [] rm3 rm3.cells rm3.slots Z #[(.ref a), (.ref src), (.int x1), (.int x2)] h0 n0 (fun v h => ∃ vb1 : List Value, v = none ∧ Keep h0 h [a, be, bb] ∧ Exa Z h a "com/example/bloom2d/bloom2d/held/ElementList" ∧ Fld Z h a "com/example/bloom2d/bloom2d/held/ElementList" "bytes" "[B" (.ref bb) ∧ Fld Z h a "com/example/bloom2d/bloom2d/held/ElementList" "ends" "[I" (.ref be) ∧ Fld Z h a "com/example/bloom2d/bloom2d/held/ElementList" "size" "I" (.int (sz + (1 : Int32))) ∧ Av Z h be .int (List.set ve n (.int (w + x2))) ∧ Av Z h bb .byte vb1 ∧ vb1.length = 65536) := by
  refine Con.of (plainFor_of_name pn0) hn (fun m => ef3 m a src x1 x2) ?_
  intro p e s m below meth c s₀ hnm G0
  have K0 : Keep h0 h0 [a, be, bb] := Keep.refl _ _
  have G1 := G0.aloadN (v := (.ref a)) (pc' := 1) d3_0 rfl
  have G2 := G1.aloadN (v := (.ref a)) (pc' := 2) d3_1 rfl
  have G3 := G2.getF (pc' := 5) (v := (.int sz)) (host := "") (Or.inl (hw _ (List.mem_of_getElem? (i := 21) rfl))) Via.refl F_a_size d3_2
  obtain ⟨v4, h4, ⟨ev4, eh4⟩, g4⟩ := G3.callV (argsL := [(.int sz)]) (rest := []) (pc' := 8) (k' := 0) (j' := 0) (cn4 l Z a0 hw a sz h0 n0 G3.size be ve w F_a_ends V_be hq) rfl E_a (hw _ (List.mem_of_getElem? (i := 23) rfl)) (hw _ (List.mem_of_getElem? (i := 24) rfl)) (hw _ (List.mem_of_getElem? (i := 26) rfl)) (hw _ (List.mem_of_getElem? (i := 25) rfl)) (hw _ (List.mem_of_getElem? (i := 3) rfl)) (hw _ (List.mem_of_getElem? (i := 27) rfl)) (by decide) d3_5 pd0 rfl (W := 0) rfl rfl (by decide) (by decide) (by decide) (by decide) rfl rfl rfl
  subst ev4
  rw [eh4] at g4
  have G4 := g4 [(.int w)] rfl
  have G5 := G4.istore (L' := #[.val (.ref a), .val (.ref src), .val (.int x1), .val (.int x2), .val (.int w), .unset, .unset]) (pc' := 10) d3_8 rfl
  have G6 := G5.iload (v := w) (pc' := 12) d3_10 rfl
  have G7 := G6.i2l (pc' := 13) d3_12
  have G8 := G7.iloadN (v := x2) (pc' := 14) d3_13 rfl
  have G9 := G8.i2l (pc' := 15) d3_14
  have G10 := G9.ladd (pc' := 16) d3_15
  have G11 := G10.lstore (L' := #[.val (.ref a), .val (.ref src), .val (.int x1), .val (.int x2), .val (.int w), .val (.long (w.toInt64 + x2.toInt64)), .second]) (pc' := 18) d3_16 rfl
  have G12 := G11.lload (v := (w.toInt64 + x2.toInt64)) (pc' := 20) d3_18 rfl
  have G13 := G12.aloadN (v := (.ref a)) (pc' := 21) d3_20 rfl
  have G14 := G13.getF (pc' := 24) (v := (.ref bb)) (host := "") (Or.inl (hw _ (List.mem_of_getElem? (i := 11) rfl))) Via.refl F_a_bytes d3_21
  have G15 := G14.arrlen (pc' := 25) (v := (65536 : Int32)) V_bb (by rw [hvb]; decide) d3_24
  have G16 := G15.i2l (pc' := 26) d3_25
  have G17 := G16.lcmp (pc' := 27) d3_26
  have G18 := G17.ifY d3_27 51 (Jvm.Free.XT.ll_le_t (own_le w x2 hwb hx2))
  have G19 := G18.aloadN (v := (.ref a)) (pc' := 52) d3_51 rfl
  have G20 := G19.getF (pc' := 55) (v := (.int sz)) (host := "") (Or.inl (hw _ (List.mem_of_getElem? (i := 21) rfl))) Via.refl F_a_size d3_52
  have G21 := G20.aloadN (v := (.ref a)) (pc' := 56) d3_55 rfl
  have G22 := G21.getF (pc' := 59) (v := (.ref be)) (host := "") (Or.inl (hw _ (List.mem_of_getElem? (i := 14) rfl))) Via.refl F_a_ends d3_56
  have G23 := G22.arrlen (pc' := 60) (v := (1024 : Int32)) V_be (by rw [hve]; decide) d3_59
  have G24 := G23.icmpY d3_60 89 (Jvm.Free.XT.ii_ne_t (own_n sz n hsz hn2))
  have G25 := G24.aloadN (v := (.ref src)) (pc' := 90) d3_89 rfl
  have G26 := G25.iloadN (v := x1) (pc' := 91) d3_90 rfl
  have G27 := G26.aloadN (v := (.ref a)) (pc' := 92) d3_91 rfl
  have G28 := G27.getF (pc' := 95) (v := (.ref bb)) (host := "") (Or.inl (hw _ (List.mem_of_getElem? (i := 11) rfl))) Via.refl F_a_bytes d3_92
  have G29 := G28.iload (v := w) (pc' := 97) d3_95 rfl
  have G30 := G29.iloadN (v := x2) (pc' := 98) d3_97 rfl
  obtain ⟨h31, K31, V31, G31⟩ := G30.cp (s' := x1.toInt.toNat) (d' := w.toInt.toNat) (n' := x2.toInt.toNat) (pc' := 101) V_src V_bb rfl g_bb (hw _ (List.mem_of_getElem? (i := 28) rfl)) (hw _ (List.mem_of_getElem? (i := 31) rfl)) (hw _ (List.mem_of_getElem? (i := 29) rfl)) (hw _ (List.mem_of_getElem? (i := 30) rfl)) (Int.toNat_of_nonneg hx1.1).symm (Int.toNat_of_nonneg hwb.1).symm (Int.toNat_of_nonneg hx2.1).symm (by omega) (by omega) d3_98 (W := 0) rfl rfl (by decide) (by decide)
  have E32 : Exa Z h31 a "com/example/bloom2d/bloom2d/held/ElementList" := E_a.keep K31
  have F33 : Fld Z h31 a "com/example/bloom2d/bloom2d/held/ElementList" "bytes" "[B" (.ref bb) := F_a_bytes.keep K31 (ninS (Ne.symm ne_bb_a) nin0)
  have F34 : Fld Z h31 a "com/example/bloom2d/bloom2d/held/ElementList" "ends" "[I" (.ref be) := F_a_ends.keep K31 (ninS (Ne.symm ne_bb_a) nin0)
  have F35 : Fld Z h31 a "com/example/bloom2d/bloom2d/held/ElementList" "size" "I" (.int sz) := F_a_size.keep K31 (ninS (Ne.symm ne_bb_a) nin0)
  have V36 : Av Z h31 src .byte vs := V_src.keep K31 (ninS ne_src_bb nin0)
  have V37 : Av Z h31 be .int ve := V_be.keep K31 (ninS (Ne.symm ne_bb_be) nin0)
  have K38 : Keep h0 h31 [a, be, bb] := K0.trans K31 (allS (Or.inl (List.mem_of_getElem? (i := 2) rfl)) all0)
  obtain ⟨vb1, hvb1, Vb1⟩ : ∃ vb1 : List Value, vb1.length = 65536 ∧ Av Z h31 bb .byte vb1 := ⟨_, by simp only [List.length_append, List.length_take, List.length_drop]; omega, V31⟩
  have G39 := G31.aloadN (v := (.ref a)) (pc' := 102) d3_101 rfl
  have G40 := G39.getF (pc' := 105) (v := (.ref be)) (host := "") (Or.inl (hw _ (List.mem_of_getElem? (i := 14) rfl))) Via.refl F34 d3_102
  have G41 := G40.aloadN (v := (.ref a)) (pc' := 106) d3_105 rfl
  have G42 := G41.dup (pc' := 107) d3_106
  have G43 := G42.getF (pc' := 110) (v := (.int sz)) (host := "") (Or.inl (hw _ (List.mem_of_getElem? (i := 21) rfl))) Via.refl F35 d3_107
  have G44 := G43.dupX1 (pc' := 111) d3_110
  have G45 := G44.iconst (v := (1 : Int32)) (pc' := 112) d3_111
  have G46 := G45.iadd (pc' := 113) d3_112
  obtain ⟨h47, W47, G47⟩ := G46.putF (v := (.int (sz + (1 : Int32)))) (pc' := 116) (host := "") (Or.inl (hw _ (List.mem_of_getElem? (i := 21) rfl))) Via.refl F35 E32 g_a (Or.inl (hw _ (List.mem_of_getElem? (i := 22) rfl))) (hw _ (List.mem_of_getElem? (i := 2) rfl)) (ty := .int) (by decide) rfl rfl d3_113
  have E48 : Exa Z h47 a "com/example/bloom2d/bloom2d/held/ElementList" := E32.wr W47
  have F49 : Fld Z h47 a "com/example/bloom2d/bloom2d/held/ElementList" "bytes" "[B" (.ref bb) := F33.other W47 (Or.inr (slot_ne (Or.inl (hw _ (List.mem_of_getElem? (i := 12) rfl))) (Or.inl (hw _ (List.mem_of_getElem? (i := 22) rfl))) (by decide) (t := (.array .byte)) (t' := .int) (by decide) (by decide)))
  have F50 : Fld Z h47 a "com/example/bloom2d/bloom2d/held/ElementList" "ends" "[I" (.ref be) := F34.other W47 (Or.inr (slot_ne (Or.inl (hw _ (List.mem_of_getElem? (i := 15) rfl))) (Or.inl (hw _ (List.mem_of_getElem? (i := 22) rfl))) (by decide) (t := (.array .int)) (t' := .int) (by decide) (by decide)))
  have F51 : Fld Z h47 a "com/example/bloom2d/bloom2d/held/ElementList" "size" "I" (.int (sz + (1 : Int32))) := F35.same W47
  have V52 : Av Z h47 src .byte vs := V36.other W47 ne_src_a
  have V53 : Av Z h47 be .int ve := V37.other W47 ne_be_a
  have K54 : Keep h0 h47 [a, be, bb] := K38.wr W47 (Or.inl (List.mem_of_getElem? (i := 0) rfl))
  have V55 : Av Z h47 bb .byte vb1 := Vb1.other W47 ne_bb_a
  have G56 := G47.lload (v := (w.toInt64 + x2.toInt64)) (pc' := 118) d3_116 rfl
  have G57 := G56.l2i (pc' := 119) d3_118
  rw [own_e] at G57
  obtain ⟨h58, W58, V58, G58⟩ := G57.stI (i := n) (pc' := 120) V53 g_be hsz (by omega) d3_119
  have E59 : Exa Z h58 a "com/example/bloom2d/bloom2d/held/ElementList" := E48.wr W58
  have F60 : Fld Z h58 a "com/example/bloom2d/bloom2d/held/ElementList" "bytes" "[B" (.ref bb) := F49.other W58 (Or.inl (Ne.symm ne_be_a))
  have F61 : Fld Z h58 a "com/example/bloom2d/bloom2d/held/ElementList" "ends" "[I" (.ref be) := F50.other W58 (Or.inl (Ne.symm ne_be_a))
  have F62 : Fld Z h58 a "com/example/bloom2d/bloom2d/held/ElementList" "size" "I" (.int (sz + (1 : Int32))) := F51.other W58 (Or.inl (Ne.symm ne_be_a))
  have V63 : Av Z h58 src .byte vs := V52.other W58 ne_src_be
  have K64 : Keep h0 h58 [a, be, bb] := K54.wr W58 (Or.inl (List.mem_of_getElem? (i := 1) rfl))
  have V65 : Av Z h58 bb .byte vb1 := V55.other W58 ne_bb_be
  exact G58.retV d3_120 rfl ⟨vb1, rfl, K64, E59, F60, F61, F62, V58, V65, hvb1⟩
theorem own_m (x : Int32) : 0 ≤ (x &&& (255 : Int32)).toInt ∧ (x &&& (255 : Int32)).toInt ≤ 255 := by
  have := c_mask x 255 8 (by decide) (by decide)
  omega
theorem own_s1 (x : Int32) : 0 ≤ ((0 : Int32) + (x &&& (255 : Int32))).toInt ∧ ((0 : Int32) + (x &&& (255 : Int32))).toInt ≤ 510 := by
  rw [Int32.zero_add]
  have := own_m x
  omega
theorem own_s2 (x y : Int32) : 0 ≤ ((0 : Int32) + (x &&& (255 : Int32)) + (y &&& (255 : Int32))).toInt ∧ ((0 : Int32) + (x &&& (255 : Int32)) + (y &&& (255 : Int32))).toInt ≤ 510 := by
  rw [Int32.zero_add]
  have := own_m x
  have := own_m y
  have := c_iadd (x &&& (255 : Int32)) (y &&& (255 : Int32))
  have := rng32 ((x &&& (255 : Int32)) + (y &&& (255 : Int32)))
  omega
theorem pn1 : plainName "com/example/bloom2d/bloom2d/held/ElementListStartPinLaw" = true := by first | (simp [plainName, overriddenIn]; done) | decide +kernel
theorem ef0 (m : MethodId) (x0 : Int32) (x1 : Int32) (x2 : Int32) (x3 : Int32) : entryFrame m #[(.int x0), (.int x1), (.int x2), (.int x3)] maxLocals = mkF m 0 #[.val (.int x0), .val (.int x1), .val (.int x2), .val (.int x3), .unset, .unset, .unset, .unset, .unset, .unset] [] := by first | (simp [entryFrame, mkF, argsToLocals, Value.category, maxLocals]; done) | rfl
theorem pd1 : parseMethodDescriptor "()V" = some ⟨[], none⟩ := by decide +kernel
theorem pd2 : parseMethodDescriptor "([BII)V" = some ⟨[(.array .byte), .int, .int], none⟩ := by decide +kernel
set_option maxRecDepth 65536 in
set_option maxHeartbeats 40000000 in
theorem lawc (l : Launch) (Z : State) (a0 : Array Value) (hw : ∀ d ∈ tables_1, d.before a0 Z = true) (x0 : Int32) (x1 : Int32) (x2 : Int32) (x3 : Int32) (h0 : Heap) (n0 : Nat) (hn : n0 ≤ h0.size) :
    Con l x code maxLocals ret tables_1 room_1 16 134272 Z #[(.int x0), (.int x1), (.int x2), (.int x3)] h0 n0 (fun v _ => v = some (.int 1)) := by
  refine Con.of (plainFor_of_name pn1) hn (fun m => ef0 m x0 x1 x2 x3) ?_
  intro p e s m below meth c s₀ hnm G0
  have G1 := G0.iloadN (v := x0) (pc' := 1) at_0 rfl
  have G2 := G1.sipush (v := (255 : Int32)) (pc' := 4) at_1
  have G3 := G2.iand (pc' := 5) at_4
  have G4 := G3.istore (L' := #[.val (.int x0), .val (.int x1), .val (.int x2), .val (.int x3), .val (.int (x0 &&& (255 : Int32))), .unset, .unset, .unset, .unset, .unset]) (pc' := 7) at_5 rfl
  have G5 := G4.iloadN (v := x1) (pc' := 8) at_7 rfl
  have G6 := G5.sipush (v := (255 : Int32)) (pc' := 11) at_8
  have G7 := G6.iand (pc' := 12) at_11
  have G8 := G7.istore (L' := #[.val (.int x0), .val (.int x1), .val (.int x2), .val (.int x3), .val (.int (x0 &&& (255 : Int32))), .val (.int (x1 &&& (255 : Int32))), .unset, .unset, .unset, .unset]) (pc' := 14) at_12 rfl
  have G9 := G8.iloadN (v := x2) (pc' := 15) at_14 rfl
  have G10 := G9.sipush (v := (255 : Int32)) (pc' := 18) at_15
  have G11 := G10.iand (pc' := 19) at_18
  have G12 := G11.istore (L' := #[.val (.int x0), .val (.int x1), .val (.int x2), .val (.int x3), .val (.int (x0 &&& (255 : Int32))), .val (.int (x1 &&& (255 : Int32))), .val (.int (x2 &&& (255 : Int32))), .unset, .unset, .unset]) (pc' := 21) at_19 rfl
  have G13 := G12.iloadN (v := x3) (pc' := 22) at_21 rfl
  have G14 := G13.sipush (v := (255 : Int32)) (pc' := 25) at_22
  have G15 := G14.iand (pc' := 26) at_25
  have G16 := G15.istore (L' := #[.val (.int x0), .val (.int x1), .val (.int x2), .val (.int x3), .val (.int (x0 &&& (255 : Int32))), .val (.int (x1 &&& (255 : Int32))), .val (.int (x2 &&& (255 : Int32))), .val (.int (x3 &&& (255 : Int32))), .unset, .unset]) (pc' := 28) at_26 rfl
  have G17 := G16.sipush (v := (512 : Int32)) (pc' := 31) at_28
  obtain ⟨a18, h18, ea18, g_a18, X18, V18, G18⟩ := G17.newA (ty := .byte) (dv := (.int (0 : Int32))) (N := 512) (cap := 512) (pc' := 33) (k' := 1) (j' := 512) (hw _ (List.mem_of_getElem? (i := 0) rfl)) at_31 rfl rfl (by decide) (by decide) (by decide) rfl rfl rfl (by decide) (by decide)
  have G19 := G18.astore (L' := #[.val (.int x0), .val (.int x1), .val (.int x2), .val (.int x3), .val (.int (x0 &&& (255 : Int32))), .val (.int (x1 &&& (255 : Int32))), .val (.int (x2 &&& (255 : Int32))), .val (.int (x3 &&& (255 : Int32))), .val (.ref a18), .unset]) (pc' := 35) at_33 rfl
  obtain ⟨a20, h20, ea20, g_a20, X20, E20, D20, G20⟩ := G19.newO (pc' := 38) (k' := 2) (j' := 515) (hw _ (List.mem_of_getElem? (i := 1) rfl)) (hw _ (List.mem_of_getElem? (i := 2) rfl)) (hw _ (List.mem_of_getElem? (i := 3) rfl)) at_35 rfl rfl rfl (by decide) (by decide)
  have ne21 : a18 ≠ a20 := by rw [ea20]; exact Nat.ne_of_lt V18.lt
  have V22 : Av Z h20 a18 .byte (List.replicate 512 (.int (0 : Int32))) := V18.ext X20
  have F23 : Fld Z h20 a20 "com/example/bloom2d/bloom2d/held/ElementList" "bytes" "[B" .null := D20 (Or.inl (hw _ (List.mem_of_getElem? (i := 12) rfl))) (ty := (.array .byte)) (by decide)
  have F24 : Fld Z h20 a20 "com/example/bloom2d/bloom2d/held/ElementList" "ends" "[I" .null := D20 (Or.inl (hw _ (List.mem_of_getElem? (i := 15) rfl))) (ty := (.array .int)) (by decide)
  have F25 : Fld Z h20 a20 "com/example/bloom2d/bloom2d/held/ElementList" "size" "I" (.int (0 : Int32)) := D20 (Or.inl (hw _ (List.mem_of_getElem? (i := 22) rfl))) (ty := .int) (by decide)
  have G26 := G20.dup (pc' := 39) at_38
  obtain ⟨v27, h27, ⟨a28, a29, ev27, K27, sz27_0, sz27_1, ne27_0, F27_0, F27_1, F27_2, F27_3, F27_4, F27_5⟩, g27⟩ := G26.callI (argsL := []) (rest := [(.ref a20)]) (pc' := 42) (k' := 4) (j' := 67075) (cn1 l Z a0 hw a20 h20 n0 G26.size E20 F23 F24 F25 g_a20) rfl rfl (hw _ (List.mem_of_getElem? (i := 4) rfl)) (hw _ (List.mem_of_getElem? (i := 5) rfl)) (hw _ (List.mem_of_getElem? (i := 3) rfl)) (hw _ (List.mem_of_getElem? (i := 6) rfl)) (by decide) at_39 pd1 rfl (W := 1) rfl rfl (by decide) (by decide) (by decide) (by decide) rfl rfl rfl
  subst ev27
  have G27 := g27 [(.ref a20)] rfl
  have g_a28 : n0 ≤ a28 := Nat.le_trans G26.size sz27_0
  have ne30 : a18 ≠ a28 := Nat.ne_of_lt (Nat.lt_of_lt_of_le V22.lt sz27_0)
  have ne31 : a20 ≠ a28 := Nat.ne_of_lt (Nat.lt_of_lt_of_le E20.lt sz27_0)
  have g_a29 : n0 ≤ a29 := Nat.le_trans G26.size sz27_1
  have ne32 : a18 ≠ a29 := Nat.ne_of_lt (Nat.lt_of_lt_of_le V22.lt sz27_1)
  have ne33 : a20 ≠ a29 := Nat.ne_of_lt (Nat.lt_of_lt_of_le E20.lt sz27_1)
  have V34 : Av Z h27 a18 .byte (List.replicate 512 (.int (0 : Int32))) := V22.keep K27 (ninS ne21 nin0)
  have E35 : Exa Z h27 a20 "com/example/bloom2d/bloom2d/held/ElementList" := E20.keep K27
  have G36 := G27.astore (L' := #[.val (.int x0), .val (.int x1), .val (.int x2), .val (.int x3), .val (.int (x0 &&& (255 : Int32))), .val (.int (x1 &&& (255 : Int32))), .val (.int (x2 &&& (255 : Int32))), .val (.int (x3 &&& (255 : Int32))), .val (.ref a18), .val (.ref a20)]) (pc' := 44) at_42 rfl
  have G37 := G36.aload (v := (.ref a20)) (pc' := 46) at_44 rfl
  have G38 := G37.aload (v := (.ref a18)) (pc' := 48) at_46 rfl
  have G39 := G38.iload (v := (x3 &&& (255 : Int32))) (pc' := 50) at_48 rfl
  have G40 := G39.iload (v := (x0 &&& (255 : Int32))) (pc' := 52) at_50 rfl
  obtain ⟨v41, h41, ⟨y42, ev41, K41, F41_0, F41_1, F41_2, F41_3, F41_4, F41_5, hx_y42⟩, g41⟩ := G40.callV (argsL := [(.ref a18), (.int (x3 &&& (255 : Int32))), (.int (x0 &&& (255 : Int32)))]) (rest := []) (pc' := 55) (k' := 4) (j' := 67075) (cn3 l Z a0 hw a20 a18 (x3 &&& (255 : Int32)) (x0 &&& (255 : Int32)) a28 a29 (0 : Int32) (List.replicate 512 (.int (0 : Int32))) (List.replicate 65536 (.int (0 : Int32))) (List.replicate 1024 (.int (0 : Int32))) (0 : Int32) 0 h27 n0 G40.size F27_0 F27_1 F27_2 F27_3 V34 F27_4 F27_5 g_a20 g_a29 g_a28 ne21 (Ne.symm ne31) (Ne.symm ne33) ne32 ne27_0 ne30 (Or.inl ⟨rfl, rfl⟩) (by decide) (own_m _) (own_m _) (by decide) (by decide) (by rw [List.length_replicate]) (by rw [List.length_replicate]) (by rw [List.length_replicate])) rfl F27_0 (hw _ (List.mem_of_getElem? (i := 16) rfl)) (hw _ (List.mem_of_getElem? (i := 17) rfl)) (hw _ (List.mem_of_getElem? (i := 19) rfl)) (hw _ (List.mem_of_getElem? (i := 18) rfl)) (hw _ (List.mem_of_getElem? (i := 3) rfl)) (hw _ (List.mem_of_getElem? (i := 20) rfl)) (by decide) at_52 pd2 rfl (W := 0) rfl rfl (by decide) (by decide) (by decide) (by decide) rfl rfl rfl
  subst ev41
  have G41 := g41 [] rfl
  have V43 : Av Z h41 a18 .byte (List.replicate 512 (.int (0 : Int32))) := V34.keep K41 (ninS ne21 (ninS ne32 (ninS ne30 nin0)))
  have E44 : Exa Z h41 a20 "com/example/bloom2d/bloom2d/held/ElementList" := F27_0.keep K41
  have G45 := G41.aload (v := (.ref a20)) (pc' := 57) at_55 rfl
  have G46 := G45.aload (v := (.ref a18)) (pc' := 59) at_57 rfl
  have G47 := G46.iload (v := (x3 &&& (255 : Int32))) (pc' := 61) at_59 rfl
  have G48 := G47.iload (v := (x1 &&& (255 : Int32))) (pc' := 63) at_61 rfl
  obtain ⟨v49, h49, ⟨y50, ev49, K49, F49_0, F49_1, F49_2, F49_3, F49_4, F49_5, hx_y50⟩, g49⟩ := G48.callV (argsL := [(.ref a18), (.int (x3 &&& (255 : Int32))), (.int (x1 &&& (255 : Int32)))]) (rest := []) (pc' := 66) (k' := 4) (j' := 67075) (cn3 l Z a0 hw a20 a18 (x3 &&& (255 : Int32)) (x1 &&& (255 : Int32)) a28 a29 ((0 : Int32) + (1 : Int32)) (List.replicate 512 (.int (0 : Int32))) y42 (List.set (List.replicate 1024 (.int (0 : Int32))) 0 (.int ((0 : Int32) + (x0 &&& (255 : Int32))))) ((0 : Int32) + (x0 &&& (255 : Int32))) 1 h41 n0 G48.size F41_0 F41_1 F41_2 F41_3 V43 F41_5 F41_4 g_a20 g_a29 g_a28 ne21 (Ne.symm ne31) (Ne.symm ne33) ne32 ne27_0 ne30 (Or.inr ⟨0, by decide, by decide, rfl⟩) (own_s1 _) (own_m _) (own_m _) (by decide) (by decide) (by rw [List.length_replicate]) hx_y42 (by simp)) rfl F41_0 (hw _ (List.mem_of_getElem? (i := 16) rfl)) (hw _ (List.mem_of_getElem? (i := 17) rfl)) (hw _ (List.mem_of_getElem? (i := 19) rfl)) (hw _ (List.mem_of_getElem? (i := 18) rfl)) (hw _ (List.mem_of_getElem? (i := 3) rfl)) (hw _ (List.mem_of_getElem? (i := 20) rfl)) (by decide) at_63 pd2 rfl (W := 0) rfl rfl (by decide) (by decide) (by decide) (by decide) rfl rfl rfl
  subst ev49
  have G49 := g49 [] rfl
  have V51 : Av Z h49 a18 .byte (List.replicate 512 (.int (0 : Int32))) := V43.keep K49 (ninS ne21 (ninS ne32 (ninS ne30 nin0)))
  have E52 : Exa Z h49 a20 "com/example/bloom2d/bloom2d/held/ElementList" := F41_0.keep K49
  have G53 := G49.aload (v := (.ref a20)) (pc' := 68) at_66 rfl
  have G54 := G53.aload (v := (.ref a18)) (pc' := 70) at_68 rfl
  have G55 := G54.iload (v := (x3 &&& (255 : Int32))) (pc' := 72) at_70 rfl
  have G56 := G55.iload (v := (x2 &&& (255 : Int32))) (pc' := 74) at_72 rfl
  obtain ⟨v57, h57, ⟨y58, ev57, K57, F57_0, F57_1, F57_2, F57_3, F57_4, F57_5, hx_y58⟩, g57⟩ := G56.callV (argsL := [(.ref a18), (.int (x3 &&& (255 : Int32))), (.int (x2 &&& (255 : Int32)))]) (rest := []) (pc' := 77) (k' := 4) (j' := 67075) (cn3 l Z a0 hw a20 a18 (x3 &&& (255 : Int32)) (x2 &&& (255 : Int32)) a28 a29 (((0 : Int32) + (1 : Int32)) + (1 : Int32)) (List.replicate 512 (.int (0 : Int32))) y50 (List.set (List.set (List.replicate 1024 (.int (0 : Int32))) 0 (.int ((0 : Int32) + (x0 &&& (255 : Int32))))) 1 (.int (((0 : Int32) + (x0 &&& (255 : Int32))) + (x1 &&& (255 : Int32))))) (((0 : Int32) + (x0 &&& (255 : Int32))) + (x1 &&& (255 : Int32))) 2 h49 n0 G56.size F49_0 F49_1 F49_2 F49_3 V51 F49_5 F49_4 g_a20 g_a29 g_a28 ne21 (Ne.symm ne31) (Ne.symm ne33) ne32 ne27_0 ne30 (Or.inr ⟨1, by decide, by decide, rfl⟩) (own_s2 _ _) (own_m _) (own_m _) (by decide) (by decide) (by rw [List.length_replicate]) hx_y50 (by simp)) rfl F49_0 (hw _ (List.mem_of_getElem? (i := 16) rfl)) (hw _ (List.mem_of_getElem? (i := 17) rfl)) (hw _ (List.mem_of_getElem? (i := 19) rfl)) (hw _ (List.mem_of_getElem? (i := 18) rfl)) (hw _ (List.mem_of_getElem? (i := 3) rfl)) (hw _ (List.mem_of_getElem? (i := 20) rfl)) (by decide) at_74 pd2 rfl (W := 0) rfl rfl (by decide) (by decide) (by decide) (by decide) rfl rfl rfl
  subst ev57
  have G57 := g57 [] rfl
  have V59 : Av Z h57 a18 .byte (List.replicate 512 (.int (0 : Int32))) := V51.keep K57 (ninS ne21 (ninS ne32 (ninS ne30 nin0)))
  have E60 : Exa Z h57 a20 "com/example/bloom2d/bloom2d/held/ElementList" := F49_0.keep K57
  have G61 := G57.aload (v := (.ref a20)) (pc' := 79) at_77 rfl
  have G62 := G61.iconst (v := (0 : Int32)) (pc' := 80) at_79
  obtain ⟨v63, h63, ⟨ev63, eh63⟩, g63⟩ := G62.callV (argsL := [(.int (0 : Int32))]) (rest := []) (pc' := 83) (k' := 4) (j' := 67075) (cn4 l Z a0 hw a20 (0 : Int32) h57 n0 G62.size a29 (List.set (List.set (List.set (List.replicate 1024 (.int (0 : Int32))) 0 (.int ((0 : Int32) + (x0 &&& (255 : Int32))))) 1 (.int (((0 : Int32) + (x0 &&& (255 : Int32))) + (x1 &&& (255 : Int32))))) 2 (.int ((((0 : Int32) + (x0 &&& (255 : Int32))) + (x1 &&& (255 : Int32))) + (x2 &&& (255 : Int32))))) (0 : Int32) F57_2 F57_4 (Or.inl ⟨rfl, rfl⟩)) rfl F57_0 (hw _ (List.mem_of_getElem? (i := 32) rfl)) (hw _ (List.mem_of_getElem? (i := 24) rfl)) (hw _ (List.mem_of_getElem? (i := 26) rfl)) (hw _ (List.mem_of_getElem? (i := 25) rfl)) (hw _ (List.mem_of_getElem? (i := 3) rfl)) (hw _ (List.mem_of_getElem? (i := 27) rfl)) (by decide) at_80 pd0 rfl (W := 0) rfl rfl (by decide) (by decide) (by decide) (by decide) rfl rfl rfl
  subst ev63
  rw [eh63] at g63
  have G63 := g63 [(.int (0 : Int32))] rfl
  have G64 := G63.ifN at_83 86 (Jvm.Free.XT.i0_ne_f rfl)
  have G65 := G64.aload (v := (.ref a20)) (pc' := 88) at_86 rfl
  have G66 := G65.iconst (v := (1 : Int32)) (pc' := 89) at_88
  obtain ⟨v67, h67, ⟨ev67, eh67⟩, g67⟩ := G66.callV (argsL := [(.int (1 : Int32))]) (rest := []) (pc' := 92) (k' := 4) (j' := 67075) (cn4 l Z a0 hw a20 (1 : Int32) h57 n0 G66.size a29 (List.set (List.set (List.set (List.replicate 1024 (.int (0 : Int32))) 0 (.int ((0 : Int32) + (x0 &&& (255 : Int32))))) 1 (.int (((0 : Int32) + (x0 &&& (255 : Int32))) + (x1 &&& (255 : Int32))))) 2 (.int ((((0 : Int32) + (x0 &&& (255 : Int32))) + (x1 &&& (255 : Int32))) + (x2 &&& (255 : Int32))))) ((0 : Int32) + (x0 &&& (255 : Int32))) F57_2 F57_4 (Or.inr ⟨0, by decide, by decide, rfl⟩)) rfl F57_0 (hw _ (List.mem_of_getElem? (i := 32) rfl)) (hw _ (List.mem_of_getElem? (i := 24) rfl)) (hw _ (List.mem_of_getElem? (i := 26) rfl)) (hw _ (List.mem_of_getElem? (i := 25) rfl)) (hw _ (List.mem_of_getElem? (i := 3) rfl)) (hw _ (List.mem_of_getElem? (i := 27) rfl)) (by decide) at_89 pd0 rfl (W := 0) rfl rfl (by decide) (by decide) (by decide) (by decide) rfl rfl rfl
  subst ev67
  rw [eh67] at g67
  have G67 := g67 [(.int ((0 : Int32) + (x0 &&& (255 : Int32))))] rfl
  have G68 := G67.iload (v := (x0 &&& (255 : Int32))) (pc' := 94) at_92 rfl
  have G69 := G68.icmpN at_94 97 (Jvm.Free.XT.ii_ne_f (Int32.zero_add _))
  have G70 := G69.aload (v := (.ref a20)) (pc' := 99) at_97 rfl
  have G71 := G70.iconst (v := (2 : Int32)) (pc' := 100) at_99
  obtain ⟨v72, h72, ⟨ev72, eh72⟩, g72⟩ := G71.callV (argsL := [(.int (2 : Int32))]) (rest := []) (pc' := 103) (k' := 4) (j' := 67075) (cn4 l Z a0 hw a20 (2 : Int32) h57 n0 G71.size a29 (List.set (List.set (List.set (List.replicate 1024 (.int (0 : Int32))) 0 (.int ((0 : Int32) + (x0 &&& (255 : Int32))))) 1 (.int (((0 : Int32) + (x0 &&& (255 : Int32))) + (x1 &&& (255 : Int32))))) 2 (.int ((((0 : Int32) + (x0 &&& (255 : Int32))) + (x1 &&& (255 : Int32))) + (x2 &&& (255 : Int32))))) (((0 : Int32) + (x0 &&& (255 : Int32))) + (x1 &&& (255 : Int32))) F57_2 F57_4 (Or.inr ⟨1, by decide, by decide, rfl⟩)) rfl F57_0 (hw _ (List.mem_of_getElem? (i := 32) rfl)) (hw _ (List.mem_of_getElem? (i := 24) rfl)) (hw _ (List.mem_of_getElem? (i := 26) rfl)) (hw _ (List.mem_of_getElem? (i := 25) rfl)) (hw _ (List.mem_of_getElem? (i := 3) rfl)) (hw _ (List.mem_of_getElem? (i := 27) rfl)) (by decide) at_100 pd0 rfl (W := 0) rfl rfl (by decide) (by decide) (by decide) (by decide) rfl rfl rfl
  subst ev72
  rw [eh72] at g72
  have G72 := g72 [(.int (((0 : Int32) + (x0 &&& (255 : Int32))) + (x1 &&& (255 : Int32))))] rfl
  have G73 := G72.iload (v := (x0 &&& (255 : Int32))) (pc' := 105) at_103 rfl
  have G74 := G73.iload (v := (x1 &&& (255 : Int32))) (pc' := 107) at_105 rfl
  have G75 := G74.iadd (pc' := 108) at_107
  have G76 := G75.icmpN at_108 111 (Jvm.Free.XT.ii_ne_f (by rw [Int32.zero_add]))
  have G77 := G76.aload (v := (.ref a20)) (pc' := 113) at_111 rfl
  have G78 := G77.iconst (v := (3 : Int32)) (pc' := 114) at_113
  obtain ⟨v79, h79, ⟨ev79, eh79⟩, g79⟩ := G78.callV (argsL := [(.int (3 : Int32))]) (rest := []) (pc' := 117) (k' := 4) (j' := 67075) (cn4 l Z a0 hw a20 (3 : Int32) h57 n0 G78.size a29 (List.set (List.set (List.set (List.replicate 1024 (.int (0 : Int32))) 0 (.int ((0 : Int32) + (x0 &&& (255 : Int32))))) 1 (.int (((0 : Int32) + (x0 &&& (255 : Int32))) + (x1 &&& (255 : Int32))))) 2 (.int ((((0 : Int32) + (x0 &&& (255 : Int32))) + (x1 &&& (255 : Int32))) + (x2 &&& (255 : Int32))))) ((((0 : Int32) + (x0 &&& (255 : Int32))) + (x1 &&& (255 : Int32))) + (x2 &&& (255 : Int32))) F57_2 F57_4 (Or.inr ⟨2, by decide, by decide, rfl⟩)) rfl F57_0 (hw _ (List.mem_of_getElem? (i := 32) rfl)) (hw _ (List.mem_of_getElem? (i := 24) rfl)) (hw _ (List.mem_of_getElem? (i := 26) rfl)) (hw _ (List.mem_of_getElem? (i := 25) rfl)) (hw _ (List.mem_of_getElem? (i := 3) rfl)) (hw _ (List.mem_of_getElem? (i := 27) rfl)) (by decide) at_114 pd0 rfl (W := 0) rfl rfl (by decide) (by decide) (by decide) (by decide) rfl rfl rfl
  subst ev79
  rw [eh79] at g79
  have G79 := g79 [(.int ((((0 : Int32) + (x0 &&& (255 : Int32))) + (x1 &&& (255 : Int32))) + (x2 &&& (255 : Int32))))] rfl
  have G80 := G79.iload (v := (x0 &&& (255 : Int32))) (pc' := 119) at_117 rfl
  have G81 := G80.iload (v := (x1 &&& (255 : Int32))) (pc' := 121) at_119 rfl
  have G82 := G81.iadd (pc' := 122) at_121
  have G83 := G82.iload (v := (x2 &&& (255 : Int32))) (pc' := 124) at_122 rfl
  have G84 := G83.iadd (pc' := 125) at_124
  have G85 := G84.icmpN at_125 128 (Jvm.Free.XT.ii_ne_f (by rw [Int32.zero_add]))
  have G86 := G85.iconst (v := (1 : Int32)) (pc' := 129) at_128
  have G87 := G86.goto at_129 133
  exact G87.retZ at_133 rfl (Or.inr rfl) rfl
set_option maxRecDepth 65536 in
set_option maxHeartbeats 40000000 in
theorem comes_1 {Post : Tables → Env → Array Value → State → Outcome → State → Prop} (hpost : ∀ tb e args s v u, (limb_1_1.after args s (.returned v) u = true ∧ limb_1_2.after args s (.returned v) u = true) → FrameEnd s (.returned v) u (Jvm.fieldLocs frame_1_writes args s ++ Jvm.arrayLocs frame_1_arrays args s ++ Jvm.staticLocs frame_1_statics s) 16 134272 → Post tb e args s (.returned v) u) :
    ArmFor flags0 classFile x code maxLocals ret World_1 tables_1 room_1 Calls_1 rest_1 Pre_1 Post := by
  intro l hfl _ _ p e ha hc hk s m args below hf hA hF happ hP
  obtain ⟨hcalls, hrest, hpre⟩ := hP
  obtain ⟨-, -, -, hnamed, -, -, -, hat⟩ := (Spec.applies_iff hf).mp happ
  obtain ⟨hg, hn⟩ := and_e (Cond.before_iff.mp (show (Jvm.Cond.and given_1 narrow_1).before args s = true from hpre))
  obtain ⟨hcount, hg0⟩ := and_e hg
  obtain ⟨ga0, hg1⟩ := and_e hg0
  obtain ⟨ga1, hg2⟩ := and_e hg1
  obtain ⟨ga2, hg3⟩ := and_e hg2
  have ga3 := hg3
  obtain ⟨w0, w1, w2, w3, rfl⟩ : ∃ w0 w1 w2 w3 : Value, args = #[w0, w1, w2, w3] := by
    have hs : args.size = 4 := by simpa [Cond.value, given_1] using hcount
    obtain ⟨L⟩ := args
    match L, hs with
    | [w0, w1, w2, w3], _ => exact ⟨w0, w1, w2, w3, rfl⟩
  have hw := fun d (hd : d ∈ tables_1) => atoms_spec (ws := Jvm.Cond.code x code maxLocals ret :: tables_1) hat d (List.mem_cons_of_mem _ hd)
  obtain ⟨i0, ei0⟩ := is_v ga0
  obtain rfl : w0 = (.int i0) := Option.some.inj ei0
  obtain ⟨i1, ei1⟩ := is_v ga1
  obtain rfl : w1 = (.int i1) := Option.some.inj ei1
  obtain ⟨i2, ei2⟩ := is_v ga2
  obtain rfl : w2 = (.int i2) := Option.some.inj ei2
  obtain ⟨i3, ei3⟩ := is_v ga3
  obtain rfl : w3 = (.int i3) := Option.some.inj ei3
  obtain ⟨n, o, h1, h2, h3, _, L, rfl, ⟨rfl, N⟩, hq⟩ := lawc l s _ hw i0 i1 i2 i3 s.heap s.heap.size (Nat.le_refl _) p e ha hc hk s m _ below hf ((Spec.applies_iff_loose hf).mp happ).1 ⟨rfl, State.Warmed39.refl s, rfl⟩ trivial
  refine ⟨n, _, h1, h2, h3, hpost _ _ _ _ _ _ ⟨Cond.after_iff.mpr rfl, Cond.after_iff.mpr (eq_i res_at (Term.int_eval (1)) rfl)⟩ ⟨hq.1, hq.2.1, (hq.2.2.sift fun y hy => Or.inr (N y hy)).mono (by decide) (by decide)⟩⟩
theorem main_1_1 : Claimed_1_1 := comes_1 fun _ _ _ _ _ _ h hF => ⟨h.1, hF⟩
theorem main_1_2 : Claimed_1_2 := comes_1 fun _ _ _ _ _ _ h hF => ⟨h.2, hF⟩
end Jvm.Pilot.@@N@@
namespace Jvm.Pilot.@@N@@
open Jvm Jvm.ClassFile Sem Op Lib Jvm.Free Jvm.Stand Jvm.Pilot.@@N@@.Jvm.D
/-! MADE BY PROGRAM (witnessworld.py) out of the Statement's table words and the real class files: 10 classes; the members and pool entries that the words name. The judged class is class 1, her method 1. -/
namespace start1
open Jvm.ClassFile
def u (s : String) : CpInfo := .utf8 (stringToUtf16 s)
/-- a pool by its gaps: so many unusable entries, then the entry; so many at the end -/
def gap : Nat → List CpInfo → List CpInfo
  | 0, r => r
  | n + 1, r => .unusable :: gap n r
def poolList (es : List (Nat × CpInfo)) (last : Nat) : List CpInfo := es.foldr (fun e r => gap e.1 (e.2 :: r)) (gap last [])
def pool (es : List (Nat × CpInfo)) (last : Nat) : Array CpInfo := ⟨poolList es last⟩
def fileOf (pool : Array CpInfo) (this : Nat) (attrs : Array Attribute := #[]) (ms : Array MethodInfo := #[]) (fl : Nat := 33) (sup : Nat := 0) (ifs : Array Nat := #[]) (fds : Array FieldInfo := #[]) : ClassFile where
  minorVersion := 0
  majorVersion := 65
  constantPool := pool
  accessFlags := fl
  thisClass := this
  superClass := sup
  interfaces := ifs
  fields := fds
  methods := ms
  attributes := attrs
def plain (name : String) (sup : Option ClassId) : Class where
  name := name
  kind := .ordinary
  loader := none
  accessFlags := 33
  super := sup
  interfaces := #[]
  cf := none
  fields := #[]
  methods := #[]
  instanceTypes := #[]
  staticTypes := #[]
  resolved := #[]
  callSites := []
  init := .initialized
  statics := none
  mirror := none

def pool0 : Array CpInfo := pool [(5, u "<init>"), (0, u "()V"), (1, .class_ 10), (1, u "java/lang/Object")] 113

def k0c0 : Code := { maxStack := 0, maxLocals := 1, code := object_method_1_code, exceptionTable := #[], attributes := #[] }
def k0m0 : Method := { name := "<init>", desc := "()V", sig := { parameters := [], returnType := none }, accessFlags := 1, code := some k0c0 }
/-- java/lang/Object -/
def k0 : Class := { plain "java/lang/Object" none with
  accessFlags := 33
  interfaces := #[]
  cf := some (fileOf pool0 8 #[] #[{ accessFlags := 1, nameIndex := 5, descriptorIndex := 6, attributes := #[] }] 33 0 #[] #[])
  fields := #[]
  methods := #[k0m0]
  instanceTypes := #[]
  staticTypes := #[]
  resolved := Array.replicate 124 none
  statics := none }

def pool1 : Array CpInfo := pool [(2, .class_ 4), (0, .nameAndType 5 6), (0, u "java/lang/Object"), (0, u "<init>"), (0, u "()V"), (0, .class_ 8), (0, u "com/example/bloom2d/bloom2d/held/ElementList"), (0, .methodref 7 3), (0, .methodref 7 11), (0, .nameAndType 12 13), (0, u "add"), (0, u "([BII)V"), (0, .methodref 7 15), (0, .nameAndType 16 17), (0, u "start"), (0, u "(I)I"), (0, .class_ 19), (0, u "com/example/bloom2d/bloom2d/held/ElementListStartPinLaw"), (2, u "law"), (0, u "(IIII)Z")] 5

def k1m0 : Method := { name := "<init>", desc := "()V", sig := { parameters := [], returnType := none }, accessFlags := 1, code := none }
def k1c1 : Code := { maxStack := 4, maxLocals := 10, code := code, exceptionTable := #[], attributes := #[] }
def k1m1 : Method := { name := "law", desc := "(IIII)Z", sig := { parameters := [.int, .int, .int, .int], returnType := some .boolean }, accessFlags := 9, code := some k1c1 }
/-- com/example/bloom2d/bloom2d/held/ElementListStartPinLaw -/
def k1 : Class := { plain "com/example/bloom2d/bloom2d/held/ElementListStartPinLaw" (some 0) with
  accessFlags := 49
  interfaces := #[]
  cf := some (fileOf pool1 18 #[] #[{ accessFlags := 1, nameIndex := 5, descriptorIndex := 6, attributes := #[] }, { accessFlags := 9, nameIndex := 22, descriptorIndex := 23, attributes := #[] }] 49 2 #[] #[])
  fields := #[]
  methods := #[k1m0, k1m1]
  instanceTypes := #[]
  staticTypes := #[]
  resolved := Array.replicate 29 none
  statics := none }

def pool2 : Array CpInfo := pool [(3, .methodref 4 5), (0, .class_ 6), (0, .nameAndType 7 8), (0, u "java/lang/Object"), (0, u "<init>"), (0, u "()V"), (0, .class_ 10), (0, u "com/example/bloom2d/bloom2d/held/ElementList"), (0, .integer 65536), (0, .fieldref 9 13), (0, .nameAndType 14 15), (0, u "bytes"), (0, u "[B"), (0, .fieldref 9 17), (0, .nameAndType 18 19), (0, u "ends"), (0, u "[I"), (0, .fieldref 9 21), (0, .nameAndType 22 23), (0, u "size"), (0, u "I"), (0, .methodref 9 25), (0, .nameAndType 26 27), (0, u "start"), (0, u "(I)I"), (13, .methodref 42 43), (0, .class_ 44), (0, .nameAndType 45 46), (0, u "java/lang/System"), (0, u "arraycopy"), (0, u "(Ljava/lang/Object;ILjava/lang/Object;II)V"), (22, .class_ 71), (1, u "com/example/bloom2d/bloom2d/held/ElementList$Predicate"), (3, .class_ 77), (1, u "com/example/bloom2d/bloom2d/held/ElementList$Sink"), (1, u "([BII)V"), (20, u "FIRST_BYTES"), (1, u "FIRST_ELEMENTS"), (1, u "MAX_ARRAY"), (3, u "add")] 13

def k2c0 : Code := { maxStack := 2, maxLocals := 1, code := prog_51_method_1_code, exceptionTable := #[], attributes := #[] }
def k2m0 : Method := { name := "<init>", desc := "()V", sig := { parameters := [], returnType := none }, accessFlags := 1, code := some k2c0 }
def k2c1 : Code := { maxStack := 7, maxLocals := 7, code := prog_51_method_2_code, exceptionTable := #[], attributes := #[] }
def k2m1 : Method := { name := "add", desc := "([BII)V", sig := { parameters := [(.array .byte), .int, .int], returnType := none }, accessFlags := 1, code := some k2c1 }
def k2c2 : Code := { maxStack := 3, maxLocals := 2, code := prog_51_method_8_code, exceptionTable := #[], attributes := #[] }
def k2m2 : Method := { name := "start", desc := "(I)I", sig := { parameters := [.int], returnType := some .int }, accessFlags := 0, code := some k2c2 }
/-- com/example/bloom2d/bloom2d/held/ElementList -/
def k2 : Class := { plain "com/example/bloom2d/bloom2d/held/ElementList" (some 0) with
  accessFlags := 49
  interfaces := #[]
  cf := some (fileOf pool2 9 #[.nestMembers #[69, 75]] #[{ accessFlags := 1, nameIndex := 7, descriptorIndex := 8, attributes := #[] }, { accessFlags := 1, nameIndex := 108, descriptorIndex := 79, attributes := #[] }, { accessFlags := 0, nameIndex := 26, descriptorIndex := 27, attributes := #[] }] 49 4 #[] #[{ accessFlags := 26, nameIndex := 100, descriptorIndex := 23, attributes := #[] }, { accessFlags := 26, nameIndex := 102, descriptorIndex := 23, attributes := #[] }, { accessFlags := 26, nameIndex := 104, descriptorIndex := 23, attributes := #[] }, { accessFlags := 2, nameIndex := 14, descriptorIndex := 15, attributes := #[] }, { accessFlags := 2, nameIndex := 18, descriptorIndex := 19, attributes := #[] }, { accessFlags := 2, nameIndex := 22, descriptorIndex := 23, attributes := #[] }])
  fields := #[{ name := "FIRST_BYTES", type := .int, accessFlags := 26, slot := 0, constantValue := 0 }, { name := "FIRST_ELEMENTS", type := .int, accessFlags := 26, slot := 1, constantValue := 0 }, { name := "MAX_ARRAY", type := .int, accessFlags := 26, slot := 2, constantValue := 0 }, { name := "bytes", type := (.array .byte), accessFlags := 2, slot := 0, constantValue := 0 }, { name := "ends", type := (.array .int), accessFlags := 2, slot := 1, constantValue := 0 }, { name := "size", type := .int, accessFlags := 2, slot := 2, constantValue := 0 }]
  methods := #[k2m0, k2m1, k2m2]
  instanceTypes := #[(.array .byte), (.array .int), .int]
  staticTypes := #[.int, .int, .int]
  resolved := Array.replicate 122 none
  statics := none }

def pool3 : Array CpInfo := pool [(2, .class_ 4), (1, u "java/lang/Object"), (0, u "<init>"), (0, u "()V"), (1, .class_ 10), (1, u "java/lang/System"), (0, u "allowSecurityManager"), (0, u "I"), (16, u "cons"), (0, u "Ljava/io/Console;"), (77, .class_ 110), (1, u "java/lang/System$CallersHolder"), (43, u "initialErrStream"), (0, u "Ljava/io/PrintStream;"), (19, u "security"), (0, u "Ljava/lang/SecurityManager;"), (31, .class_ 209), (0, u "java/lang/System$1"), (7, u "props"), (0, u "Ljava/util/Properties;"), (2, u "lineSeparator"), (0, u "Ljava/lang/String;"), (96, .class_ 321), (1, u "java/lang/System$LoggerFinder"), (5, .class_ 328), (0, u "java/lang/System$Logger"), (67, u "err"), (2, u "out"), (91, u "notSupportedJnuEncoding"), (15, u "in"), (17, u "initialIn"), (0, u "Ljava/io/InputStream;"), (35, u "bootLayer"), (0, u "Ljava/lang/ModuleLayer;"), (99, .class_ 664), (0, u "java/lang/System$2"), (9, u "NEVER"), (2, u "MAYBE"), (49, u "arraycopy"), (0, u "(Ljava/lang/Object;ILjava/lang/Object;II)V"), (72, .class_ 802), (0, u "java/lang/System$Logger$Level")] 31

def k3m0 : Method := { name := "<init>", desc := "()V", sig := { parameters := [], returnType := none }, accessFlags := 2, code := none }
def k3m1 : Method := { name := "arraycopy", desc := "(Ljava/lang/Object;ILjava/lang/Object;II)V", sig := { parameters := [(.object "java/lang/Object"), .int, (.object "java/lang/Object"), .int, .int], returnType := none }, accessFlags := 265, code := none }
/-- java/lang/System -/
def k3 : Class := { plain "java/lang/System" (some 0) with
  accessFlags := 49
  interfaces := #[]
  cf := some (fileOf pool3 8 #[.nestMembers #[319, 327, 801, 108, 663, 208]] #[{ accessFlags := 2, nameIndex := 5, descriptorIndex := 6, attributes := #[] }, { accessFlags := 265, nameIndex := 727, descriptorIndex := 728, attributes := #[] }] 49 2 #[] #[{ accessFlags := 25, nameIndex := 507, descriptorIndex := 526, attributes := #[] }, { accessFlags := 25, nameIndex := 399, descriptorIndex := 155, attributes := #[] }, { accessFlags := 25, nameIndex := 396, descriptorIndex := 155, attributes := #[] }, { accessFlags := 10, nameIndex := 525, descriptorIndex := 526, attributes := #[] }, { accessFlags := 26, nameIndex := 674, descriptorIndex := 12, attributes := #[] }, { accessFlags := 26, nameIndex := 677, descriptorIndex := 12, attributes := #[] }, { accessFlags := 10, nameIndex := 11, descriptorIndex := 12, attributes := #[] }, { accessFlags := 74, nameIndex := 175, descriptorIndex := 176, attributes := #[] }, { accessFlags := 10, nameIndex := 491, descriptorIndex := 222, attributes := #[] }, { accessFlags := 74, nameIndex := 29, descriptorIndex := 30, attributes := #[] }, { accessFlags := 74, nameIndex := 154, descriptorIndex := 155, attributes := #[] }, { accessFlags := 10, nameIndex := 217, descriptorIndex := 218, attributes := #[] }, { accessFlags := 10, nameIndex := 221, descriptorIndex := 222, attributes := #[] }, { accessFlags := 8, nameIndex := 562, descriptorIndex := 563, attributes := #[] }])
  fields := #[{ name := "in", type := (.object "java/io/InputStream"), accessFlags := 25, slot := 0, constantValue := 0 }, { name := "out", type := (.object "java/io/PrintStream"), accessFlags := 25, slot := 1, constantValue := 0 }, { name := "err", type := (.object "java/io/PrintStream"), accessFlags := 25, slot := 2, constantValue := 0 }, { name := "initialIn", type := (.object "java/io/InputStream"), accessFlags := 10, slot := 3, constantValue := 0 }, { name := "NEVER", type := .int, accessFlags := 26, slot := 4, constantValue := 0 }, { name := "MAYBE", type := .int, accessFlags := 26, slot := 5, constantValue := 0 }, { name := "allowSecurityManager", type := .int, accessFlags := 10, slot := 6, constantValue := 0 }, { name := "security", type := (.object "java/lang/SecurityManager"), accessFlags := 74, slot := 7, constantValue := 0 }, { name := "notSupportedJnuEncoding", type := (.object "java/lang/String"), accessFlags := 10, slot := 8, constantValue := 0 }, { name := "cons", type := (.object "java/io/Console"), accessFlags := 74, slot := 9, constantValue := 0 }, { name := "initialErrStream", type := (.object "java/io/PrintStream"), accessFlags := 74, slot := 10, constantValue := 0 }, { name := "props", type := (.object "java/util/Properties"), accessFlags := 10, slot := 11, constantValue := 0 }, { name := "lineSeparator", type := (.object "java/lang/String"), accessFlags := 10, slot := 12, constantValue := 0 }, { name := "bootLayer", type := (.object "java/lang/ModuleLayer"), accessFlags := 8, slot := 13, constantValue := 0 }]
  methods := #[k3m0, k3m1]
  instanceTypes := #[]
  staticTypes := #[(.object "java/io/InputStream"), (.object "java/io/PrintStream"), (.object "java/io/PrintStream"), (.object "java/io/InputStream"), .int, .int, .int, (.object "java/lang/SecurityManager"), (.object "java/lang/String"), (.object "java/io/Console"), (.object "java/io/PrintStream"), (.object "java/util/Properties"), (.object "java/lang/String"), (.object "java/lang/ModuleLayer")]
  resolved := Array.replicate 834 none
  statics := none }

def pool4 : Array CpInfo := pool [(1, u "java/lang/Cloneable"), (0, .class_ 1), (0, u "java/lang/Object"), (0, .class_ 3)] 3

/-- java/lang/Cloneable -/
def k4 : Class := { plain "java/lang/Cloneable" (some 0) with
  accessFlags := 1537
  interfaces := #[]
  cf := some (fileOf pool4 2 #[] #[] 1537 4 #[] #[])
  fields := #[]
  methods := #[]
  instanceTypes := #[]
  staticTypes := #[]
  resolved := Array.replicate 8 none
  statics := none }

def pool5 : Array CpInfo := pool [(1, u "java/io/Serializable"), (0, .class_ 1), (0, u "java/lang/Object"), (0, .class_ 3)] 3

/-- java/io/Serializable -/
def k5 : Class := { plain "java/io/Serializable" (some 0) with
  accessFlags := 1537
  interfaces := #[]
  cf := some (fileOf pool5 2 #[] #[] 1537 4 #[] #[])
  fields := #[]
  methods := #[]
  instanceTypes := #[]
  staticTypes := #[]
  resolved := Array.replicate 8 none
  statics := none }

/-- the primitive byte -/
def k6 : Class := { plain "byte" none with kind := .primitive 'B', accessFlags := 0x411 }
/-- [B -/
def k7 : Class := { plain "[B" (some 0) with kind := .array 6 .byte, interfaces := #[4, 5], accessFlags := 1041 }

/-- the primitive int -/
def k8 : Class := { plain "int" none with kind := .primitive 'I', accessFlags := 0x411 }
/-- [I -/
def k9 : Class := { plain "[I" (some 0) with kind := .array 8 .int, interfaces := #[4, 5], accessFlags := 1041 }

def heap : Heap := #[]
def classes : Array Class := #[k0, k1, k2, k3, k4, k5, k6, k7, k8, k9]
def interned : List (Array UInt16 × Addr) := []
def slotsUsed : Nat := 0
def theMethod : MethodId := ⟨1, 1⟩
def args0 : Array Value := #[.int 5, .int 6, .int 7, .int 8]
def aboutOver (below : List Frame) : State where
  vm := { classes := classes, interned := interned.toArray }
  heap := heap
  slotsUsed := slotsUsed
  threads := #[{ frames := .invoking theMethod args0 :: below }]
def below0 : List Frame := [.native { method := ⟨0, 0⟩, args := #[] }]
def about1 : State := aboutOver below0
def p0 : Program := .bare "" "" ""
def e0 : Env := launch0.env 0 0 0
theorem w_frames : about1.frames = Frame.invoking theMethod args0 :: below0 := rfl
set_option maxRecDepth 65536 in
theorem w_args : argsFit about1.vm theMethod args0 = true := by decide +kernel
set_option maxRecDepth 65536 in
theorem w_heap : heapFits about1 = true := by decide +kernel
set_option maxRecDepth 65536 in
theorem w_runnable : about1.curStatus? = some .runnable := by decide +kernel
set_option maxRecDepth 65536 in
theorem w_alone : about1.alone = true := by decide +kernel
set_option maxRecDepth 65536 in
theorem w_named : about1.methodNamed? x = some theMethod := by decide +kernel
set_option maxRecDepth 65536 in
theorem w_hears : about1.hears theMethod below0 = true := by decide +kernel
set_option maxRecDepth 65536 in
theorem w_ripe : about1.ripe theMethod args0 below0 = true := by decide +kernel
theorem w_running : about1.status = .running := rfl
set_option maxRecDepth 65536 in
theorem w_room : about1.hasRoom e0.platform room_1 = true :=
  launch0.hasRoom_least _ room_1 (by decide +kernel) (by decide +kernel) (by decide +kernel) (by decide +kernel) (by decide +kernel) (by decide +kernel)
theorem allAtoms_all (ts : List Jvm.Cond) (a : Array Jvm.Value) (st : Jvm.State) : (allAtoms ts).before a st = ts.all (fun c => c.before a st) := by
  induction ts with
  | nil => rfl
  | cons c t ih =>
    show (Jvm.Cond.and c (allAtoms t)).before a st = _
    rw [Jvm.Cond.before_and, ih, List.all_cons]
def words1 : List Jvm.Cond := Jvm.Cond.code x code maxLocals ret :: tables_1
/-- a 'code' word, met by the world's own term for the bytes: nothing is compared byte by byte -/
theorem code_word {y : MethodName} {bytes : ByteArray} {mx : Nat} {rt : Option FieldType} {a : Array Value} {s : State} {m : MethodId} {meth : Method} {c : Code} (h1 : s.methodNamed? y = some m) (h2 : s.vm.method? m = some meth) (h3 : meth.code = some c) (h4 : c.code = bytes)
    (h5 : (c.maxLocals == mx && c.exceptionTable.isEmpty && decide (c.maxStack ≤ mostOperands) && decide (meth.sig.returnType = rt) && !meth.locks && decide (parseMethodDescriptor y.desc = some meth.sig)) = true) : (Jvm.Cond.code y bytes mx rt).before a s = true := by
  simp only [Bool.and_eq_true, beq_iff_eq, Bool.not_eq_true', decide_eq_true_eq] at h5
  obtain ⟨⟨⟨⟨⟨g1, g2⟩, g3⟩, g4⟩, g5⟩, g6⟩ := h5
  simp [Cond.before, Cond.holds, Cond.value, h1, h2, h3, h4, g1, g2, g3, g4, g5, g6]
def isCode : Jvm.Cond → Bool
  | .code _ _ _ _ => true
  | _ => false
theorem all_split {L : List Jvm.Cond} {P : Jvm.Cond → Bool} (h1 : L.all (fun c => isCode c || P c) = true) (h2 : ∀ c ∈ L.filter isCode, P c = true) : L.all P = true := by
  refine List.all_eq_true.mpr fun c hc => ?_
  have h := List.all_eq_true.mp h1 c hc
  rcases Bool.eq_false_or_eq_true (isCode c) with hi | hi
  · exact h2 c (List.mem_filter.mpr ⟨hc, hi⟩)
  · simpa [hi] using h
set_option maxRecDepth 65536 in
theorem w_c0 : (Jvm.Cond.code x code maxLocals ret).before args0 about1 = true := code_word (m := ⟨1, 1⟩) (meth := k1m1) (c := k1c1) (by decide +kernel) rfl rfl rfl (by decide +kernel)
set_option maxRecDepth 65536 in
theorem w_c1 : (Jvm.Cond.code ({ cls := "com/example/bloom2d/bloom2d/held/ElementList", name := "<init>", desc := "()V" } : Jvm.MethodName) prog_51_method_1_code (1 : Nat) (Option.none : Option Jvm.ClassFile.FieldType)).before args0 about1 = true := code_word (m := ⟨2, 0⟩) (meth := k2m0) (c := k2c0) (by decide +kernel) rfl rfl rfl (by decide +kernel)
set_option maxRecDepth 65536 in
theorem w_c2 : (Jvm.Cond.code ({ cls := "java/lang/Object", name := "<init>", desc := "()V" } : Jvm.MethodName) object_method_1_code (1 : Nat) (Option.none : Option Jvm.ClassFile.FieldType)).before args0 about1 = true := code_word (m := ⟨0, 0⟩) (meth := k0m0) (c := k0c0) (by decide +kernel) rfl rfl rfl (by decide +kernel)
set_option maxRecDepth 65536 in
theorem w_c3 : (Jvm.Cond.code ({ cls := "com/example/bloom2d/bloom2d/held/ElementList", name := "add", desc := "([BII)V" } : Jvm.MethodName) prog_51_method_2_code (7 : Nat) (Option.none : Option Jvm.ClassFile.FieldType)).before args0 about1 = true := code_word (m := ⟨2, 1⟩) (meth := k2m1) (c := k2c1) (by decide +kernel) rfl rfl rfl (by decide +kernel)
set_option maxRecDepth 65536 in
theorem w_c4 : (Jvm.Cond.code ({ cls := "com/example/bloom2d/bloom2d/held/ElementList", name := "start", desc := "(I)I" } : Jvm.MethodName) prog_51_method_8_code (2 : Nat) (Option.some Jvm.ClassFile.FieldType.int)).before args0 about1 = true := code_word (m := ⟨2, 2⟩) (meth := k2m2) (c := k2c2) (by decide +kernel) rfl rfl rfl (by decide +kernel)
def codes1 : List Jvm.Cond := [Jvm.Cond.code x code maxLocals ret, Jvm.Cond.code ({ cls := "com/example/bloom2d/bloom2d/held/ElementList", name := "<init>", desc := "()V" } : Jvm.MethodName) prog_51_method_1_code (1 : Nat) (Option.none : Option Jvm.ClassFile.FieldType), Jvm.Cond.code ({ cls := "java/lang/Object", name := "<init>", desc := "()V" } : Jvm.MethodName) object_method_1_code (1 : Nat) (Option.none : Option Jvm.ClassFile.FieldType), Jvm.Cond.code ({ cls := "com/example/bloom2d/bloom2d/held/ElementList", name := "add", desc := "([BII)V" } : Jvm.MethodName) prog_51_method_2_code (7 : Nat) (Option.none : Option Jvm.ClassFile.FieldType), Jvm.Cond.code ({ cls := "com/example/bloom2d/bloom2d/held/ElementList", name := "start", desc := "(I)I" } : Jvm.MethodName) prog_51_method_8_code (2 : Nat) (Option.some Jvm.ClassFile.FieldType.int)]
set_option maxRecDepth 65536 in
theorem codes_eq : words1.filter isCode = codes1 := rfl
theorem w_codes : ∀ c ∈ words1.filter isCode, c.before args0 about1 = true := by
  rw [codes_eq]
  intro c hc
  simp only [codes1, List.mem_cons, List.not_mem_nil, or_false] at hc
  rcases hc with rfl | rfl | rfl | rfl | rfl
  · exact w_c0
  · exact w_c1
  · exact w_c2
  · exact w_c3
  · exact w_c4
set_option maxRecDepth 65536 in
theorem w_t1 : (words1.take 24).all (fun c => isCode c || c.before args0 about1) = true := by decide +kernel
set_option maxRecDepth 65536 in
theorem w_t2 : (words1.drop 24).all (fun c => isCode c || c.before args0 about1) = true := by decide +kernel
theorem w_tables : (allAtoms (Jvm.Cond.code x code maxLocals ret :: tables_1)).before args0 about1 = true := by
  rw [allAtoms_all]
  show words1.all (fun c => c.before args0 about1) = true
  refine all_split ?_ w_codes
  rw [← List.take_append_drop 24 words1, List.all_append, w_t1, w_t2]
  rfl
set_option maxRecDepth 65536 in
theorem w_case : (Jvm.Cond.and given_1 narrow_1).before args0 about1 = true := by decide +kernel
theorem w_applies : (headSpec (Jvm.Cond.code x code maxLocals ret :: tables_1) room_1).applies x e0.platform about1 = true :=
  (Spec.applies_iff w_frames).mpr ⟨w_running, w_runnable, w_alone, w_named, w_hears, w_ripe, w_room, w_tables⟩
theorem atStart : AtStart classFile x code maxLocals ret World_1 tables_1 room_1 Calls_1 rest_1 Pre_1 launch0 p0 e0 about1 theMethod args0 below0 :=
  ⟨lists_1, trivial, launch0.admits_env _ _ _, launch0.least_env, fairChoices_fair.cas, fairChoices_fair.clock, w_frames, w_args, w_heap, w_applies, trivial, trivial, w_case⟩
end start1
theorem witness_1 : WitnessClaimed_1 := ⟨start1.p0, start1.e0, start1.about1, start1.theMethod, start1.args0, start1.below0, start1.atStart⟩
end Jvm.Pilot.@@N@@
