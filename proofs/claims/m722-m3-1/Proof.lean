import JvmDerived
import JvmDerived.Pilot.@@N@@Statement
import JvmDerived.Pilot.@@N@@Code
set_option linter.unusedVariables false
set_option linter.unusedSimpArgs false
namespace Jvm.Pilot.@@N@@
open Jvm Jvm.ClassFile Sem Op Lib Jvm.Free Jvm.Stand Jvm.LawKit Jvm.RoadKit Bundle Jvm.Pilot.@@N@@.Jvm.D
section OwnKit
variable {p : Program} {l : Launch} {e : Env} {R : Room} {s : State} {m : MethodId} {args : Array Value} {below : List Frame} {meth : Method} {c : Code} {T : State} {locs : List Loc} {cells slots : Nat} {P : State → Outcome → Prop} {Z : State} {a0 : Array Value} {h : Heap} {pc : Nat} {Ls : Array Slot} {st : List Value}
def Goes (p : Program) (e : Env) (below : List Frame) (S : State) (P : State → Outcome → Prop) : Prop := ∃ (U : State) (o : Outcome), Steps p.tables e below S U ∧ U.status = .running ∧ Ended U below o ∧ P U o
def Endz (s : State) (kc ks : Nat) (Q : Option Value → Heap → List Loc → Prop) (U : State) (o : Outcome) : Prop := ∃ v L, o = .returned v ∧ Q v U.heap L ∧ FrameEnd s o U L kc ks
theorem go {S S' : State} (hs : ∀ t, Steps p.tables e below S' t → Steps p.tables e below S t) (k : Goes p e below S' P) : Goes p e below S P := by
  obtain ⟨U, o, k1, k2⟩ := k
  exact ⟨U, o, hs U k1, k2⟩
theorem goT {S S' : State} (hs : Steps p.tables e below S S') (k : Goes p e below S' P) : Goes p e below S P := by
  obtain ⟨U, o, k1, k2⟩ := k
  exact ⟨U, o, hs.trans k1, k2⟩
theorem own_cast {g g' : JFrame} (q : g = g') (k : Goes p e below (T.setTop g') P) : Goes p e below (T.setTop g) P := q ▸ k
abbrev OwnMet (l : Launch) (Z : State) (y : MethodName) (bytes : ByteArray) (maxL : Nat) (ret : Option FieldType) (ws : List Jvm.Cond) (rm : Room) (as' : Array Value) (h : Heap) (Q : Option Value → Heap → List Loc → Prop) : Prop := MetFree l y (head1 (Jvm.Cond.code y bytes maxL ret :: ws) rm) (fun a U => a = as' ∧ Z.Warmed39 U.vm ∧ U.heap = h) (fun _ _ _ _ _ => True) (fun _ U o U' => ∃ v L, o = .returned v ∧ Q v U'.heap L ∧ FrameEnd U o U' L rm.cells rm.slots)
theorem own_body {y : MethodName} {bytes : ByteArray} {maxL : Nat} {ret : Option FieldType} {ws : List Jvm.Cond} {rm : Room} {as' : Array Value} {Q : Option Value → Heap → List Loc → Prop} (hpn : plainFor y = true)
    (B : ∀ (p : Program) (e : Env) (s : State) (m : MethodId) (below : List Frame) (meth : Method) (c : Code) (s₁ : State), p.tables.exec = Jvm.exec → c.code = bytes → c.maxLocals = maxL → s.vm.findClass y.cls = some m.cls → meth.name = y.name → meth.sig.returnType = ret → meth.locks = false → Z.Warmed39 s.vm → Stand p l e rm s m as' below meth c s₁ [] 0 0 → s₁.heap = h → Goes p e below (s₁.setTop (entryFrame m as' maxL)) (Endz s rm.cells rm.slots Q)) : OwnMet l Z y bytes maxL ret ws rm as' h Q := by
  refine MetFree.of_bodySF hpn hisR ?_
  intro p e s m args below meth c s₁ Bd hml0 hP hK
  obtain ⟨rfl, hZ, hh⟩ := hP
  exact B p e s m below meth c s₁ Bd.exec Bd.bytes hml0 (findClass_of_methodNamed Bd.named) (name_of_methodNamed Bd.named Bd.method).1 Bd.returns (BodyLoose.notSynchronized Bd) hZ (Stand.of_body Bd) (by rw [← hh, Bd.state]; rfl)
theorem g_ret {w : Value} {t : FieldType} {i : Instr} {kc ks : Nat} {Q : Option Value → Heap → List Loc → Prop} (X : Stand p l e R s m args below meth c T locs cells slots) (hx : p.tables.exec = Jvm.exec) (hret : meth.sig.returnType = some t) (hlk : meth.locks = false) (hn : narrow t w = w)
    (hi : (i = .ireturn ∧ (t = .int ∨ t = .boolean ∨ t = .byte ∨ t = .char ∨ t = .short) ∧ ∃ z, w = .int z) ∨ (i = .lreturn ∧ t = .long ∧ ∃ z, w = .long z) ∨ (i = .dreturn ∧ t = .double ∧ ∃ z, w = .double z) ∨ (i = .freturn ∧ t = .float ∧ ∃ z, w = .float z) ∨ (i = .areturn ∧ t.isReference = true ∧ w.isRef = true))
    (hd : decode c.code pc = .ok (i, 1)) (hQ : Q (some w) T.heap locs) (hc : cells ≤ kc) (hs : slots ≤ ks) : Goes p e below (T.setTop (mkF m pc Ls (w :: st))) (Endz s kc ks Q) := by
  obtain ⟨fs, hr, hrun, hended, hW, hsame⟩ := X.leave (v := some w) (fun h => by rw [hret] at h; cases h) hlk
  exact ⟨_, _, retOut X hx hret hn hi hd hr, hrun, hended, _, _, rfl, hQ, ⟨_, rfl⟩, hW, hsame.mono hc hs⟩
theorem g_retI {z : Int32} {kc ks : Nat} {Q : Option Value → Heap → List Loc → Prop} (X : Stand p l e R s m args below meth c T locs cells slots) (hx : p.tables.exec = Jvm.exec) (hret : meth.sig.returnType = some .int) (hlk : meth.locks = false) (hd : decode c.code pc = .ok (.ireturn, 1)) (hQ : Q (some (.int z)) T.heap locs) (hc : cells ≤ kc) (hs : slots ≤ ks) : Goes p e below (T.setTop (mkF m pc Ls (.int z :: st))) (Endz s kc ks Q) :=
  g_ret X hx hret hlk rfl (Or.inl ⟨rfl, Or.inl rfl, z, rfl⟩) hd hQ hc hs
theorem g_retZ {z : Int32} {kc ks : Nat} {Q : Option Value → Heap → List Loc → Prop} (X : Stand p l e R s m args below meth c T locs cells slots) (hx : p.tables.exec = Jvm.exec) (hret : meth.sig.returnType = some .boolean) (hlk : meth.locks = false) (hn : narrow .boolean (.int z) = .int z) (hd : decode c.code pc = .ok (.ireturn, 1)) (hQ : Q (some (.int z)) T.heap locs) (hc : cells ≤ kc) (hs : slots ≤ ks) : Goes p e below (T.setTop (mkF m pc Ls (.int z :: st))) (Endz s kc ks Q) :=
  g_ret X hx hret hlk hn (Or.inl ⟨rfl, Or.inr (Or.inl rfl), z, rfl⟩) hd hQ hc hs
theorem g_retJ {z : Int64} {kc ks : Nat} {Q : Option Value → Heap → List Loc → Prop} (X : Stand p l e R s m args below meth c T locs cells slots) (hx : p.tables.exec = Jvm.exec) (hret : meth.sig.returnType = some .long) (hlk : meth.locks = false) (hd : decode c.code pc = .ok (.lreturn, 1)) (hQ : Q (some (.long z)) T.heap locs) (hc : cells ≤ kc) (hs : slots ≤ ks) : Goes p e below (T.setTop (mkF m pc Ls (.long z :: st))) (Endz s kc ks Q) :=
  g_ret X hx hret hlk rfl (Or.inr (Or.inl ⟨rfl, rfl, z, rfl⟩)) hd hQ hc hs
theorem g_retA {w : Value} {t : FieldType} {kc ks : Nat} {Q : Option Value → Heap → List Loc → Prop} (X : Stand p l e R s m args below meth c T locs cells slots) (hx : p.tables.exec = Jvm.exec) (hret : meth.sig.returnType = some t) (hlk : meth.locks = false) (hn : narrow t w = w) (ht : t.isReference = true) (hw : w.isRef = true) (hd : decode c.code pc = .ok (.areturn, 1)) (hQ : Q (some w) T.heap locs) (hc : cells ≤ kc) (hs : slots ≤ ks) : Goes p e below (T.setTop (mkF m pc Ls (w :: st))) (Endz s kc ks Q) :=
  g_ret X hx hret hlk hn (Or.inr (Or.inr (Or.inr (Or.inr ⟨rfl, ht, hw⟩)))) hd hQ hc hs
theorem g_ret0 {kc ks : Nat} {Q : Option Value → Heap → List Loc → Prop} (X : Stand p l e R s m args below meth c T locs cells slots) (hx : p.tables.exec = Jvm.exec) (hret : meth.sig.returnType = none) (hlk : meth.locks = false) (hd : decode c.code pc = .ok (.return_, 1)) (hQ : Q none T.heap locs) (hc : cells ≤ kc) (hs : slots ≤ ks) : Goes p e below (T.setTop (mkF m pc Ls [])) (Endz s kc ks Q) := by
  obtain ⟨fs, hr, hrun, hended, hW, hsame⟩ := X.leave (v := none) (fun _ => rfl) hlk
  exact ⟨_, _, X.returnOut hx hret hd hr, hrun, hended, _, _, rfl, hQ, ⟨_, rfl⟩, hW, hsame.mono hc hs⟩
theorem g_iadd (X : Stand p l e R s m args below meth c T locs cells slots) (hx : p.tables.exec = Jvm.exec) (pc' : Nat) (hpc : pc + 1 = pc') {x y : Int32} (hd : decode c.code pc = .ok (.iadd, 1))  (K : Goes p e below (T.setTop (mkF m pc' Ls (.int (x + y) :: st))) P) : Goes p e below (T.setTop (mkF m pc Ls (.int y :: .int x :: st))) P := by
  subst hpc; exact go (fun _ q => XS.iadd X.here hx rfl hd rfl q) K
theorem g_isub (X : Stand p l e R s m args below meth c T locs cells slots) (hx : p.tables.exec = Jvm.exec) (pc' : Nat) (hpc : pc + 1 = pc') {x y : Int32} (hd : decode c.code pc = .ok (.isub, 1))  (K : Goes p e below (T.setTop (mkF m pc' Ls (.int (x - y) :: st))) P) : Goes p e below (T.setTop (mkF m pc Ls (.int y :: .int x :: st))) P := by
  subst hpc; exact go (fun _ q => XS.isub X.here hx rfl hd rfl q) K
theorem g_imul (X : Stand p l e R s m args below meth c T locs cells slots) (hx : p.tables.exec = Jvm.exec) (pc' : Nat) (hpc : pc + 1 = pc') {x y : Int32} (hd : decode c.code pc = .ok (.imul, 1))  (K : Goes p e below (T.setTop (mkF m pc' Ls (.int (x * y) :: st))) P) : Goes p e below (T.setTop (mkF m pc Ls (.int y :: .int x :: st))) P := by
  subst hpc; exact go (fun _ q => XS.imul X.here hx rfl hd rfl q) K
theorem g_iand (X : Stand p l e R s m args below meth c T locs cells slots) (hx : p.tables.exec = Jvm.exec) (pc' : Nat) (hpc : pc + 1 = pc') {x y : Int32} (hd : decode c.code pc = .ok (.iand, 1))  (K : Goes p e below (T.setTop (mkF m pc' Ls (.int (x &&& y) :: st))) P) : Goes p e below (T.setTop (mkF m pc Ls (.int y :: .int x :: st))) P := by
  subst hpc; exact go (fun _ q => XS.iand X.here hx rfl hd rfl q) K
theorem g_ior (X : Stand p l e R s m args below meth c T locs cells slots) (hx : p.tables.exec = Jvm.exec) (pc' : Nat) (hpc : pc + 1 = pc') {x y : Int32} (hd : decode c.code pc = .ok (.ior, 1))  (K : Goes p e below (T.setTop (mkF m pc' Ls (.int (x ||| y) :: st))) P) : Goes p e below (T.setTop (mkF m pc Ls (.int y :: .int x :: st))) P := by
  subst hpc; exact go (fun _ q => XT.ior X.here hx rfl hd rfl q) K
theorem g_ixor (X : Stand p l e R s m args below meth c T locs cells slots) (hx : p.tables.exec = Jvm.exec) (pc' : Nat) (hpc : pc + 1 = pc') {x y : Int32} (hd : decode c.code pc = .ok (.ixor, 1))  (K : Goes p e below (T.setTop (mkF m pc' Ls (.int (x ^^^ y) :: st))) P) : Goes p e below (T.setTop (mkF m pc Ls (.int y :: .int x :: st))) P := by
  subst hpc; exact go (fun _ q => XT.ixor X.here hx rfl hd rfl q) K
theorem g_ishl (X : Stand p l e R s m args below meth c T locs cells slots) (hx : p.tables.exec = Jvm.exec) (pc' : Nat) (hpc : pc + 1 = pc') {x y : Int32} (hd : decode c.code pc = .ok (.ishl, 1))  (K : Goes p e below (T.setTop (mkF m pc' Ls (.int (x <<< (y &&& 31)) :: st))) P) : Goes p e below (T.setTop (mkF m pc Ls (.int y :: .int x :: st))) P := by
  subst hpc; exact go (fun _ q => XT.ishl X.here hx rfl hd rfl q) K
theorem g_ishr (X : Stand p l e R s m args below meth c T locs cells slots) (hx : p.tables.exec = Jvm.exec) (pc' : Nat) (hpc : pc + 1 = pc') {x y : Int32} (hd : decode c.code pc = .ok (.ishr, 1))  (K : Goes p e below (T.setTop (mkF m pc' Ls (.int (x >>> (y &&& 31)) :: st))) P) : Goes p e below (T.setTop (mkF m pc Ls (.int y :: .int x :: st))) P := by
  subst hpc; exact go (fun _ q => XT.ishr X.here hx rfl hd rfl q) K
theorem g_iushr (X : Stand p l e R s m args below meth c T locs cells slots) (hx : p.tables.exec = Jvm.exec) (pc' : Nat) (hpc : pc + 1 = pc') {x y : Int32} (hd : decode c.code pc = .ok (.iushr, 1))  (K : Goes p e below (T.setTop (mkF m pc' Ls (.int (XT.ushr x y) :: st))) P) : Goes p e below (T.setTop (mkF m pc Ls (.int y :: .int x :: st))) P := by
  subst hpc; exact go (fun _ q => XT.iushr X.here hx rfl hd rfl q) K
theorem g_idiv (X : Stand p l e R s m args below meth c T locs cells slots) (hx : p.tables.exec = Jvm.exec) (pc' : Nat) (hpc : pc + 1 = pc') {x y : Int32} (hd : decode c.code pc = .ok (.idiv, 1)) (hy : y ≠ 0) (K : Goes p e below (T.setTop (mkF m pc' Ls (.int (x / y) :: st))) P) : Goes p e below (T.setTop (mkF m pc Ls (.int y :: .int x :: st))) P := by
  subst hpc; exact go (fun _ q => XS.idiv X.here hx rfl hd rfl hy q) K
theorem g_irem (X : Stand p l e R s m args below meth c T locs cells slots) (hx : p.tables.exec = Jvm.exec) (pc' : Nat) (hpc : pc + 1 = pc') {x y : Int32} (hd : decode c.code pc = .ok (.irem, 1)) (hy : y ≠ 0) (K : Goes p e below (T.setTop (mkF m pc' Ls (.int (x % y) :: st))) P) : Goes p e below (T.setTop (mkF m pc Ls (.int y :: .int x :: st))) P := by
  subst hpc; exact go (fun _ q => iremM X hx rfl hd rfl hy q) K
theorem g_ineg (X : Stand p l e R s m args below meth c T locs cells slots) (hx : p.tables.exec = Jvm.exec) (pc' : Nat) (hpc : pc + 1 = pc') {x : Int32} (hd : decode c.code pc = .ok (.ineg, 1))  (K : Goes p e below (T.setTop (mkF m pc' Ls (.int (-x) :: st))) P) : Goes p e below (T.setTop (mkF m pc Ls (.int x :: st))) P := by
  subst hpc; exact go (fun _ q => XS.ineg X.here hx rfl hd rfl q) K
theorem g_ladd (X : Stand p l e R s m args below meth c T locs cells slots) (hx : p.tables.exec = Jvm.exec) (pc' : Nat) (hpc : pc + 1 = pc') {x y : Int64} (hd : decode c.code pc = .ok (.ladd, 1))  (K : Goes p e below (T.setTop (mkF m pc' Ls (.long (x + y) :: st))) P) : Goes p e below (T.setTop (mkF m pc Ls (.long y :: .long x :: st))) P := by
  subst hpc; exact go (fun _ q => XT.ladd X.here hx rfl hd rfl q) K
theorem g_lsub (X : Stand p l e R s m args below meth c T locs cells slots) (hx : p.tables.exec = Jvm.exec) (pc' : Nat) (hpc : pc + 1 = pc') {x y : Int64} (hd : decode c.code pc = .ok (.lsub, 1))  (K : Goes p e below (T.setTop (mkF m pc' Ls (.long (x - y) :: st))) P) : Goes p e below (T.setTop (mkF m pc Ls (.long y :: .long x :: st))) P := by
  subst hpc; exact go (fun _ q => XT.lsub X.here hx rfl hd rfl q) K
theorem g_lmul (X : Stand p l e R s m args below meth c T locs cells slots) (hx : p.tables.exec = Jvm.exec) (pc' : Nat) (hpc : pc + 1 = pc') {x y : Int64} (hd : decode c.code pc = .ok (.lmul, 1))  (K : Goes p e below (T.setTop (mkF m pc' Ls (.long (x * y) :: st))) P) : Goes p e below (T.setTop (mkF m pc Ls (.long y :: .long x :: st))) P := by
  subst hpc; exact go (fun _ q => XT.lmul X.here hx rfl hd rfl q) K
theorem g_land (X : Stand p l e R s m args below meth c T locs cells slots) (hx : p.tables.exec = Jvm.exec) (pc' : Nat) (hpc : pc + 1 = pc') {x y : Int64} (hd : decode c.code pc = .ok (.land, 1))  (K : Goes p e below (T.setTop (mkF m pc' Ls (.long (x &&& y) :: st))) P) : Goes p e below (T.setTop (mkF m pc Ls (.long y :: .long x :: st))) P := by
  subst hpc; exact go (fun _ q => XT.land X.here hx rfl hd rfl q) K
theorem g_lor (X : Stand p l e R s m args below meth c T locs cells slots) (hx : p.tables.exec = Jvm.exec) (pc' : Nat) (hpc : pc + 1 = pc') {x y : Int64} (hd : decode c.code pc = .ok (.lor, 1))  (K : Goes p e below (T.setTop (mkF m pc' Ls (.long (x ||| y) :: st))) P) : Goes p e below (T.setTop (mkF m pc Ls (.long y :: .long x :: st))) P := by
  subst hpc; exact go (fun _ q => XT.lor X.here hx rfl hd rfl q) K
theorem g_lxor (X : Stand p l e R s m args below meth c T locs cells slots) (hx : p.tables.exec = Jvm.exec) (pc' : Nat) (hpc : pc + 1 = pc') {x y : Int64} (hd : decode c.code pc = .ok (.lxor, 1))  (K : Goes p e below (T.setTop (mkF m pc' Ls (.long (x ^^^ y) :: st))) P) : Goes p e below (T.setTop (mkF m pc Ls (.long y :: .long x :: st))) P := by
  subst hpc; exact go (fun _ q => XT.lxor X.here hx rfl hd rfl q) K
theorem g_lshl (X : Stand p l e R s m args below meth c T locs cells slots) (hx : p.tables.exec = Jvm.exec) (pc' : Nat) (hpc : pc + 1 = pc') {x : Int64} {y : Int32} (hd : decode c.code pc = .ok (.lshl, 1))  (K : Goes p e below (T.setTop (mkF m pc' Ls (.long (x <<< (y.toInt64 &&& 63)) :: st))) P) : Goes p e below (T.setTop (mkF m pc Ls (.int y :: .long x :: st))) P := by
  subst hpc; exact go (fun _ q => XT.lshl X.here hx rfl hd rfl q) K
theorem g_lshr (X : Stand p l e R s m args below meth c T locs cells slots) (hx : p.tables.exec = Jvm.exec) (pc' : Nat) (hpc : pc + 1 = pc') {x : Int64} {y : Int32} (hd : decode c.code pc = .ok (.lshr, 1))  (K : Goes p e below (T.setTop (mkF m pc' Ls (.long (x >>> (y.toInt64 &&& 63)) :: st))) P) : Goes p e below (T.setTop (mkF m pc Ls (.int y :: .long x :: st))) P := by
  subst hpc; exact go (fun _ q => XT.lshr X.here hx rfl hd rfl q) K
theorem g_lushr (X : Stand p l e R s m args below meth c T locs cells slots) (hx : p.tables.exec = Jvm.exec) (pc' : Nat) (hpc : pc + 1 = pc') {x : Int64} {y : Int32} (hd : decode c.code pc = .ok (.lushr, 1))  (K : Goes p e below (T.setTop (mkF m pc' Ls (.long (XT.ushrL x y) :: st))) P) : Goes p e below (T.setTop (mkF m pc Ls (.int y :: .long x :: st))) P := by
  subst hpc; exact go (fun _ q => XT.lushr X.here hx rfl hd rfl q) K
theorem g_ldiv (X : Stand p l e R s m args below meth c T locs cells slots) (hx : p.tables.exec = Jvm.exec) (pc' : Nat) (hpc : pc + 1 = pc') {x y : Int64} (hd : decode c.code pc = .ok (.ldiv, 1)) (hy : y ≠ 0) (K : Goes p e below (T.setTop (mkF m pc' Ls (.long (x / y) :: st))) P) : Goes p e below (T.setTop (mkF m pc Ls (.long y :: .long x :: st))) P := by
  subst hpc; exact go (fun _ q => XT.ldiv X.here hx rfl hd rfl hy q) K
theorem g_lrem (X : Stand p l e R s m args below meth c T locs cells slots) (hx : p.tables.exec = Jvm.exec) (pc' : Nat) (hpc : pc + 1 = pc') {x y : Int64} (hd : decode c.code pc = .ok (.lrem, 1)) (hy : y ≠ 0) (K : Goes p e below (T.setTop (mkF m pc' Ls (.long (x % y) :: st))) P) : Goes p e below (T.setTop (mkF m pc Ls (.long y :: .long x :: st))) P := by
  subst hpc; exact go (fun _ q => XT.lrem X.here hx rfl hd rfl hy (by rw [lrem_mod]; exact q)) K
theorem g_lneg (X : Stand p l e R s m args below meth c T locs cells slots) (hx : p.tables.exec = Jvm.exec) (pc' : Nat) (hpc : pc + 1 = pc') {x : Int64} (hd : decode c.code pc = .ok (.lneg, 1))  (K : Goes p e below (T.setTop (mkF m pc' Ls (.long (-x) :: st))) P) : Goes p e below (T.setTop (mkF m pc Ls (.long x :: st))) P := by
  subst hpc; exact go (fun _ q => XT.lneg X.here hx rfl hd rfl q) K
theorem g_i2l (X : Stand p l e R s m args below meth c T locs cells slots) (hx : p.tables.exec = Jvm.exec) (pc' : Nat) (hpc : pc + 1 = pc') {x : Int32} (hd : decode c.code pc = .ok (.i2l, 1))  (K : Goes p e below (T.setTop (mkF m pc' Ls (.long x.toInt64 :: st))) P) : Goes p e below (T.setTop (mkF m pc Ls (.int x :: st))) P := by
  subst hpc; exact go (fun _ q => XT.i2l X.here hx rfl hd rfl q) K
theorem g_l2i (X : Stand p l e R s m args below meth c T locs cells slots) (hx : p.tables.exec = Jvm.exec) (pc' : Nat) (hpc : pc + 1 = pc') {x : Int64} (hd : decode c.code pc = .ok (.l2i, 1))  (K : Goes p e below (T.setTop (mkF m pc' Ls (.int x.toInt32 :: st))) P) : Goes p e below (T.setTop (mkF m pc Ls (.long x :: st))) P := by
  subst hpc; exact go (fun _ q => XT.l2i X.here hx rfl hd rfl q) K
theorem g_i2b (X : Stand p l e R s m args below meth c T locs cells slots) (hx : p.tables.exec = Jvm.exec) (pc' : Nat) (hpc : pc + 1 = pc') {x : Int32} (hd : decode c.code pc = .ok (.i2b, 1))  (K : Goes p e below (T.setTop (mkF m pc' Ls (.int x.toInt8.toInt32 :: st))) P) : Goes p e below (T.setTop (mkF m pc Ls (.int x :: st))) P := by
  subst hpc; exact go (fun _ q => XT.i2b X.here hx rfl hd rfl q) K
theorem g_i2c (X : Stand p l e R s m args below meth c T locs cells slots) (hx : p.tables.exec = Jvm.exec) (pc' : Nat) (hpc : pc + 1 = pc') {x : Int32} (hd : decode c.code pc = .ok (.i2c, 1))  (K : Goes p e below (T.setTop (mkF m pc' Ls (.int x.toUInt32.toUInt16.toUInt32.toInt32 :: st))) P) : Goes p e below (T.setTop (mkF m pc Ls (.int x :: st))) P := by
  subst hpc; exact go (fun _ q => XT.i2c X.here hx rfl hd rfl q) K
theorem g_i2s (X : Stand p l e R s m args below meth c T locs cells slots) (hx : p.tables.exec = Jvm.exec) (pc' : Nat) (hpc : pc + 1 = pc') {x : Int32} (hd : decode c.code pc = .ok (.i2s, 1))  (K : Goes p e below (T.setTop (mkF m pc' Ls (.int x.toInt16.toInt32 :: st))) P) : Goes p e below (T.setTop (mkF m pc Ls (.int x :: st))) P := by
  subst hpc; exact go (fun _ q => XT.i2s X.here hx rfl hd rfl q) K
theorem g_lcmp (X : Stand p l e R s m args below meth c T locs cells slots) (hx : p.tables.exec = Jvm.exec) (pc' : Nat) (hpc : pc + 1 = pc') {x y : Int64} (hd : decode c.code pc = .ok (.lcmp, 1))  (K : Goes p e below (T.setTop (mkF m pc' Ls (.int (XT.cmpL x y) :: st))) P) : Goes p e below (T.setTop (mkF m pc Ls (.long y :: .long x :: st))) P := by
  subst hpc; exact go (fun _ q => XT.lcmp X.here hx rfl hd rfl q) K
theorem g_dup (X : Stand p l e R s m args below meth c T locs cells slots) (hx : p.tables.exec = Jvm.exec) (pc' : Nat) (hpc : pc + 1 = pc') {x : Value} (hd : decode c.code pc = .ok (.dup, 1)) (hc : x.category = 1) (K : Goes p e below (T.setTop (mkF m pc' Ls (x :: x :: st))) P) : Goes p e below (T.setTop (mkF m pc Ls (x :: st))) P := by
  subst hpc; exact go (fun _ q => XS.dup X.here hx rfl hd rfl hc q) K
theorem g_pop (X : Stand p l e R s m args below meth c T locs cells slots) (hx : p.tables.exec = Jvm.exec) (pc' : Nat) (hpc : pc + 1 = pc') {x : Value} (hd : decode c.code pc = .ok (.pop, 1)) (hc : x.category = 1) (K : Goes p e below (T.setTop (mkF m pc' Ls (st))) P) : Goes p e below (T.setTop (mkF m pc Ls (x :: st))) P := by
  subst hpc; exact go (fun _ q => XT.pop X.here hx rfl hd rfl hc q) K
theorem g_dup_x1 (X : Stand p l e R s m args below meth c T locs cells slots) (hx : p.tables.exec = Jvm.exec) (pc' : Nat) (hpc : pc + 1 = pc') {x y : Value} (hd : decode c.code pc = .ok (.dup_x1, 1)) (hc : x.category = 1) (hc' : y.category = 1) (K : Goes p e below (T.setTop (mkF m pc' Ls (x :: y :: x :: st))) P) : Goes p e below (T.setTop (mkF m pc Ls (x :: y :: st))) P := by
  subst hpc; exact go (fun _ q => XT.dupX1 X.here hx rfl hd rfl hc hc' q) K
theorem g_dup2 (X : Stand p l e R s m args below meth c T locs cells slots) (hx : p.tables.exec = Jvm.exec) (pc' : Nat) (hpc : pc + 1 = pc') {x y : Value} (hd : decode c.code pc = .ok (.dup2, 1)) (hc : x.category = 1) (hc' : y.category = 1) (K : Goes p e below (T.setTop (mkF m pc' Ls (x :: y :: x :: y :: st))) P) : Goes p e below (T.setTop (mkF m pc Ls (x :: y :: st))) P := by
  subst hpc; exact go (fun _ q => XT.dup2 X.here hx rfl hd rfl hc hc' q) K
theorem g_dup2L (X : Stand p l e R s m args below meth c T locs cells slots) (hx : p.tables.exec = Jvm.exec) (pc' : Nat) (hpc : pc + 1 = pc') {x : Int64} (hd : decode c.code pc = .ok (.dup2, 1))  (K : Goes p e below (T.setTop (mkF m pc' Ls (.long x :: .long x :: st))) P) : Goes p e below (T.setTop (mkF m pc Ls (.long x :: st))) P := by
  subst hpc; exact go (fun _ q => XT.dup2L X.here hx rfl hd rfl q) K
theorem g_iconst (X : Stand p l e R s m args below meth c T locs cells slots) (hx : p.tables.exec = Jvm.exec) (pc' : Nat) (hpc : pc + 1 = pc') {i : Int} (v : Int32) (hv : Int32.ofInt i = v) (hd : decode c.code pc = .ok (.iconst i, 1))  (K : Goes p e below (T.setTop (mkF m pc' Ls (.int v :: st))) P) : Goes p e below (T.setTop (mkF m pc Ls (st))) P := by
  subst hpc; exact go (fun _ q => XS.iconst X.here hx rfl hd (by rw [hv]; exact q)) K
theorem g_bipush (X : Stand p l e R s m args below meth c T locs cells slots) (hx : p.tables.exec = Jvm.exec) (pc' : Nat) (hpc : pc + 2 = pc') {i : Int} (v : Int32) (hv : (Int8.ofInt i).toInt32 = v) (hd : decode c.code pc = .ok (.bipush i, 2))  (K : Goes p e below (T.setTop (mkF m pc' Ls (.int v :: st))) P) : Goes p e below (T.setTop (mkF m pc Ls (st))) P := by
  subst hpc; exact go (fun _ q => XS.bipush X.here hx rfl hd (by rw [hv]; exact q)) K
theorem g_sipush (X : Stand p l e R s m args below meth c T locs cells slots) (hx : p.tables.exec = Jvm.exec) (pc' : Nat) (hpc : pc + 3 = pc') {i : Int} (v : Int32) (hv : (Int16.ofInt i).toInt32 = v) (hd : decode c.code pc = .ok (.sipush i, 3))  (K : Goes p e below (T.setTop (mkF m pc' Ls (.int v :: st))) P) : Goes p e below (T.setTop (mkF m pc Ls (st))) P := by
  subst hpc; exact go (fun _ q => XS.sipush X.here hx rfl hd (by rw [hv]; exact q)) K
theorem g_lconst (X : Stand p l e R s m args below meth c T locs cells slots) (hx : p.tables.exec = Jvm.exec) (pc' : Nat) (hpc : pc + 1 = pc') {k : Fin 2} (v : Int64) (hv : Int64.ofNat k = v) (hd : decode c.code pc = .ok (.lconst k, 1))  (K : Goes p e below (T.setTop (mkF m pc' Ls (.long v :: st))) P) : Goes p e below (T.setTop (mkF m pc Ls (st))) P := by
  subst hpc; exact go (fun _ q => XT.lconst X.here hx rfl hd (by rw [hv]; exact q)) K
theorem g_aconst_null (X : Stand p l e R s m args below meth c T locs cells slots) (hx : p.tables.exec = Jvm.exec) (pc' : Nat) (hpc : pc + 1 = pc')  (hd : decode c.code pc = .ok (.aconst_null, 1))  (K : Goes p e below (T.setTop (mkF m pc' Ls (.null :: st))) P) : Goes p e below (T.setTop (mkF m pc Ls (st))) P := by
  subst hpc; exact go (fun _ q => XS.aconstNull X.here hx rfl hd q) K
theorem g_ldcI (X : Stand p l e R s m args below meth c T locs cells slots) (hx : p.tables.exec = Jvm.exec) (pc' : Nat) (hpc : pc + 2 = pc') {own : String} {index : Nat} {v : Int32} (hown : s.vm.findClass own = some m.cls) (hZ : Z.Warmed39 s.vm) (w : (Jvm.Cond.constant own index v).before a0 Z = true) (hd : decode c.code pc = .ok (.ldc index, 2))  (K : Goes p e below (T.setTop (mkF m pc' Ls (.int v :: st))) P) : Goes p e below (T.setTop (mkF m pc Ls (st))) P := by
  subst hpc; exact go (fun _ q => X.ldcInt hx hown (mvT hZ w) (g := mkF m pc Ls st) rfl hd _ q) K
theorem g_ldcJ (X : Stand p l e R s m args below meth c T locs cells slots) (hx : p.tables.exec = Jvm.exec) (pc' : Nat) (hpc : pc + 3 = pc') {own : String} {index : Nat} {v : Int64} (hown : s.vm.findClass own = some m.cls) (hZ : Z.Warmed39 s.vm) (w : (Jvm.Cond.constantLong own index v).before a0 Z = true) (hd : decode c.code pc = .ok (.ldc2_w index, 3))  (K : Goes p e below (T.setTop (mkF m pc' Ls (.long v :: st))) P) : Goes p e below (T.setTop (mkF m pc Ls (st))) P := by
  subst hpc; exact go (fun _ q => X.ldc2Long hx hown (mvT hZ w) (g := mkF m pc Ls st) rfl hd _ q) K
theorem g_iload_n (X : Stand p l e R s m args below meth c T locs cells slots) (hx : p.tables.exec = Jvm.exec) (pc' : Nat) (hpc : pc + 1 = pc') {k : Fin 4} {v : Int32} (hd : decode c.code pc = .ok (.iload_n k, 1)) (hl : Ls[k.val]? = some (.val (.int v))) (K : Goes p e below (T.setTop (mkF m pc' Ls (.int v :: st))) P) : Goes p e below (T.setTop (mkF m pc Ls (st))) P := by
  subst hpc; exact go (fun _ q => XS.iloadN X.here hx rfl hd hl q) K
theorem g_iload (X : Stand p l e R s m args below meth c T locs cells slots) (hx : p.tables.exec = Jvm.exec) (pc' : Nat) (hpc : pc + 2 = pc') {k : Nat} {v : Int32} (hd : decode c.code pc = .ok (.iload k, 2)) (hl : Ls[k]? = some (.val (.int v))) (K : Goes p e below (T.setTop (mkF m pc' Ls (.int v :: st))) P) : Goes p e below (T.setTop (mkF m pc Ls (st))) P := by
  subst hpc; exact go (fun _ q => XS.iload X.here hx rfl hd hl q) K
theorem g_lload_n (X : Stand p l e R s m args below meth c T locs cells slots) (hx : p.tables.exec = Jvm.exec) (pc' : Nat) (hpc : pc + 1 = pc') {k : Fin 4} {v : Int64} (hd : decode c.code pc = .ok (.lload_n k, 1)) (hl : Ls[k.val]? = some (.val (.long v))) (K : Goes p e below (T.setTop (mkF m pc' Ls (.long v :: st))) P) : Goes p e below (T.setTop (mkF m pc Ls (st))) P := by
  subst hpc; exact go (fun _ q => XT.lloadN X.here hx rfl hd hl q) K
theorem g_lload (X : Stand p l e R s m args below meth c T locs cells slots) (hx : p.tables.exec = Jvm.exec) (pc' : Nat) (hpc : pc + 2 = pc') {k : Nat} {v : Int64} (hd : decode c.code pc = .ok (.lload k, 2)) (hl : Ls[k]? = some (.val (.long v))) (K : Goes p e below (T.setTop (mkF m pc' Ls (.long v :: st))) P) : Goes p e below (T.setTop (mkF m pc Ls (st))) P := by
  subst hpc; exact go (fun _ q => XT.lload X.here hx rfl hd hl q) K
theorem g_aload_n (X : Stand p l e R s m args below meth c T locs cells slots) (hx : p.tables.exec = Jvm.exec) (pc' : Nat) (hpc : pc + 1 = pc') {k : Fin 4} {v : Value} (hd : decode c.code pc = .ok (.aload_n k, 1)) (hl : Ls[k.val]? = some (.val v)) (hv : v.isRef = true) (K : Goes p e below (T.setTop (mkF m pc' Ls (v :: st))) P) : Goes p e below (T.setTop (mkF m pc Ls (st))) P := by
  subst hpc; exact go (fun _ q => XS.aloadN X.here hx rfl hd hl hv q) K
theorem g_aload (X : Stand p l e R s m args below meth c T locs cells slots) (hx : p.tables.exec = Jvm.exec) (pc' : Nat) (hpc : pc + 2 = pc') {k : Nat} {v : Value} (hd : decode c.code pc = .ok (.aload k, 2)) (hl : Ls[k]? = some (.val v)) (hv : v.isRef = true) (K : Goes p e below (T.setTop (mkF m pc' Ls (v :: st))) P) : Goes p e below (T.setTop (mkF m pc Ls (st))) P := by
  subst hpc; exact go (fun _ q => XS.aload X.here hx rfl hd hl hv q) K
theorem g_istore_n (X : Stand p l e R s m args below meth c T locs cells slots) (hx : p.tables.exec = Jvm.exec) (pc' : Nat) (hpc : pc + 1 = pc') {k : Fin 4} {x : Int32} (hd : decode c.code pc = .ok (.istore_n k, 1))  (l' : Array Slot) (hl : storeLocals Ls k.val (.int x) = some l') (K : Goes p e below (T.setTop (mkF m pc' l' st)) P) : Goes p e below (T.setTop (mkF m pc Ls (.int x :: st))) P := by
  subst hpc; exact go (fun _ q => XS.istoreN X.here hx rfl hd rfl hl q) K
theorem g_istore (X : Stand p l e R s m args below meth c T locs cells slots) (hx : p.tables.exec = Jvm.exec) (pc' : Nat) (hpc : pc + 2 = pc') {k : Nat} {x : Int32} (hd : decode c.code pc = .ok (.istore k, 2))  (l' : Array Slot) (hl : storeLocals Ls k (.int x) = some l') (K : Goes p e below (T.setTop (mkF m pc' l' st)) P) : Goes p e below (T.setTop (mkF m pc Ls (.int x :: st))) P := by
  subst hpc; exact go (fun _ q => XS.istore X.here hx rfl hd rfl hl q) K
theorem g_lstore_n (X : Stand p l e R s m args below meth c T locs cells slots) (hx : p.tables.exec = Jvm.exec) (pc' : Nat) (hpc : pc + 1 = pc') {k : Fin 4} {x : Int64} (hd : decode c.code pc = .ok (.lstore_n k, 1))  (l' : Array Slot) (hl : storeLocals Ls k.val (.long x) = some l') (K : Goes p e below (T.setTop (mkF m pc' l' st)) P) : Goes p e below (T.setTop (mkF m pc Ls (.long x :: st))) P := by
  subst hpc; exact go (fun _ q => XT.lstoreN X.here hx rfl hd rfl hl q) K
theorem g_lstore (X : Stand p l e R s m args below meth c T locs cells slots) (hx : p.tables.exec = Jvm.exec) (pc' : Nat) (hpc : pc + 2 = pc') {k : Nat} {x : Int64} (hd : decode c.code pc = .ok (.lstore k, 2))  (l' : Array Slot) (hl : storeLocals Ls k (.long x) = some l') (K : Goes p e below (T.setTop (mkF m pc' l' st)) P) : Goes p e below (T.setTop (mkF m pc Ls (.long x :: st))) P := by
  subst hpc; exact go (fun _ q => XT.lstore X.here hx rfl hd rfl hl q) K
theorem g_astore_n (X : Stand p l e R s m args below meth c T locs cells slots) (hx : p.tables.exec = Jvm.exec) (pc' : Nat) (hpc : pc + 1 = pc') {k : Fin 4} {x : Value} (hd : decode c.code pc = .ok (.astore_n k, 1)) (hv : x.isRef = true) (l' : Array Slot) (hl : storeLocals Ls k.val x = some l') (K : Goes p e below (T.setTop (mkF m pc' l' st)) P) : Goes p e below (T.setTop (mkF m pc Ls (x :: st))) P := by
  subst hpc; exact go (fun _ q => XS.astoreN X.here hx rfl hd rfl hv hl q) K
theorem g_astore (X : Stand p l e R s m args below meth c T locs cells slots) (hx : p.tables.exec = Jvm.exec) (pc' : Nat) (hpc : pc + 2 = pc') {k : Nat} {x : Value} (hd : decode c.code pc = .ok (.astore k, 2)) (hv : x.isRef = true) (l' : Array Slot) (hl : storeLocals Ls k x = some l') (K : Goes p e below (T.setTop (mkF m pc' l' st)) P) : Goes p e below (T.setTop (mkF m pc Ls (x :: st))) P := by
  subst hpc; exact go (fun _ q => XS.astore X.here hx rfl hd rfl hv hl q) K
theorem g_iinc (X : Stand p l e R s m args below meth c T locs cells slots) (hx : p.tables.exec = Jvm.exec) (pc' : Nat) (hpc : pc + 3 = pc') {k : Nat} {cst : Int} {x : Int32} (hd : decode c.code pc = .ok (.iinc k cst, 3)) (v : Int32) (hv : x + Int32.ofInt cst = v) (hl : Ls[k]? = some (.val (.int x))) (l' : Array Slot) (hl' : storeLocals Ls k (.int v) = some l') (K : Goes p e below (T.setTop (mkF m pc' l' st)) P) : Goes p e below (T.setTop (mkF m pc Ls st)) P := by
  subst hpc; subst hv; exact go (fun _ q => XS.iinc X.here hx rfl hd hl hl' q) K
theorem g_goto (X : Stand p l e R s m args below meth c T locs cells slots) (hx : p.tables.exec = Jvm.exec) (pc' : Nat) {o : Int} (hd : decode c.code pc = .ok (.goto o, 3)) (ho : 0 ≤ (pc : Int) + o) (hp : ((pc : Int) + o).toNat = pc') (K : Goes p e below (T.setTop (mkF m pc' Ls st)) P) : Goes p e below (T.setTop (mkF m pc Ls st)) P :=
  go (fun _ q => XS.goto X.here hx rfl rfl hd ho hp q) K
theorem g_ifY (X : Stand p l e R s m args below meth c T locs cells slots) (hx : p.tables.exec = Jvm.exec) (pc' : Nat) {o : Int} {cd : ClassFile.Cond} {x : Int32} (hd : decode c.code pc = .ok (.ifCond cd o, 3)) (hc : ifCond.holds cd x = true) (ho : 0 ≤ (pc : Int) + o) (hp : ((pc : Int) + o).toNat = pc') (K : Goes p e below (T.setTop (mkF m pc' Ls st)) P) : Goes p e below (T.setTop (mkF m pc Ls (.int x :: st))) P :=
  go (fun _ q => XS.ifYes X.here hx rfl rfl hd rfl hc ho hp q) K
theorem g_ifN (X : Stand p l e R s m args below meth c T locs cells slots) (hx : p.tables.exec = Jvm.exec) (pc' : Nat) (hpc : pc + 3 = pc') {o : Int} {cd : ClassFile.Cond} {x : Int32} (hd : decode c.code pc = .ok (.ifCond cd o, 3)) (hc : ifCond.holds cd x = false) (K : Goes p e below (T.setTop (mkF m pc' Ls st)) P) : Goes p e below (T.setTop (mkF m pc Ls (.int x :: st))) P := by
  subst hpc; exact go (fun _ q => XS.ifNo X.here hx rfl hd rfl hc q) K
theorem g_icmpY (X : Stand p l e R s m args below meth c T locs cells slots) (hx : p.tables.exec = Jvm.exec) (pc' : Nat) {o : Int} {cd : ClassFile.Cond} {x y : Int32} (hd : decode c.code pc = .ok (.if_icmp cd o, 3)) (hc : if_icmp.holds cd x y = true) (ho : 0 ≤ (pc : Int) + o) (hp : ((pc : Int) + o).toNat = pc') (K : Goes p e below (T.setTop (mkF m pc' Ls st)) P) : Goes p e below (T.setTop (mkF m pc Ls (.int y :: .int x :: st))) P :=
  go (fun _ q => XS.icmpYes X.here hx rfl rfl hd rfl hc ho hp q) K
theorem g_icmpN (X : Stand p l e R s m args below meth c T locs cells slots) (hx : p.tables.exec = Jvm.exec) (pc' : Nat) (hpc : pc + 3 = pc') {o : Int} {cd : ClassFile.Cond} {x y : Int32} (hd : decode c.code pc = .ok (.if_icmp cd o, 3)) (hc : if_icmp.holds cd x y = false) (K : Goes p e below (T.setTop (mkF m pc' Ls st)) P) : Goes p e below (T.setTop (mkF m pc Ls (.int y :: .int x :: st))) P := by
  subst hpc; exact go (fun _ q => XS.icmpNo X.here hx rfl hd rfl hc q) K
theorem g_acmpY (X : Stand p l e R s m args below meth c T locs cells slots) (hx : p.tables.exec = Jvm.exec) (pc' : Nat) {o : Int} {cd : ClassFile.ACond} {x y : Value} (hd : decode c.code pc = .ok (.if_acmp cd o, 3)) (h1 : x.isRef = true) (h2 : y.isRef = true) (hc : XT.acmp cd x y = true) (ho : 0 ≤ (pc : Int) + o) (hp : ((pc : Int) + o).toNat = pc') (K : Goes p e below (T.setTop (mkF m pc' Ls st)) P) : Goes p e below (T.setTop (mkF m pc Ls (y :: x :: st))) P :=
  go (fun _ q => XT.acmpYes X.here hx rfl rfl hd rfl h1 h2 hc ho hp q) K
theorem g_acmpN (X : Stand p l e R s m args below meth c T locs cells slots) (hx : p.tables.exec = Jvm.exec) (pc' : Nat) (hpc : pc + 3 = pc') {o : Int} {cd : ClassFile.ACond} {x y : Value} (hd : decode c.code pc = .ok (.if_acmp cd o, 3)) (h1 : x.isRef = true) (h2 : y.isRef = true) (hc : XT.acmp cd x y = false) (K : Goes p e below (T.setTop (mkF m pc' Ls st)) P) : Goes p e below (T.setTop (mkF m pc Ls (y :: x :: st))) P := by
  subst hpc; exact go (fun _ q => XT.acmpNo X.here hx rfl hd rfl h1 h2 hc q) K
theorem g_ifnonnullY (X : Stand p l e R s m args below meth c T locs cells slots) (hx : p.tables.exec = Jvm.exec) (pc' : Nat) {o : Int} {b : Addr} (hd : decode c.code pc = .ok (.ifnonnull o, 3)) (ho : 0 ≤ (pc : Int) + o) (hp : ((pc : Int) + o).toNat = pc') (K : Goes p e below (T.setTop (mkF m pc' Ls st)) P) : Goes p e below (T.setTop (mkF m pc Ls (.ref b :: st))) P :=
  go (fun _ q => XT.ifnonnullYes X.here hx rfl rfl hd rfl ho hp q) K
theorem g_ifnonnullN (X : Stand p l e R s m args below meth c T locs cells slots) (hx : p.tables.exec = Jvm.exec) (pc' : Nat) (hpc : pc + 3 = pc') {o : Int} (hd : decode c.code pc = .ok (.ifnonnull o, 3)) (K : Goes p e below (T.setTop (mkF m pc' Ls st)) P) : Goes p e below (T.setTop (mkF m pc Ls (.null :: st))) P := by
  subst hpc; exact go (fun _ q => XT.ifnonnullNo X.here hx rfl hd rfl q) K
def b2i (b : Bool) : Int32 := if b then 1 else 0
theorem b2i_nar (b : Bool) : narrow .boolean (.int (b2i b)) = .int (b2i b) := by cases b <;> rfl
theorem bb_eq_t {b : Bool} (q : ¬ b = true) : ifCond.holds .eq (b2i b) = true := by cases b <;> first | rfl | exact absurd rfl q
theorem bb_eq_f {b : Bool} (q : b = true) : ifCond.holds .eq (b2i b) = false := by subst q; rfl
theorem bb_ne_t {b : Bool} (q : b = true) : ifCond.holds .ne (b2i b) = true := by subst q; rfl
theorem bb_ne_f {b : Bool} (q : ¬ b = true) : ifCond.holds .ne (b2i b) = false := by cases b <;> first | rfl | exact absurd rfl q
theorem b2_eq_t {a b : Bool} (q : a = b) : if_icmp.holds .eq (b2i a) (b2i b) = true := by subst q; cases a <;> rfl
theorem b2_eq_f {a b : Bool} (q : ¬ a = b) : if_icmp.holds .eq (b2i a) (b2i b) = false := by cases a <;> cases b <;> first | rfl | exact absurd rfl q
theorem b2_ne_t {a b : Bool} (q : ¬ a = b) : if_icmp.holds .ne (b2i a) (b2i b) = true := by cases a <;> cases b <;> first | rfl | exact absurd rfl q
theorem b2_ne_f {a b : Bool} (q : a = b) : if_icmp.holds .ne (b2i a) (b2i b) = false := by subst q; cases a <;> rfl
theorem g_getF (X : Stand p l e R s m args below meth c T locs cells slots) (hx : p.tables.exec = Jvm.exec) (hZ : Z.Warmed39 s.vm) (pc' : Nat) (hpc : pc + 3 = pc') {own O n d : String} {index : Nat} (hown : s.vm.findClass own = some m.cls) (w : (Jvm.Cond.fieldLink own index O n d).before a0 Z = true) (eT : T.heap = h) {a : Addr} {v : Value} (F : Fld Z h a O n d v) (hd : decode c.code pc = .ok (.getfield index, 3)) (K : ∀ T', Stand p l e R s m args below meth c T' locs cells slots → T'.heap = h → Goes p e below (T'.setTop (mkF m pc' Ls (v :: st))) P) : Goes p e below (T.setTop (mkF m pc Ls (.ref a :: st))) P := by
  subst hpc
  obtain ⟨T', X', e', st'⟩ := getF X hx hZ hown (host := "") (Or.inl w) Via.refl eT F (g := mkF m pc Ls (.ref a :: st)) rfl rfl hd
  exact go st' (K T' X' e')
theorem g_putF (X : Stand p l e R s m args below meth c T locs cells slots) (hx : p.tables.exec = Jvm.exec) (hZ : Z.Warmed39 s.vm) (pc' : Nat) (hpc : pc + 3 = pc') {own O n d C : String} {index kk : Nat} {ty : FieldType} (hown : s.vm.findClass own = some m.cls) (w : (Jvm.Cond.fieldLink own index O n d).before a0 Z = true) (eT : T.heap = h) {a : Addr} {v old : Value} (F : Fld Z h a O n d old) (E : Exa Z h a C) (L : (Jvm.Cond.lays C O n d).before a0 Z = true ∨ ((Jvm.Cond.laysFinal C O n d).before a0 Z = true ∧ own = O ∧ meth.name = "<init>")) (wi : (Jvm.Cond.instantiable C kk).before a0 Z = true) (hty : parseFieldDescriptor d = some ty) (hn : narrow ty v = v) (hf : fits ty v = true) (hd : decode c.code pc = .ok (.putfield index, 3)) (K : ∀ T' h', Stand p l e R s m args below meth c T' (locs ++ [⟨a, Jvm.RoadKit.slotOf Z O n d⟩]) cells slots → T'.heap = h' → Wr h h' a (Jvm.RoadKit.slotOf Z O n d) v → Goes p e below (T'.setTop (mkF m pc' Ls st)) P) : Goes p e below (T.setTop (mkF m pc Ls (v :: .ref a :: st))) P := by
  subst hpc
  obtain ⟨T', h', X', e', W', st'⟩ := putF X hx hZ hown (host := "") (Or.inl w) Via.refl eT F E L wi hty hn hf (g := mkF m pc Ls (v :: .ref a :: st)) rfl rfl hd
  exact go st' (K T' h' X' e' W')
theorem g_getS (X : Stand p l e R s m args below meth c T locs cells slots) (hx : p.tables.exec = Jvm.exec) (hZ : Z.Warmed39 s.vm) (pc' : Nat) (hpc : pc + 3 = pc') {own O n d : String} {index : Nat} (hown : s.vm.findClass own = some m.cls) (w : (Jvm.Cond.fieldLink own index O n d).before a0 Z = true) (eT : T.heap = h) {v : Value} (F : Sta Z h O n d v) (hd : decode c.code pc = .ok (.getstatic index, 3)) (K : ∀ T', Stand p l e R s m args below meth c T' locs cells slots → T'.heap = h → Goes p e below (T'.setTop (mkF m pc' Ls (v :: st))) P) : Goes p e below (T.setTop (mkF m pc Ls st)) P := by
  subst hpc
  obtain ⟨T', X', e', st'⟩ := getS (host := "") X hx hZ hown w Via.refl eT F (g := mkF m pc Ls st) rfl hd
  exact go st' (K T' X' e')
theorem g_new (X : Stand p l e R s m args below meth c T locs cells slots) (hx : p.tables.exec = Jvm.exec) (hZ : Z.Warmed39 s.vm) (pc' : Nat) (hpc : pc + 3 = pc') {own C : String} {index n : Nat} (hown : s.vm.findClass own = some m.cls) (w : (Jvm.Cond.classLink own index C).before a0 Z = true) (wi : (Jvm.Cond.instantiable C n).before a0 Z = true) (wz : (Jvm.Cond.initialized C).before a0 Z = true) (eT : T.heap = h) (hd : decode c.code pc = .ok (.new index, 3)) (hc : cells + 1 ≤ R.cells) (hl : slots + n ≤ R.slots) (K : ∀ T' h' a, a = h.size → Stand p l e R s m args below meth c T' locs (cells + 1) (slots + n) → T'.heap = h' → Ext h h' → Exa Z h' a C → (∀ {O nm d : String} {ty : FieldType}, Laid Z a0 C O nm d → parseFieldDescriptor d = some ty → Fld Z h' a O nm d (defaultValue ty)) → Goes p e below (T'.setTop (mkF m pc' Ls (.ref a :: st))) P) : Goes p e below (T.setTop (mkF m pc Ls st)) P := by
  subst hpc
  obtain ⟨T', h', X', e', E', A', D', -, st'⟩ := newO X hx hZ hown w wi wz eT (g := mkF m pc Ls st) rfl hd hc hl
  exact go st' (K T' h' _ rfl X' e' E' A' D')
theorem g_initO (X : Stand p l e R s m args below meth c T locs cells slots) (hx : p.tables.exec = Jvm.exec) (hZ : Z.Warmed39 s.vm) (pc' : Nat) (hpc : pc + 3 = pc') {own : String} {idx : Nat} (hown : s.vm.findClass own = some m.cls) (w1 : (Jvm.Cond.methodLink own idx Lib.objectInit).before a0 Z = true) (w2 : (Jvm.Cond.instanceMethod Lib.objectInit).before a0 Z = true) (w3 : (Jvm.Cond.code Lib.objectInit ⟨#[0xb1]⟩ 1 none).before a0 Z = true) (eT : T.heap = h) (hsize : Ls.size = c.maxLocals) {a : Addr} (hd : decode c.code pc = .ok (.invokespecial idx, 3)) (hf : 1 ≤ R.frames) (W : Nat) (hW : 2 * 0 + (st.map fun v => v.category).sum ≤ W) (hl : W + 12 ≤ R.locals) (K : ∀ T', Stand p l e R s m args below meth c T' locs cells slots → T'.heap = h → Goes p e below (T'.setTop (mkF m pc' Ls st)) P) : Goes p e below (T.setTop (mkF m pc Ls (.ref a :: st))) P := by
  subst hpc
  obtain ⟨T', X', e', st'⟩ := initO X hx hZ hown w1 w2 w3 eT (g := mkF m pc Ls (.ref a :: st)) rfl hsize rfl hd hf hW hl
  exact go st' (K T' X' e')
theorem g_callS (X : Stand p l e R s m args below meth c T locs cells slots) (hx : p.tables.exec = Jvm.exec) (hZ : Z.Warmed39 s.vm) (pc' : Nat) (hpc : pc + 3 = pc') {own : String} {index : Nat} {y : MethodName} {bytes : ByteArray} {maxL : Nat} {ret : Option FieldType} {rm : Room} {Q : Option Value → Heap → List Loc → Prop} (hown : s.vm.findClass own = some m.cls) (w1 : (Jvm.Cond.methodLink own index y).before a0 Z = true) (w2 : (Jvm.Cond.static y).before a0 Z = true) (w3 : (Jvm.Cond.initialized y.cls).before a0 Z = true) (w4 : (Jvm.Cond.code y bytes maxL ret).before a0 Z = true) (hy : y.cls ≠ "java/lang/invoke/MethodHandle" ∧ y.cls ≠ "java/lang/invoke/VarHandle") (argsL rest : List Value) (hM : OwnMet l Z y bytes maxL ret [] rm argsL.toArray h Q) (eT : T.heap = h) (hlen : ∀ sig, parseMethodDescriptor y.desc = some sig → argsL.length = sig.parameters.length) (hst : st = argsL.reverse ++ rest) (hsize : Ls.size = c.maxLocals) (hd : decode c.code pc = .ok (.invokestatic index, 3)) (hf : rm.frames + 1 ≤ R.frames) (W : Nat) (hW : 2 * 0 + (rest.map fun v => v.category).sum ≤ W) (hl : W + (maxL + 11) + rm.locals ≤ R.locals) (hc : cells + rm.cells ≤ R.cells) (hs : slots + rm.slots ≤ R.slots) (K : ∀ v T' L', Stand p l e R s m args below meth c T' (locs ++ L') (cells + rm.cells) (slots + rm.slots) → Q v T'.heap L' → Goes p e below (T'.setTop (mkF m pc' Ls (v.toList ++ rest))) P) : Goes p e below (T.setTop (mkF m pc Ls st)) P := by
  subst hpc; subst hst
  obtain ⟨v, _, ⟨T', L', k', n'⟩, -, X', ⟨Lc, hQ, e1, e2, e3⟩, st'⟩ := Jvm.LawKit.callS X hx (y := y) hown (mvT hZ w1) (mvT hZ w2) (mvT hZ w3) (mvT hZ w4) hy (backOf (W := W) hM hZ w4 w3 hf hl) (g := mkF m pc Ls (argsL.reverse ++ rest)) rfl hsize (argsL := argsL) (rest := rest) hlen rfl hW hd (fun _ _ => ⟨rfl, eT, hc, hs⟩)
  dsimp only [Pt.U, Pt.locs, Pt.cells, Pt.slots] at X' e1 e2 e3 st' hQ
  subst e1 e2 e3
  exact go st' (K v T' Lc X' hQ)
theorem g_callI (X : Stand p l e R s m args below meth c T locs cells slots) (hx : p.tables.exec = Jvm.exec) (hZ : Z.Warmed39 s.vm) (pc' : Nat) (hpc : pc + 3 = pc') {own : String} {index : Nat} {y : MethodName} {bytes : ByteArray} {maxL : Nat} {rm : Room} {Q : Option Value → Heap → List Loc → Prop} (hy1 : y.name = "<init>") (hown : s.vm.findClass own = some m.cls) (w1 : (Jvm.Cond.methodLink own index y).before a0 Z = true) (w2 : (Jvm.Cond.instanceMethod y).before a0 Z = true) (w3 : (Jvm.Cond.initialized y.cls).before a0 Z = true) (w4 : (Jvm.Cond.code y bytes maxL none).before a0 Z = true) (hy : y.cls ≠ "java/lang/invoke/MethodHandle" ∧ y.cls ≠ "java/lang/invoke/VarHandle") (a : Addr) (argsL rest : List Value) (hM : OwnMet l Z y bytes maxL none [] rm (.ref a :: argsL).toArray h Q) (eT : T.heap = h) (hlen : ∀ sig, parseMethodDescriptor y.desc = some sig → argsL.length = sig.parameters.length) (hst : st = argsL.reverse ++ .ref a :: rest) (hsize : Ls.size = c.maxLocals) (hd : decode c.code pc = .ok (.invokespecial index, 3)) (hf : rm.frames + 1 ≤ R.frames) (W : Nat) (hW : 2 * 0 + (rest.map fun v => v.category).sum ≤ W) (hl : W + (maxL + 11) + rm.locals ≤ R.locals) (hc : cells + rm.cells ≤ R.cells) (hs : slots + rm.slots ≤ R.slots) (K : ∀ v T' L', Stand p l e R s m args below meth c T' (locs ++ L') (cells + rm.cells) (slots + rm.slots) → Q v T'.heap L' → Goes p e below (T'.setTop (mkF m pc' Ls (v.toList ++ rest))) P) : Goes p e below (T.setTop (mkF m pc Ls st)) P := by
  subst hpc; subst hst
  obtain ⟨v, _, ⟨T', L', k', n'⟩, -, X', ⟨Lc, hQ, e1, e2, e3⟩, st'⟩ := X.specialBack hx (y := y) hy1 hown (mvT hZ w1) (mvT hZ w2) (mvT hZ w4) hy (backOf (W := W) hM hZ w4 w3 hf hl) (g := mkF m pc Ls (argsL.reverse ++ .ref a :: rest)) rfl hsize (Steps.refl _) (a := a) (argsL := argsL) (rest := rest) hlen rfl hW hd (fun _ _ => ⟨rfl, eT, hc, hs⟩)
  dsimp only [Pt.U, Pt.locs, Pt.cells, Pt.slots] at X' e1 e2 e3 st' hQ
  subst e1 e2 e3
  exact goT st' (K v T' Lc X' hQ)
theorem g_callV (X : Stand p l e R s m args below meth c T locs cells slots) (hx : p.tables.exec = Jvm.exec) (hZ : Z.Warmed39 s.vm) (pc' : Nat) (hpc : pc + 3 = pc') {own C : String} {index : Nat} {y : MethodName} {bytes : ByteArray} {maxL : Nat} {ret : Option FieldType} {rm : Room} {Q : Option Value → Heap → List Loc → Prop} (hown : s.vm.findClass own = some m.cls) (w1 : (Jvm.Cond.methodLink own index y).before a0 Z = true) (w2 : (Jvm.Cond.declares y).before a0 Z = true) (w5 : (Jvm.Cond.selects C y y).before a0 Z = true) (w6 : (Jvm.Cond.instanceMethod y).before a0 Z = true) (w3 : (Jvm.Cond.initialized y.cls).before a0 Z = true) (w4 : (Jvm.Cond.code y bytes maxL ret).before a0 Z = true) (hy : y.cls ≠ "java/lang/invoke/MethodHandle" ∧ y.cls ≠ "java/lang/invoke/VarHandle") (a : Addr) (argsL rest : List Value) (hM : OwnMet l Z y bytes maxL ret [] rm (.ref a :: argsL).toArray h Q) (eT : T.heap = h) (Ex : Exa Z h a C) (hlen : ∀ sig, parseMethodDescriptor y.desc = some sig → argsL.length = sig.parameters.length) (hst : st = argsL.reverse ++ .ref a :: rest) (hsize : Ls.size = c.maxLocals) (hd : decode c.code pc = .ok (.invokevirtual index, 3)) (hf : rm.frames + 1 ≤ R.frames) (W : Nat) (hW : 2 * 0 + (rest.map fun v => v.category).sum ≤ W) (hl : W + (maxL + 11) + rm.locals ≤ R.locals) (hc : cells + rm.cells ≤ R.cells) (hs : slots + rm.slots ≤ R.slots) (K : ∀ v T' L', Stand p l e R s m args below meth c T' (locs ++ L') (cells + rm.cells) (slots + rm.slots) → Q v T'.heap L' → Goes p e below (T'.setTop (mkF m pc' Ls (v.toList ++ rest))) P) : Goes p e below (T.setTop (mkF m pc Ls st)) P := by
  subst hpc; subst hst
  obtain ⟨cq, kq, qa, qb, qc⟩ := isOf hZ eT Ex
  obtain ⟨v, _, ⟨T', L', k', n'⟩, -, X', ⟨Lc, hQ, e1, e2, e3⟩, st'⟩ := X.virtualBack hx (y := y) (z := y) hown (mvT hZ w1) (mvT hZ w2) (notFace_of_selects (args := #[]) (mvT hZ w5)) (mvT hZ w5) (mvT hZ w6) hy (backOf (W := W) hM hZ w4 w3 hf hl) qa qc (g := mkF m pc Ls (argsL.reverse ++ .ref a :: rest)) rfl hsize (Steps.refl _) (argsL := argsL) (rest := rest) hlen rfl hW hd (fun _ _ => ⟨rfl, eT, hc, hs⟩)
  dsimp only [Pt.U, Pt.locs, Pt.cells, Pt.slots] at X' e1 e2 e3 st' hQ
  subst e1 e2 e3
  exact goT st' (K v T' Lc X' hQ)
theorem g_callP (X : Stand p l e R s m args below meth c T locs cells slots) (hx : p.tables.exec = Jvm.exec) (hZ : Z.Warmed39 s.vm) (pc' : Nat) (hpc : pc + 3 = pc') {own : String} {index : Nat} {y : MethodName} {bytes : ByteArray} {maxL : Nat} {ret : Option FieldType} {rm : Room} {Q : Option Value → Heap → List Loc → Prop} {kk : Nat} {C : String} (hown : s.vm.findClass own = some m.cls) (w1 : (Jvm.Cond.methodLink own index y).before a0 Z = true) (w2 : (Jvm.Cond.instanceMethod y).before a0 Z = true) (w5 : (Jvm.Cond.privateMethod y).before a0 Z = true) (wi : (Jvm.Cond.instantiable y.cls kk).before a0 Z = true) (w3 : (Jvm.Cond.initialized y.cls).before a0 Z = true) (w4 : (Jvm.Cond.code y bytes maxL ret).before a0 Z = true) (hy : y.cls ≠ "java/lang/invoke/MethodHandle" ∧ y.cls ≠ "java/lang/invoke/VarHandle") (a : Addr) (argsL rest : List Value) (hM : OwnMet l Z y bytes maxL ret [] rm (.ref a :: argsL).toArray h Q) (eT : T.heap = h) (Ex : Exa Z h a C) (hlen : ∀ sig, parseMethodDescriptor y.desc = some sig → argsL.length = sig.parameters.length) (hst : st = argsL.reverse ++ .ref a :: rest) (hsize : Ls.size = c.maxLocals) (hd : decode c.code pc = .ok (.invokevirtual index, 3)) (hf : rm.frames + 1 ≤ R.frames) (W : Nat) (hW : 2 * 0 + (rest.map fun v => v.category).sum ≤ W) (hl : W + (maxL + 11) + rm.locals ≤ R.locals) (hc : cells + rm.cells ≤ R.cells) (hs : slots + rm.slots ≤ R.slots) (K : ∀ v T' L', Stand p l e R s m args below meth c T' (locs ++ L') (cells + rm.cells) (slots + rm.slots) → Q v T'.heap L' → Goes p e below (T'.setTop (mkF m pc' Ls (v.toList ++ rest))) P) : Goes p e below (T.setTop (mkF m pc Ls st)) P := by
  subst hpc; subst hst
  obtain ⟨cl, hcl, hob⟩ := Ex.cell
  have hpriv : s.PrivateAt y := Cond.privateMethod_at (mvP hZ w5 (args := #[]))
  have hin : (Jvm.Cond.instanceMethod y).before args s = true := mvT hZ w2
  obtain ⟨c1, k1, i1, i2, -, i4, -⟩ := Cond.instantiable_spec (mvT hZ wi (args := args) : (Jvm.Cond.instantiable y.cls kk).before args s = true)
  have hsel : (Jvm.Cond.selects y.cls y y).before args s = true := selects_self_of_private i1 i2 (by cases q : k1.isInterface <;> simp [q] at i4 ⊢) hpriv hin hy
  obtain ⟨v, _, ⟨T', L', k', n'⟩, -, X', ⟨Lc, hQ, e1, e2, e3⟩, st'⟩ := X.privateBack hx (y := y) hown (mvT hZ w1) hin hsel hpriv (mvT hZ w4) hy (backOf (W := W) hM hZ w4 w3 hf hl) (g := mkF m pc Ls (argsL.reverse ++ .ref a :: rest)) rfl hsize (Steps.refl _) (a := a) (cell := cl) (by rw [eT]; exact hcl) hob (argsL := argsL) (rest := rest) hlen rfl hW hd (fun _ _ => ⟨rfl, eT, hc, hs⟩)
  dsimp only [Pt.U, Pt.locs, Pt.cells, Pt.slots] at X' e1 e2 e3 st' hQ
  subst e1 e2 e3
  exact goT st' (K v T' Lc X' hQ)
def Al (Z : State) (h : Heap) (a : Addr) (ty : FieldType) (vs : List Value) : Prop := ∃ c : Cell, Arr Z h a c ty ∧ c.slots.toList = vs ∧ vs.length < 2147483648
theorem Al.lt {a : Addr} {ty : FieldType} {vs : List Value} (F : Al Z h a ty vs) : a < h.size := by obtain ⟨c, A, -⟩ := F; exact A.lt
theorem Al.ext {h' : Heap} {a : Addr} {ty : FieldType} {vs : List Value} (F : Al Z h a ty vs) (E : Ext h h') : Al Z h' a ty vs := by obtain ⟨c, A, r⟩ := F; exact ⟨c, A.ext E, r⟩
theorem Al.other {h' : Heap} {a b : Addr} {sl : Nat} {v : Value} {ty : FieldType} {vs : List Value} (F : Al Z h b ty vs) (W : Wr h h' a sl v) (q : b ≠ a) : Al Z h' b ty vs := by obtain ⟨c, A, r⟩ := F; exact ⟨c, A.other W q, r⟩
theorem Al.keep {h' : Heap} {a : Addr} {ws : List Addr} {ty : FieldType} {vs : List Value} (F : Al Z h a ty vs) (K : Keep h h' ws) (q : a ∉ ws) : Al Z h' a ty vs := by obtain ⟨c, A, r⟩ := F; exact ⟨c, ⟨K.2.1 a c A.1 q, A.2⟩, r⟩
theorem Al.same {h' : Heap} {a : Addr} {i : Nat} {v : Value} {ty : FieldType} {vs : List Value} (F : Al Z h a ty vs) (W : Wr h h' a i v) : Al Z h' a ty (vs.set i v) := by
  obtain ⟨c, A, r1, r2⟩ := F
  exact ⟨_, A.same W, by rw [← r1]; simp [Cell.setSlot], by rw [List.length_set]; exact r2⟩
theorem own_ix {j : Int32} {i : Nat} (hj : j.toInt = (i : Int)) : j.toNatClampNeg = i ∧ ¬ j < 0 := by
  refine ⟨by simp only [Int32.toNatClampNeg]; omega, fun q => ?_⟩
  rw [Int32.lt_iff_toInt_lt] at q; simp only [Int32.reduceToInt] at q; omega
theorem Al.cell {a : Addr} {ty : FieldType} {vs : List Value} (F : Al Z h a ty vs) {j : Int32} {i : Nat} (hj : j.toInt = (i : Int)) (hi : i < vs.length) : ∃ c : Cell, Arr Z h a c ty ∧ c.slots.toList = vs ∧ ¬ (j < 0 ∨ c.slots.size ≤ j.toNatClampNeg) ∧ c.slots[j.toNatClampNeg]? = vs[i]? := by
  obtain ⟨c, A, r1, r2⟩ := F
  obtain ⟨q1, q2⟩ := own_ix hj
  have hs : c.slots.size = vs.length := by rw [← r1]; simp
  exact ⟨c, A, r1, fun q => q.elim q2 (by rw [q1, hs]; omega), by rw [q1, ← r1, Array.getElem?_toList]⟩
theorem g_alen (X : Stand p l e R s m args below meth c T locs cells slots) (hx : p.tables.exec = Jvm.exec) (hZ : Z.Warmed39 s.vm) (pc' : Nat) (hpc : pc + 1 = pc') (hd : decode c.code pc = .ok (.arraylength, 1)) (eT : T.heap = h) {a : Addr} {ty : FieldType} {vs : List Value} (A : Al Z h a ty vs) (n : Int32) (hn : Int32.ofNat vs.length = n) (K : Goes p e below (T.setTop (mkF m pc' Ls (.int n :: st))) P) : Goes p e below (T.setTop (mkF m pc Ls (.ref a :: st))) P := by
  subst hpc
  obtain ⟨c, A, r1, r2⟩ := A
  have hs : c.slots.size.toInt32 = n := by rw [← hn, ← r1]; simp
  exact go (fun _ q => X.arraylength hx (by rw [eT]; exact A.1) (State.isArrayOf_alike hZ.alike A.2.1) (g := mkF m pc Ls (.ref a :: st)) rfl rfl hd _ (by rw [hs]; exact q)) K
theorem g_iaload (X : Stand p l e R s m args below meth c T locs cells slots) (hx : p.tables.exec = Jvm.exec) (hZ : Z.Warmed39 s.vm) (pc' : Nat) (hpc : pc + 1 = pc') (hd : decode c.code pc = .ok (.iaload, 1)) (eT : T.heap = h) {a : Addr} {vs : List Value} (A : Al Z h a .int vs) {j : Int32} (i : Nat) (hj : j.toInt = (i : Int)) (v : Value) (hv : vs[i]? = some v) (K : Goes p e below (T.setTop (mkF m pc' Ls (v :: st))) P) : Goes p e below (T.setTop (mkF m pc Ls (.int j :: .ref a :: st))) P := by
  subst hpc
  obtain ⟨c, A, r1, r2, r3⟩ := A.cell hj (List.getElem?_eq_some_iff.mp hv).1
  exact go (fun _ q => X.iaload hx (by rw [eT]; exact A.1) (State.isArrayOf_alike hZ.alike A.2.1) A.2.2 r2 (r3.trans hv) (g := mkF m pc Ls (.int j :: .ref a :: st)) rfl rfl hd _ q) K
theorem g_laload (X : Stand p l e R s m args below meth c T locs cells slots) (hx : p.tables.exec = Jvm.exec) (hZ : Z.Warmed39 s.vm) (pc' : Nat) (hpc : pc + 1 = pc') (hd : decode c.code pc = .ok (.laload, 1)) (eT : T.heap = h) {a : Addr} {vs : List Value} (A : Al Z h a .long vs) {j : Int32} (i : Nat) (hj : j.toInt = (i : Int)) (v : Value) (hv : vs[i]? = some v) (K : Goes p e below (T.setTop (mkF m pc' Ls (v :: st))) P) : Goes p e below (T.setTop (mkF m pc Ls (.int j :: .ref a :: st))) P := by
  subst hpc
  obtain ⟨c, A, r1, r2, r3⟩ := A.cell hj (List.getElem?_eq_some_iff.mp hv).1
  exact go (fun _ q => X.laload hx (by rw [eT]; exact A.1) (State.isArrayOf_alike hZ.alike A.2.1) A.2.2 r2 (r3.trans hv) (g := mkF m pc Ls (.int j :: .ref a :: st)) rfl rfl hd _ q) K
theorem g_baload (X : Stand p l e R s m args below meth c T locs cells slots) (hx : p.tables.exec = Jvm.exec) (hZ : Z.Warmed39 s.vm) (pc' : Nat) (hpc : pc + 1 = pc') (hd : decode c.code pc = .ok (.baload, 1)) (eT : T.heap = h) {a : Addr} {vs : List Value} (A : Al Z h a .byte vs) {j : Int32} (i : Nat) (hj : j.toInt = (i : Int)) (v : Value) (hv : vs[i]? = some v) (K : Goes p e below (T.setTop (mkF m pc' Ls (v :: st))) P) : Goes p e below (T.setTop (mkF m pc Ls (.int j :: .ref a :: st))) P := by
  subst hpc
  obtain ⟨c, A, r1, r2, r3⟩ := A.cell hj (List.getElem?_eq_some_iff.mp hv).1
  exact go (fun _ q => X.baloadBytes hx (by rw [eT]; exact A.1) (State.isArrayOf_alike hZ.alike A.2.1) A.2.2 r2 (r3.trans hv) (g := mkF m pc Ls (.int j :: .ref a :: st)) rfl rfl hd _ q) K
theorem g_caload (X : Stand p l e R s m args below meth c T locs cells slots) (hx : p.tables.exec = Jvm.exec) (hZ : Z.Warmed39 s.vm) (pc' : Nat) (hpc : pc + 1 = pc') (hd : decode c.code pc = .ok (.caload, 1)) (eT : T.heap = h) {a : Addr} {vs : List Value} (A : Al Z h a .char vs) {j : Int32} (i : Nat) (hj : j.toInt = (i : Int)) (v : Value) (hv : vs[i]? = some v) (K : Goes p e below (T.setTop (mkF m pc' Ls (v :: st))) P) : Goes p e below (T.setTop (mkF m pc Ls (.int j :: .ref a :: st))) P := by
  subst hpc
  obtain ⟨c, A, r1, r2, r3⟩ := A.cell hj (List.getElem?_eq_some_iff.mp hv).1
  exact go (fun _ q => X.caload hx (by rw [eT]; exact A.1) (State.isArrayOf_alike hZ.alike A.2.1) A.2.2 r2 (r3.trans hv) (g := mkF m pc Ls (.int j :: .ref a :: st)) rfl rfl hd _ q) K
theorem g_iastore (X : Stand p l e R s m args below meth c T locs cells slots) (hx : p.tables.exec = Jvm.exec) (hZ : Z.Warmed39 s.vm) (pc' : Nat) (hpc : pc + 1 = pc') (hd : decode c.code pc = .ok (.iastore, 1)) (eT : T.heap = h) {a : Addr} {vs : List Value} (A : Al Z h a .int vs) {j : Int32} {x : Int32} (i : Nat) (hj : j.toInt = (i : Int)) (hi : i < vs.length) (K : ∀ T' h', Stand p l e R s m args below meth c T' (locs ++ [⟨a, i⟩]) cells slots → T'.heap = h' → Wr h h' a i (.int x) → Al Z h' a .int (vs.set i (.int x)) → Goes p e below (T'.setTop (mkF m pc' Ls st)) P) : Goes p e below (T.setTop (mkF m pc Ls (.int x :: .int j :: .ref a :: st))) P := by
  subst hpc
  obtain ⟨c, Ar, r1, r2, r3⟩ := A.cell hj hi
  obtain ⟨T', h', X', e', W', st'⟩ := stI X hx hZ eT Ar r2 (g := mkF m pc Ls (.int x :: .int j :: .ref a :: st)) rfl rfl hd
  rw [(own_ix hj).1] at X' W'
  exact go st' (K T' h' X' e' W' (A.same W'))
theorem g_lastore (X : Stand p l e R s m args below meth c T locs cells slots) (hx : p.tables.exec = Jvm.exec) (hZ : Z.Warmed39 s.vm) (pc' : Nat) (hpc : pc + 1 = pc') (hd : decode c.code pc = .ok (.lastore, 1)) (eT : T.heap = h) {a : Addr} {vs : List Value} (A : Al Z h a .long vs) {j : Int32} {x : Int64} (i : Nat) (hj : j.toInt = (i : Int)) (hi : i < vs.length) (K : ∀ T' h', Stand p l e R s m args below meth c T' (locs ++ [⟨a, i⟩]) cells slots → T'.heap = h' → Wr h h' a i (.long x) → Al Z h' a .long (vs.set i (.long x)) → Goes p e below (T'.setTop (mkF m pc' Ls st)) P) : Goes p e below (T.setTop (mkF m pc Ls (.long x :: .int j :: .ref a :: st))) P := by
  subst hpc
  obtain ⟨c, Ar, r1, r2, r3⟩ := A.cell hj hi
  obtain ⟨T', h', X', e', W', st'⟩ := stJ X hx hZ eT Ar r2 (g := mkF m pc Ls (.long x :: .int j :: .ref a :: st)) rfl rfl hd
  rw [(own_ix hj).1] at X' W'
  exact go st' (K T' h' X' e' W' (A.same W'))
theorem g_bastore (X : Stand p l e R s m args below meth c T locs cells slots) (hx : p.tables.exec = Jvm.exec) (hZ : Z.Warmed39 s.vm) (pc' : Nat) (hpc : pc + 1 = pc') (hd : decode c.code pc = .ok (.bastore, 1)) (eT : T.heap = h) {a : Addr} {vs : List Value} (A : Al Z h a .byte vs) {j : Int32} {x : Int32} (i : Nat) (hj : j.toInt = (i : Int)) (hi : i < vs.length) (K : ∀ T' h', Stand p l e R s m args below meth c T' (locs ++ [⟨a, i⟩]) cells slots → T'.heap = h' → Wr h h' a i (.int (nar .byte x)) → Al Z h' a .byte (vs.set i (.int (nar .byte x))) → Goes p e below (T'.setTop (mkF m pc' Ls st)) P) : Goes p e below (T.setTop (mkF m pc Ls (.int x :: .int j :: .ref a :: st))) P := by
  subst hpc
  obtain ⟨c, Ar, r1, r2, r3⟩ := A.cell hj hi
  obtain ⟨T', h', X', e', W', st'⟩ := stB X hx hZ eT Ar r2 (g := mkF m pc Ls (.int x :: .int j :: .ref a :: st)) rfl rfl hd
  rw [(own_ix hj).1] at X' W'
  exact go st' (K T' h' X' e' W' (A.same W'))
theorem g_castore (X : Stand p l e R s m args below meth c T locs cells slots) (hx : p.tables.exec = Jvm.exec) (hZ : Z.Warmed39 s.vm) (pc' : Nat) (hpc : pc + 1 = pc') (hd : decode c.code pc = .ok (.castore, 1)) (eT : T.heap = h) {a : Addr} {vs : List Value} (A : Al Z h a .char vs) {j : Int32} {x : Int32} (i : Nat) (hj : j.toInt = (i : Int)) (hi : i < vs.length) (K : ∀ T' h', Stand p l e R s m args below meth c T' (locs ++ [⟨a, i⟩]) cells slots → T'.heap = h' → Wr h h' a i (.int (nar .char x)) → Al Z h' a .char (vs.set i (.int (nar .char x))) → Goes p e below (T'.setTop (mkF m pc' Ls st)) P) : Goes p e below (T.setTop (mkF m pc Ls (.int x :: .int j :: .ref a :: st))) P := by
  subst hpc
  obtain ⟨c, Ar, r1, r2, r3⟩ := A.cell hj hi
  obtain ⟨T', h', X', e', W', st'⟩ := stC X hx hZ eT Ar r2 (g := mkF m pc Ls (.int x :: .int j :: .ref a :: st)) rfl rfl hd
  rw [(own_ix hj).1] at X' W'
  exact go st' (K T' h' X' e' W' (A.same W'))
theorem g_newarr (X : Stand p l e R s m args below meth c T locs cells slots) (hx : p.tables.exec = Jvm.exec) (hZ : Z.Warmed39 s.vm) (pc' : Nat) (hpc : pc + 2 = pc') {aty : ArrayType} (w : (Jvm.Cond.arrayClass (newarray.typeOf aty)).before a0 Z = true) (eT : T.heap = h) (hd : decode c.code pc = .ok (.newarray aty, 2)) {n : Int32} (k : Nat) (hn : n.toInt = (k : Int)) (cap : Nat) (hcap : k ≤ cap) (hb : cap * 8 ≤ 536870912) (hc : cells + 1 ≤ R.cells) (hl : slots + cap ≤ R.slots) (ad : String) (had : "[" ++ (newarray.typeOf aty).toString = ad) (K : ∀ T' h' a, a = h.size → Stand p l e R s m args below meth c T' locs (cells + 1) (slots + cap) → T'.heap = h' → Ext h h' → Al Z h' a (newarray.typeOf aty) (List.replicate k (defaultValue (newarray.typeOf aty))) → Exa Z h' a ad → Goes p e below (T'.setTop (mkF m pc' Ls (.ref a :: st))) P) : Goes p e below (T.setTop (mkF m pc Ls (.int n :: st))) P := by
  subst hpc
  obtain ⟨q1, q2⟩ := own_ix hn
  obtain ⟨T', h', cA, X', e', E', A', Ex', st'⟩ := newPE X hx hZ w eT (g := mkF m pc Ls (.int n :: st)) rfl hd rfl q2 (cap := cap) (by rw [q1]; exact hcap) hb hc hl had
  refine go st' (K T' h' _ rfl X' e' E' ⟨_, A', by simp [newA, q1], ?_⟩ Ex')
  rw [List.length_replicate]
  have := Int32.toInt_lt n
  omega
theorem own_narb (x : Int32) : nar .byte x.toInt8.toInt32 = x.toInt8.toInt32 := by show x.toInt8.toInt32.toInt8.toInt32 = _; simp
theorem g_cast (X : Stand p l e R s m args below meth c T locs cells slots) (hx : p.tables.exec = Jvm.exec) (hZ : Z.Warmed39 s.vm) (pc' : Nat) (hpc : pc + 3 = pc') {own K : String} {index : Nat} (hown : s.vm.findClass own = some m.cls) (w : (Jvm.Cond.classLink own index K).before a0 Z = true) (eT : T.heap = h) {a : Addr} (F : Ins Z h a K true) (hd : decode c.code pc = .ok (.checkcast index, 3)) (K2 : ∀ T', Stand p l e R s m args below meth c T' locs cells slots → T'.heap = h → Goes p e below (T'.setTop (mkF m pc' Ls (.ref a :: st))) P) : Goes p e below (T.setTop (mkF m pc Ls (.ref a :: st))) P := by
  subst hpc
  obtain ⟨T', X', e', st'⟩ := castY X hx hZ hown w eT F (g := mkF m pc Ls (.ref a :: st)) rfl rfl hd
  exact go st' (K2 T' X' e')
theorem own_fitc {a : Addr} {ty : FieldType} {vs : List Value} {c : Cell} (A : Arr Z h a c ty) (r : c.slots.toList = vs) (hfit : ∀ v ∈ vs, fits ty v = true) : FitC Z c := fitC_of A fun i hi v hv => hfit v (by rw [← r]; rw [← Array.getElem?_toList] at hv; exact List.mem_of_getElem? hv)
theorem g_clone (X : Stand p l e R s m args below meth c T locs cells slots) (hx : p.tables.exec = Jvm.exec) (hZ : Z.Warmed39 s.vm) (pc' : Nat) (hpc : pc + 3 = pc') {own ad : String} {index : Nat} (hown : s.vm.findClass own = some m.cls) (w1 : (Jvm.Cond.methodLink own index ⟨ad, "clone", "()Ljava/lang/Object;"⟩).before a0 Z = true) (w2 : (Jvm.Cond.sameMethod ad "java/lang/Object" "clone" "()Ljava/lang/Object;").before a0 Z = true) (w3 : (Jvm.Cond.native ⟨"java/lang/Object", "clone", "()Ljava/lang/Object;"⟩).before a0 Z = true) (w4 : (Jvm.Cond.instanceMethod ⟨"java/lang/Object", "clone", "()Ljava/lang/Object;"⟩).before a0 Z = true) (w5 : (Jvm.Cond.selects ad ⟨ad, "clone", "()Ljava/lang/Object;"⟩ ⟨"java/lang/Object", "clone", "()Ljava/lang/Object;"⟩).before a0 Z = true) (w6 : (Jvm.Cond.castable ad "java/lang/Cloneable").before a0 Z = true) (eT : T.heap = h) {a : Addr} {ty : FieldType} {vs : List Value} (A : Al Z h a ty vs) (Ex : Exa Z h a ad) (hfit : ∀ v ∈ vs, fits ty v = true) (hd : decode c.code pc = .ok (.invokevirtual index, 3)) (hsize : Ls.size = c.maxLocals) (hf : 1 ≤ R.frames) (W : Nat) (hW : 2 * 0 + (st.map fun v => v.category).sum ≤ W) (hl : W + 14 ≤ R.locals) (cap : Nat) (hcap : vs.length ≤ cap) (hc : cells + 1 ≤ R.cells) (hs : slots + cap ≤ R.slots) (K : ∀ T' h' b, b = h.size → Stand p l e R s m args below meth c T' locs (cells + 1) (slots + cap) → T'.heap = h' → Ext h h' → Al Z h' b ty vs → Exa Z h' b ad → Goes p e below (T'.setTop (mkF m pc' Ls (.ref b :: st))) P) : Goes p e below (T.setTop (mkF m pc Ls (.ref a :: st))) P := by
  subst hpc
  obtain ⟨c, Ar, r1, r2⟩ := A
  obtain ⟨T', h', X', e', E', A', Ex', st'⟩ := cloneA X hx hZ hown w1 w2 w3 w4 w5 w6 eT Ar Ex (own_fitc Ar r1 hfit) (g := mkF m pc Ls (.ref a :: st)) rfl hsize rfl hd hf hW hl (by rw [← r1] at hcap; simpa using hcap) hc hs
  exact go st' (K T' h' _ rfl X' e' E' ⟨_, A', r1, r2⟩ Ex')
theorem own_arv {a : Addr} {ty : FieldType} {vs : List Value} (d : Value) (A : Al Z h a ty vs) (hfit : ∀ v ∈ vs, fits ty v = true) : ∃ k, Arv Z h a k ty (Int32.ofNat vs.length) vs d := by
  obtain ⟨c, Ar, r1, r2⟩ := A
  have hs : c.slots.size = vs.length := by rw [← r1]; simp
  have h1 : (Int32.ofNat vs.length).toInt = (vs.length : Int) := Int32.toInt_ofNat_of_lt r2
  obtain ⟨q1, q2⟩ := own_ix h1
  have hv : ∀ i, i < c.slots.size → c.slots[i]? = some (vs.getD i d) := fun i hi => by
    rw [← Array.getElem?_toList, r1, List.getD_eq_getElem?_getD, List.getElem?_eq_getElem (by omega)]; rfl
  refine ⟨c.cls, c, Ar, rfl, by rw [hs, q1], q2, hv, fun i hi => hfit _ ?_⟩
  have := hv i hi
  rw [← Array.getElem?_toList, r1] at this
  exact List.mem_of_getElem? this
theorem own_al {a : Addr} {k : ClassId} {ty : FieldType} {z : Int32} {vs : List Value} {d : Value} (A : Arv Z h a k ty z vs d) (hl : vs.length = z.toNatClampNeg) : Al Z h a ty vs := by
  obtain ⟨c, Ar, -, S, M, H, -⟩ := A
  refine ⟨c, Ar, ?_, ?_⟩
  · apply List.ext_getElem?
    intro i
    rw [Array.getElem?_toList]
    by_cases hi : i < c.slots.size
    · rw [H i hi, List.getD_eq_getElem?_getD, List.getElem?_eq_getElem (by omega)]; rfl
    · rw [Array.getElem?_eq_none (by omega), List.getElem?_eq_none (by omega)]
  · have := (back32 M).2; omega
theorem g_acopy (X : Stand p l e R s m args below meth c T locs cells slots) (hx : p.tables.exec = Jvm.exec) (hZ : Z.Warmed39 s.vm) (pc' : Nat) (hpc : pc + 3 = pc') {own : String} {index : Nat} (hown : s.vm.findClass own = some m.cls) (w1 : (Jvm.Cond.methodLink own index Jvm.Stand.acN).before a0 Z = true) (w2 : (Jvm.Cond.native Jvm.Stand.acN).before a0 Z = true) (w3 : (Jvm.Cond.static Jvm.Stand.acN).before a0 Z = true) (w4 : (Jvm.Cond.initialized "java/lang/System").before a0 Z = true) (eT : T.heap = h) {a b : Addr} {ty : FieldType} {vs vd : List Value} (A : Al Z h a ty vs) (B : Al Z h b ty vd) (hp : refKind ty = false) (hfit : ∀ v ∈ vs, fits ty v = true) (hfit2 : ∀ v ∈ vd, fits ty v = true) {nn : Int32} (n : Nat) (hn : nn.toInt = (n : Int)) (h1 : n ≤ vs.length) (h2 : n ≤ vd.length) {n0 : Nat} (N : Fr n0 locs) (ge : n0 ≤ b) (hd : decode c.code pc = .ok (.invokestatic index, 3)) (hsize : Ls.size = c.maxLocals) (hf : 1 ≤ R.frames) (W : Nat) (hW : 2 * 0 + (st.map fun v => v.category).sum ≤ W) (hlo : W + (nativeFrameWords "java/lang/System" "arraycopy" 5 + 11) ≤ R.locals) (K : ∀ T' h' L, Stand p l e R s m args below meth c T' L cells slots → T'.heap = h' → Fr n0 L → Keep h h' [b] → Al Z h' b ty (vs.take n ++ vd.drop n) → Goes p e below (T'.setTop (mkF m pc' Ls st)) P) : Goes p e below (T.setTop (mkF m pc Ls (.int nn :: .int 0 :: .ref b :: .int 0 :: .ref a :: st))) P := by
  subst hpc
  obtain ⟨ka, Aa⟩ := own_arv (.int 0) A hfit
  obtain ⟨kb, Ab⟩ := own_arv (.int 0) B hfit2
  obtain ⟨q1, q2⟩ := own_ix hn
  have l1 : (Int32.ofNat vs.length).toNatClampNeg = vs.length := (own_ix (Int32.toInt_ofNat_of_lt A.choose_spec.2.2)).1
  have l2 : (Int32.ofNat vd.length).toNatClampNeg = vd.length := (own_ix (Int32.toInt_ofNat_of_lt B.choose_spec.2.2)).1
  have z0 : (0 : Int32).toNatClampNeg = 0 := rfl
  obtain ⟨T', h', L, X', e', N', K', A', st'⟩ := cpA X hx hZ hown w1 w2 w3 w4 eT Aa Ab (us := (List.range nn.toNatClampNeg).map fun i => vs.getD ((0 : Int32).toNatClampNeg + i) (.int 0)) (Or.inl ⟨rfl, hp⟩) (sp := 0) (dp := 0) (nn := nn) (by decide) (by decide) q2 (by rw [q1, l1, z0]; omega) (by rw [q1, l2, z0]; omega) rfl (by rw [q1, z0]; omega) N ge (g := mkF m pc Ls (.int nn :: .int 0 :: .ref b :: .int 0 :: .ref a :: st)) rfl hsize rfl hd hf hW hlo
  have hu : vd.take (0 : Int32).toNatClampNeg ++ ((List.range nn.toNatClampNeg).map fun i => vs.getD ((0 : Int32).toNatClampNeg + i) (.int 0)) ++ vd.drop ((0 : Int32).toNatClampNeg + nn.toNatClampNeg) = vs.take n ++ vd.drop n := by
    rw [z0, q1, List.take_zero, List.nil_append, Nat.zero_add]
    congr 1
    apply List.ext_getElem?
    intro i
    by_cases hi : i < n
    · rw [List.getElem?_take_of_lt hi, List.getElem?_map, List.getElem?_range hi, Option.map_some, Nat.zero_add, List.getD_eq_getElem?_getD, List.getElem?_eq_getElem (by omega)]; rfl
    · rw [List.getElem?_eq_none (by simp; omega), List.getElem?_eq_none (by simp; omega)]
  rw [hu] at A'
  exact go st' (K T' h' L X' e' N' K' (own_al A' (by rw [l2]; simp; omega)))
theorem own_eqI {args : Array Value} {first s : State} {o : Option Outcome} {idx : List Nat} {a : Term} {k : Int32} (q : (Jvm.Cond.eq a (Jvm.Term.int k)).value args first o s idx = some true) : a.eval args first o idx s = some (.int k) := by
  obtain ⟨x, y, h1, h2, h3, h4⟩ := cmp_v (Or.inl q)
  have h5 : y = .int k := (Option.some.inj ((Term.int_eval k).symm.trans h2)).symm
  subst h5
  obtain ⟨z, rfl⟩ := h4
  have h6 : z = k := gotT (Cond.eq_ints h1 h2) q
  rw [h1, h6]
theorem own_nar_ref {v : Value} {C : String} (q : v.isRef = true) : narrow (.object C) v = v := by cases v <;> simp [Value.isRef] at q <;> rfl
theorem own_fit_ref {v : Value} {C : String} (q : v.isRef = true) : fits (.object C) v = true := by cases v <;> simp [Value.isRef] at q <;> rfl
theorem own_sixteen (x : Int32) : (x.toBitVec.toNat < 2147483648 ∧ x.toInt = (x.toBitVec.toNat : Int)) ∨ (2147483648 ≤ x.toBitVec.toNat ∧ x.toInt = (x.toBitVec.toNat : Int) - 4294967296) := by
  have h1 : x.toInt = x.toBitVec.toInt := rfl
  have h2 := x.toBitVec.isLt
  rw [h1, BitVec.toInt_eq_toNat_cond]; split <;> omega
end OwnKit

section OwnDbl
open Jvm.Free.Fl
variable {p : Program} {l : Launch} {e : Env} {R : Room} {s : State} {m : MethodId} {args : Array Value} {below : List Frame} {meth : Method} {c : Code} {T : State} {locs : List Loc} {cells slots : Nat} {P : State → Outcome → Prop} {Z : State} {a0 : Array Value} {h : Heap} {pc : Nat} {Ls : Array Slot} {st : List Value}
theorem g_dadd (X : Stand p l e R s m args below meth c T locs cells slots) (hx : p.tables.exec = Jvm.exec) (pc' : Nat) (hpc : pc + 1 = pc') {x y : UInt64} (hd : decode c.code pc = .ok (.dadd, 1)) (hn : NoNaN64 (FP.dadd x y)) (K : Goes p e below (T.setTop (mkF m pc' Ls (.double (FP.dadd x y) :: st))) P) : Goes p e below (T.setTop (mkF m pc Ls (.double y :: .double x :: st))) P := by
  subst hpc; exact go (fun _ q => XS.daddS X.here hx rfl hd rfl hn rfl q) K
theorem g_dsub (X : Stand p l e R s m args below meth c T locs cells slots) (hx : p.tables.exec = Jvm.exec) (pc' : Nat) (hpc : pc + 1 = pc') {x y : UInt64} (hd : decode c.code pc = .ok (.dsub, 1)) (hn : NoNaN64 (FP.dsub x y)) (K : Goes p e below (T.setTop (mkF m pc' Ls (.double (FP.dsub x y) :: st))) P) : Goes p e below (T.setTop (mkF m pc Ls (.double y :: .double x :: st))) P := by
  subst hpc; exact go (fun _ q => XS.dsubS X.here hx rfl hd rfl hn rfl q) K
theorem g_dmul (X : Stand p l e R s m args below meth c T locs cells slots) (hx : p.tables.exec = Jvm.exec) (pc' : Nat) (hpc : pc + 1 = pc') {x y : UInt64} (hd : decode c.code pc = .ok (.dmul, 1)) (hn : NoNaN64 (FP.dmul x y)) (K : Goes p e below (T.setTop (mkF m pc' Ls (.double (FP.dmul x y) :: st))) P) : Goes p e below (T.setTop (mkF m pc Ls (.double y :: .double x :: st))) P := by
  subst hpc; exact go (fun _ q => XS.dmulS X.here hx rfl hd rfl hn rfl q) K
theorem g_ddiv (X : Stand p l e R s m args below meth c T locs cells slots) (hx : p.tables.exec = Jvm.exec) (pc' : Nat) (hpc : pc + 1 = pc') {x y : UInt64} (hd : decode c.code pc = .ok (.ddiv, 1)) (hn : NoNaN64 (FP.ddiv x y)) (K : Goes p e below (T.setTop (mkF m pc' Ls (.double (FP.ddiv x y) :: st))) P) : Goes p e below (T.setTop (mkF m pc Ls (.double y :: .double x :: st))) P := by
  subst hpc; exact go (fun _ q => XS.ddivS X.here hx rfl hd rfl hn rfl q) K
theorem g_i2d (X : Stand p l e R s m args below meth c T locs cells slots) (hx : p.tables.exec = Jvm.exec) (pc' : Nat) (hpc : pc + 1 = pc') {x : Int32} (hd : decode c.code pc = .ok (.i2d, 1))  (K : Goes p e below (T.setTop (mkF m pc' Ls (.double (FP.i2d x) :: st))) P) : Goes p e below (T.setTop (mkF m pc Ls (.int x :: st))) P := by
  subst hpc; exact go (fun _ q => XS.i2dS X.here hx rfl hd rfl rfl q) K
theorem g_l2d (X : Stand p l e R s m args below meth c T locs cells slots) (hx : p.tables.exec = Jvm.exec) (pc' : Nat) (hpc : pc + 1 = pc') {x : Int64} (hd : decode c.code pc = .ok (.l2d, 1))  (K : Goes p e below (T.setTop (mkF m pc' Ls (.double (FP.l2d x) :: st))) P) : Goes p e below (T.setTop (mkF m pc Ls (.long x :: st))) P := by
  subst hpc; exact go (fun _ q => XS.l2dS X.here hx rfl hd rfl rfl q) K
theorem g_dconst0 (X : Stand p l e R s m args below meth c T locs cells slots) (hx : p.tables.exec = Jvm.exec) (pc' : Nat) (hpc : pc + 1 = pc') (v : UInt64) (hv : FP.dconst0 = v) (hd : decode c.code pc = .ok (.dconst 0, 1))  (K : Goes p e below (T.setTop (mkF m pc' Ls (.double v :: st))) P) : Goes p e below (T.setTop (mkF m pc Ls (st))) P := by
  subst hpc; exact go (fun _ q => XS.dconst0 X.here hx rfl hd hv q) K
theorem g_dconst1 (X : Stand p l e R s m args below meth c T locs cells slots) (hx : p.tables.exec = Jvm.exec) (pc' : Nat) (hpc : pc + 1 = pc') (v : UInt64) (hv : FP.dconst1 = v) (hd : decode c.code pc = .ok (.dconst 1, 1))  (K : Goes p e below (T.setTop (mkF m pc' Ls (.double v :: st))) P) : Goes p e below (T.setTop (mkF m pc Ls (st))) P := by
  subst hpc; exact go (fun _ q => XS.dconst1 X.here hx rfl hd hv q) K
theorem g_dcmp (X : Stand p l e R s m args below meth c T locs cells slots) (hx : p.tables.exec = Jvm.exec) (pc' : Nat) (hpc : pc + 1 = pc') {o : CmpOp} {x y : UInt64} (v : Int32) (hv : cmpValue (FP.dcmp x y) o = v) (hd : decode c.code pc = .ok (.dcmp o, 1))  (K : Goes p e below (T.setTop (mkF m pc' Ls (.int v :: st))) P) : Goes p e below (T.setTop (mkF m pc Ls (.double y :: .double x :: st))) P := by
  subst hpc; exact go (fun _ q => XS.dcmpS X.here hx rfl hd rfl hv q) K
theorem g_dload_n (X : Stand p l e R s m args below meth c T locs cells slots) (hx : p.tables.exec = Jvm.exec) (pc' : Nat) (hpc : pc + 1 = pc') {k : Fin 4} {v : UInt64} (hd : decode c.code pc = .ok (.dload_n k, 1)) (hl : Ls[k.val]? = some (.val (.double v))) (K : Goes p e below (T.setTop (mkF m pc' Ls (.double v :: st))) P) : Goes p e below (T.setTop (mkF m pc Ls (st))) P := by
  subst hpc; exact go (fun _ q => XS.dloadN X.here hx rfl hd hl q) K
theorem g_dload (X : Stand p l e R s m args below meth c T locs cells slots) (hx : p.tables.exec = Jvm.exec) (pc' : Nat) (hpc : pc + 2 = pc') {k : Nat} {v : UInt64} (hd : decode c.code pc = .ok (.dload k, 2)) (hl : Ls[k]? = some (.val (.double v))) (K : Goes p e below (T.setTop (mkF m pc' Ls (.double v :: st))) P) : Goes p e below (T.setTop (mkF m pc Ls (st))) P := by
  subst hpc; exact go (fun _ q => XS.dload X.here hx rfl hd hl q) K
theorem g_dstore_n (X : Stand p l e R s m args below meth c T locs cells slots) (hx : p.tables.exec = Jvm.exec) (pc' : Nat) (hpc : pc + 1 = pc') {k : Fin 4} {x : UInt64} (hd : decode c.code pc = .ok (.dstore_n k, 1)) (l' : Array Slot) (hl : storeLocals Ls k.val (.double x) = some l') (K : Goes p e below (T.setTop (mkF m pc' l' st)) P) : Goes p e below (T.setTop (mkF m pc Ls (.double x :: st))) P := by
  subst hpc; exact go (fun _ q => XS.dstoreN X.here hx rfl hd rfl hl q) K
theorem g_dstore (X : Stand p l e R s m args below meth c T locs cells slots) (hx : p.tables.exec = Jvm.exec) (pc' : Nat) (hpc : pc + 2 = pc') {k : Nat} {x : UInt64} (hd : decode c.code pc = .ok (.dstore k, 2)) (l' : Array Slot) (hl : storeLocals Ls k (.double x) = some l') (K : Goes p e below (T.setTop (mkF m pc' l' st)) P) : Goes p e below (T.setTop (mkF m pc Ls (.double x :: st))) P := by
  subst hpc; exact go (fun _ q => XS.dstore X.here hx rfl hd rfl hl q) K
theorem g_retD {z : UInt64} {kc ks : Nat} {Q : Option Value → Heap → List Loc → Prop} (X : Stand p l e R s m args below meth c T locs cells slots) (hx : p.tables.exec = Jvm.exec) (hret : meth.sig.returnType = some .double) (hlk : meth.locks = false) (hd : decode c.code pc = .ok (.dreturn, 1)) (hQ : Q (some (.double z)) T.heap locs) (hc : cells ≤ kc) (hs : slots ≤ ks) : Goes p e below (T.setTop (mkF m pc Ls (.double z :: st))) (Endz s kc ks Q) :=
  g_ret X hx hret hlk rfl (Or.inr (Or.inr (Or.inl ⟨rfl, rfl, z, rfl⟩))) hd hQ hc hs
theorem g_daload (X : Stand p l e R s m args below meth c T locs cells slots) (hx : p.tables.exec = Jvm.exec) (hZ : Z.Warmed39 s.vm) (pc' : Nat) (hpc : pc + 1 = pc') (hd : decode c.code pc = .ok (.daload, 1)) (eT : T.heap = h) {a : Addr} {vs : List Value} (A : Al Z h a .double vs) {j : Int32} (i : Nat) (hj : j.toInt = (i : Int)) (v : Value) (hv : vs[i]? = some v) (K : Goes p e below (T.setTop (mkF m pc' Ls (v :: st))) P) : Goes p e below (T.setTop (mkF m pc Ls (.int j :: .ref a :: st))) P := by
  subst hpc
  obtain ⟨c, A, r1, r2, r3⟩ := A.cell hj (List.getElem?_eq_some_iff.mp hv).1
  exact go (fun _ q => X.daload hx (by rw [eT]; exact A.1) (State.isArrayOf_alike hZ.alike A.2.1) A.2.2 r2 (r3.trans hv) (g := mkF m pc Ls (.int j :: .ref a :: st)) rfl rfl hd _ q) K
theorem g_dastore (X : Stand p l e R s m args below meth c T locs cells slots) (hx : p.tables.exec = Jvm.exec) (hZ : Z.Warmed39 s.vm) (pc' : Nat) (hpc : pc + 1 = pc') (hd : decode c.code pc = .ok (.dastore, 1)) (eT : T.heap = h) {a : Addr} {vs : List Value} (A : Al Z h a .double vs) {j : Int32} {x : UInt64} (i : Nat) (hj : j.toInt = (i : Int)) (hi : i < vs.length) (K : ∀ T' h', Stand p l e R s m args below meth c T' (locs ++ [⟨a, i⟩]) cells slots → T'.heap = h' → Wr h h' a i (.double x) → Al Z h' a .double (vs.set i (.double x)) → Goes p e below (T'.setTop (mkF m pc' Ls st)) P) : Goes p e below (T.setTop (mkF m pc Ls (.double x :: .int j :: .ref a :: st))) P := by
  subst hpc
  obtain ⟨c, Ar, r1, r2, r3⟩ := A.cell hj hi
  obtain ⟨T', h', X', e', W', st'⟩ := stD X hx hZ eT Ar r2 (g := mkF m pc Ls (.double x :: .int j :: .ref a :: st)) rfl rfl hd
  rw [(own_ix hj).1] at X' W'
  exact go st' (K T' h' X' e' W' (A.same W'))
end OwnDbl

def own_bit (p : Nat) : Int64 := (1 : Int64) <<< ((Int32.ofNat p).toInt64 &&& 63)
def own_word : List Nat → Nat → Int64
  | [], _ => 0
  | p :: S, i => if p / 64 = i then own_word S i ||| own_bit p else own_word S i
def own_ws (S : List Nat) : List Value := (List.range 128).map fun i => .long (own_word S i)
theorem own_ofi (k : Nat) (hk : k < 2147483648) : (Int32.ofNat k).toInt = (k : Int) := Int32.toInt_ofNat_of_lt hk
theorem own_ofNat (x : Int32) (k : Nat) (h : x.toInt = (k : Int)) : x = Int32.ofNat k := by
  have h3 := rng32 x
  apply Int32.toInt_inj.mp
  rw [Int32.toInt_ofNat_of_lt (by omega)]; exact h
theorem own_ws_len (S : List Nat) : (own_ws S).length = 128 := by simp [own_ws]
theorem own_ws_get (S : List Nat) (i : Nat) (hi : i < 128) : (own_ws S)[i]? = some (.long (own_word S i)) := by
  unfold own_ws; rw [List.getElem?_map, List.getElem?_range hi]; rfl
theorem own_ws_nil : own_ws [] = List.replicate 128 (.long 0) := by
  apply List.ext_getElem?
  intro i
  by_cases hi : i < 128
  · rw [own_ws_get _ _ hi, List.getElem?_replicate, if_pos hi]; rfl
  · rw [List.getElem?_eq_none (by rw [own_ws_len]; omega), List.getElem?_eq_none (by simp; omega)]
theorem own_ws_set (S : List Nat) (p : Nat) (hp : p < 8192) : (own_ws S).set (p / 64) (.long (own_word S (p / 64) ||| own_bit p)) = own_ws (p :: S) := by
  apply List.ext_getElem?
  intro i
  by_cases hi : i < 128
  · rw [own_ws_get _ _ hi]
    by_cases q : p / 64 = i
    · subst q; rw [List.getElem?_set_self (by rw [own_ws_len]; exact hi)]; rw [own_word, if_pos rfl]
    · rw [List.getElem?_set_ne q, own_ws_get _ _ hi]; rw [own_word, if_neg q]
  · rw [List.getElem?_eq_none (by rw [List.length_set, own_ws_len]; omega), List.getElem?_eq_none (by rw [own_ws_len]; omega)]
theorem own_idx (p : Nat) (hp : p < 8192) : (XT.ushr (Int32.ofNat p) (6 : Int32)).toInt = ((p / 64 : Nat) : Int) := by
  have h : (XT.ushr (Int32.ofNat p) (6 : Int32)).toInt = ((Int32.ofNat p).toInt % 4294967296) / (2 ^ 6 : Nat) := c_iushr _ 6 6 (by decide) (by decide)
  rw [h, own_ofi p (by omega)]; omega
theorem own_sh (p : Nat) (hp : p < 8192) : ((Int32.ofNat p).toInt64 &&& 63).toBitVec = BitVec.ofNat 64 (p % 64) := by
  rw [← BitVec.toNat_inj]
  show ((Int32.ofNat p).toInt64.toBitVec &&& 63#64).toNat = _
  have e : (Int32.ofNat p).toInt64 = Int64.ofNat p := by
    apply Int64.toInt_inj.mp
    rw [Int32.toInt_toInt64, own_ofi p (by omega), Int64.toInt_ofNat_of_lt (by omega)]
  rw [e]
  have e2 : (Int64.ofNat p).toBitVec.toNat = p := by
    show (BitVec.ofNat 64 p).toNat = p
    rw [BitVec.toNat_ofNat]; omega
  rw [BitVec.toNat_and, e2, show (63#64).toNat = 2 ^ 6 - 1 from rfl, Nat.and_two_pow_sub_one_eq_mod, BitVec.toNat_ofNat]
  omega
theorem own_shl (x : Int64) (p : Nat) (hp : p < 8192) : (x <<< ((Int32.ofNat p).toInt64 &&& 63)).toBitVec = x.toBitVec <<< (p % 64) := by
  have h : (x <<< ((Int32.ofNat p).toInt64 &&& 63)).toBitVec = x.toBitVec <<< (((Int32.ofNat p).toInt64 &&& 63).toBitVec.smod 64#64) := rfl
  rw [h, own_sh p hp, BitVec.shiftLeft_eq']
  exact congrArg (fun k => x.toBitVec <<< k) (smod64 _ (by omega))
theorem own_bit_get (p : Nat) (hp : p < 8192) (j : Nat) (hj : j < 64) : (own_bit p).toBitVec.getLsbD j = decide (j = p % 64) := by
  unfold own_bit
  rw [own_shl _ _ hp, BitVec.getLsbD_shiftLeft]
  show (decide (j < 64) && !decide (j < p % 64) && (1#64).getLsbD (j - p % 64)) = _
  by_cases q : j = p % 64
  · subst q; simp [hj]
  · by_cases q2 : j < p % 64
    · simp [q2, q]
    · have : (1#64).getLsbD (j - p % 64) = false := by
        rw [BitVec.getLsbD_one]; simp; omega
      simp [this, q]
theorem own_word_get : ∀ (S : List Nat) (_ : ∀ p ∈ S, p < 8192) (i j : Nat), j < 64 → ((own_word S i).toBitVec.getLsbD j = true ↔ 64 * i + j ∈ S) := by
  intro S
  induction S with
  | nil => intro _ i j _; simp [own_word]
  | cons p S ih =>
    intro hS i j hj
    have hp := hS p (List.mem_cons_self ..)
    have ih' := ih (fun q hq => hS q (List.mem_cons_of_mem _ hq)) i j hj
    rw [List.mem_cons, own_word]
    by_cases q : p / 64 = i
    · rw [if_pos q, Int64.toBitVec_or, BitVec.getLsbD_or, Bool.or_eq_true, ih', own_bit_get p hp j hj, decide_eq_true_iff]
      constructor
      · rintro (h | h)
        · exact Or.inr h
        · exact Or.inl (by omega)
      · rintro (h | h)
        · exact Or.inr (by omega)
        · exact Or.inl h
    · rw [if_neg q, ih']
      constructor
      · exact Or.inr
      · rintro (h | h)
        · omega
        · exact h
theorem own_nz (x : Int64) : ¬ x = 0 ↔ ∃ j, j < 64 ∧ x.toBitVec.getLsbD j = true := by
  constructor
  · intro h
    apply Classical.byContradiction
    intro q
    apply h
    apply Int64.toBitVec_inj.mp
    apply BitVec.eq_of_getLsbD_eq
    intro j hj
    show _ = (0#64).getLsbD j
    rw [BitVec.getLsbD_zero]
    cases e : x.toBitVec.getLsbD j with
    | false => rfl
    | true => exact absurd ⟨j, hj, e⟩ q
  · rintro ⟨j, hj, h⟩ q
    rw [q] at h
    have : (0#64).getLsbD j = true := h
    rw [BitVec.getLsbD_zero] at this
    cases this

open Jvm.Free.Fl
theorem own_dc0 : FP.dconst0 = 0 := by decide +kernel
theorem own_nn0 : NoNaN64 0 := by unfold NoNaN64; decide +kernel
def own_up (G : Nat → UInt64) (p : Nat) (z : UInt64) : Nat → UInt64 := fun i => if i = p then z else G i
def own_ds (G : Nat → UInt64) : List Value := (List.range 8192).map fun i => .double (G i)
theorem own_ds_len (G : Nat → UInt64) : (own_ds G).length = 8192 := by simp [own_ds]
theorem own_ds_get (G : Nat → UInt64) (i : Nat) (hi : i < 8192) : (own_ds G)[i]? = some (.double (G i)) := by
  unfold own_ds; rw [List.getElem?_map, List.getElem?_range hi]; rfl
theorem own_ds_zero : own_ds (fun _ => 0) = List.replicate 8192 (defaultValue .double) := by
  apply List.ext_getElem?
  intro i
  by_cases hi : i < 8192
  · rw [own_ds_get _ _ hi, List.getElem?_replicate, if_pos hi]; rfl
  · rw [List.getElem?_eq_none (by rw [own_ds_len]; omega), List.getElem?_eq_none (by rw [List.length_replicate]; omega)]
theorem own_ds_set (G : Nat → UInt64) (p : Nat) (hp : p < 8192) (z : UInt64) : (own_ds G).set p (.double z) = own_ds (own_up G p z) := by
  apply List.ext_getElem?
  intro i
  by_cases hi : i < 8192
  · rw [own_ds_get _ _ hi]
    by_cases q : p = i
    · subst q; rw [List.getElem?_set_self (by rw [own_ds_len]; exact hi)]; unfold own_up; rw [if_pos rfl]
    · rw [List.getElem?_set_ne q, own_ds_get _ _ hi]; unfold own_up; rw [if_neg (fun z => q z.symm)]
  · rw [List.getElem?_eq_none (by rw [List.length_set, own_ds_len]; omega), List.getElem?_eq_none (by rw [own_ds_len]; omega)]
theorem own_up_nn {G : Nat → UInt64} (hG : ∀ p, NoNaN64 (G p)) (q : Nat) {z : UInt64} (hz : NoNaN64 z) : ∀ p, NoNaN64 (own_up G q z p) := by
  intro p; unfold own_up
  by_cases h : p = q
  · rw [if_pos h]; exact hz
  · rw [if_neg h]; exact hG p
def own_st (S : List Nat) (xs : Nat → Nat) (cs : Nat → UInt64) (i : Nat) (G : Nat → UInt64) : Nat → UInt64 := if xs i ∈ S then own_up G (xs i) (FP.dadd (G (xs i)) (cs i)) else G
def own_run (S : List Nat) (xs : Nat → Nat) (cs : Nat → UInt64) : Nat → Nat → (Nat → UInt64) → Nat → UInt64
  | 0, _, G => G
  | d + 1, i, G => own_run S xs cs d (i + 1) (own_st S xs cs i G)
def own_4 (x0 x1 x2 x3 : Nat) : Nat → Nat
  | 0 => x0
  | 1 => x1
  | 2 => x2
  | _ => x3
def own_c4 (x0 x1 x2 x3 : UInt64) : Nat → UInt64
  | 0 => x0
  | 1 => x1
  | 2 => x2
  | _ => x3
theorem own_bitz (S : List Nat) (hS : ∀ p ∈ S, p < 8192) (p : Nat) (hp : p < 8192) : own_word S (p / 64) &&& own_bit p = 0 ↔ ¬ p ∈ S := by
  have key : ¬ (own_word S (p / 64) &&& own_bit p) = 0 ↔ p ∈ S := by
    rw [own_nz]
    constructor
    · rintro ⟨j, hj, h⟩
      rw [Int64.toBitVec_and, BitVec.getLsbD_and, Bool.and_eq_true, own_word_get S hS _ j hj, own_bit_get p hp j hj, decide_eq_true_iff] at h
      have h1 := h.1
      rw [show 64 * (p / 64) + j = p by omega] at h1
      exact h1
    · intro h
      refine ⟨p % 64, by omega, ?_⟩
      rw [Int64.toBitVec_and, BitVec.getLsbD_and, Bool.and_eq_true, own_word_get S hS _ _ (by omega), own_bit_get p hp _ (by omega), decide_eq_true_iff]
      exact ⟨by rw [show 64 * (p / 64) + p % 64 = p by omega]; exact h, rfl⟩
  constructor
  · intro h q; exact key.mpr q h
  · intro h; exact Classical.byContradiction fun q => h (key.mp q)
theorem own_asub (x y : Int32) : x + y - x = y := by
  rw [Int32.add_comm]; exact Int32.add_sub_cancel y x
theorem own_g4 {st : Int32} (xs : Nat → Nat) (i : Nat) (hi : i < 4) : ([.int (st + Int32.ofNat (xs 0)), .int (st + Int32.ofNat (xs 1)), .int (st + Int32.ofNat (xs 2)), .int (st + Int32.ofNat (xs 3))] : List Value)[i]? = some (.int (st + Int32.ofNat (xs i))) := by
  match i, hi with
  | 0, _ => rfl
  | 1, _ => rfl
  | 2, _ => rfl
  | 3, _ => rfl
theorem own_p4 (xs : Nat → Nat) (i : Nat) (hi : i < 4) : ([.int (Int32.ofNat (xs 0)), .int (Int32.ofNat (xs 1)), .int (Int32.ofNat (xs 2)), .int (Int32.ofNat (xs 3))] : List Value)[i]? = some (.int (Int32.ofNat (xs i))) := by
  match i, hi with
  | 0, _ => rfl
  | 1, _ => rfl
  | 2, _ => rfl
  | 3, _ => rfl
theorem own_d4 (cs : Nat → UInt64) (i : Nat) (hi : i < 4) : ([.double (cs 0), .double (cs 1), .double (cs 2), .double (cs 3)] : List Value)[i]? = some (.double (cs i)) := by
  match i, hi with
  | 0, _ => rfl
  | 1, _ => rfl
  | 2, _ => rfl
  | 3, _ => rfl
theorem own_4_lt {x0 x1 x2 x3 : Nat} (h0 : x0 < 8192) (h1 : x1 < 8192) (h2 : x2 < 8192) (h3 : x3 < 8192) (i : Nat) : own_4 x0 x1 x2 x3 i < 8192 := by
  match i with
  | 0 => exact h0
  | 1 => exact h1
  | 2 => exact h2
  | _ + 3 => exact h3
def own_ex (pp ff tt k x : Int32) (c s : UInt64) : UInt64 := if k < ff then s else if k < tt then (if x = pp then FP.dadd s c else s) else s
theorem own_ex_nn (pp ff tt k x : Int32) {c s : UInt64} (hc : Fin64 c) (hs : NoNaN64 s) : NoNaN64 (own_ex pp ff tt k x c s) := by
  unfold own_ex
  split
  · exact hs
  · split
    · split
      · exact dadd_out hs hc
      · exact hs
    · exact hs
def own_all (pp ff tt x0 x1 x2 x3 : Int32) (c0 c1 c2 c3 : UInt64) : UInt64 := own_ex pp ff tt 3 x3 c3 (own_ex pp ff tt 2 x2 c2 (own_ex pp ff tt 1 x1 c1 (own_ex pp ff tt 0 x0 c0 0)))
def own_expd (pp ff tt aa bb x0 x1 x2 x3 : Int32) (c0 c1 c2 c3 : UInt64) : UInt64 := if pp = aa ∨ pp = bb then own_all pp ff tt x0 x1 x2 x3 c0 c1 c2 c3 else 0
theorem own_expd_nn (pp ff tt aa bb x0 x1 x2 x3 : Int32) {c0 c1 c2 c3 : UInt64} (h0 : Fin64 c0) (h1 : Fin64 c1) (h2 : Fin64 c2) (h3 : Fin64 c3) : NoNaN64 (own_expd pp ff tt aa bb x0 x1 x2 x3 c0 c1 c2 c3) := by
  unfold own_expd own_all
  split
  · exact own_ex_nn _ _ _ _ _ h3 (own_ex_nn _ _ _ _ _ h2 (own_ex_nn _ _ _ _ _ h1 (own_ex_nn _ _ _ _ _ h0 own_nn0)))
  · exact own_nn0
def own_fold (S : List Nat) (xs : Nat → Nat) (cs : Nat → UInt64) (p : Nat) : Nat → Nat → UInt64 → UInt64
  | 0, _, s => s
  | d + 1, i, s => own_fold S xs cs p d (i + 1) (if xs i ∈ S ∧ xs i = p then FP.dadd s (cs i) else s)
theorem own_run_p (S : List Nat) (xs : Nat → Nat) (cs : Nat → UInt64) (p : Nat) : ∀ (d i : Nat) (G : Nat → UInt64), own_run S xs cs d i G p = own_fold S xs cs p d i (G p) := by
  intro d
  induction d with
  | zero => intro i G; rfl
  | succ d ih =>
    intro i G
    rw [own_run, own_fold, ih]
    congr 1
    unfold own_st
    by_cases h : xs i ∈ S
    · rw [if_pos h]; unfold own_up
      by_cases q : p = xs i
      · rw [if_pos q, if_pos ⟨h, q.symm⟩, q]
      · rw [if_neg q, if_neg (fun z => q z.2.symm)]
    · rw [if_neg h, if_neg (fun z => h z.1)]
theorem own_fold_out (S : List Nat) (xs : Nat → Nat) (cs : Nat → UInt64) (p : Nat) (hp : ¬ p ∈ S) : ∀ (d i : Nat) (s : UInt64), own_fold S xs cs p d i s = s := by
  intro d
  induction d with
  | zero => intro i s; rfl
  | succ d ih => intro i s; rw [own_fold, ih, if_neg (fun (z : xs i ∈ S ∧ xs i = p) => hp (z.2 ▸ z.1))]
def own_fol2 (xs : Nat → Nat) (cs : Nat → UInt64) (p : Nat) : Nat → Nat → UInt64 → UInt64
  | 0, _, s => s
  | d + 1, i, s => own_fol2 xs cs p d (i + 1) (if xs i = p then FP.dadd s (cs i) else s)
theorem own_fold_in (S : List Nat) (xs : Nat → Nat) (cs : Nat → UInt64) (p : Nat) (hp : p ∈ S) : ∀ (d i : Nat) (s : UInt64), own_fold S xs cs p d i s = own_fol2 xs cs p d i s := by
  intro d
  induction d with
  | zero => intro i s; rfl
  | succ d ih =>
    intro i s
    rw [own_fold, own_fol2, ih]
    congr 1
    by_cases q : xs i = p
    · rw [if_pos q, if_pos ⟨q ▸ hp, q⟩]
    · rw [if_neg q, if_neg (fun z => q z.2)]
theorem own_ofi_eq {a b : Nat} (ha : a < 8192) (hb8 : b < 8192) : Int32.ofNat a = Int32.ofNat b ↔ a = b := by
  constructor
  · intro h
    have q := congrArg Int32.toInt h
    rw [own_ofi a (by omega), own_ofi b (by omega)] at q
    omega
  · intro h; rw [h]
theorem own_ofi_lt {a b : Nat} (ha : a < 8192) (hb8 : b < 8192) : Int32.ofNat a < Int32.ofNat b ↔ a < b := by
  rw [Int32.lt_iff_toInt_lt, own_ofi a (by omega), own_ofi b (by omega)]; omega
theorem own_ex_n {p f t k x : Nat} (hp : p < 8192) (hf : f < 8192) (ht : t < 8192) (hk : k < 8192) (hx : x < 8192) (c s : UInt64) : own_ex (Int32.ofNat p) (Int32.ofNat f) (Int32.ofNat t) (Int32.ofNat k) (Int32.ofNat x) c s = if k < f then s else if k < t then (if x = p then FP.dadd s c else s) else s := by
  unfold own_ex
  simp only [own_ofi_lt hk hf, own_ofi_lt hk ht, own_ofi_eq hx hp]
theorem own_final {p f t ma mb x0 x1 x2 x3 : Nat} (c0 c1 c2 c3 : UInt64) (hp : p < 8192) (hf : f < 4) (ht : t < 5) (ha : ma < 8192) (hb8 : mb < 8192) (h0 : x0 < 8192) (h1 : x1 < 8192) (h2 : x2 < 8192) (h3 : x3 < 8192) :
    own_run [mb, ma] (own_4 x0 x1 x2 x3) (own_c4 c0 c1 c2 c3) (t - f) f (fun _ => 0) p = own_expd (Int32.ofNat p) (Int32.ofNat f) (Int32.ofNat t) (Int32.ofNat ma) (Int32.ofNat mb) (Int32.ofNat x0) (Int32.ofNat x1) (Int32.ofNat x2) (Int32.ofNat x3) c0 c1 c2 c3 := by
  rw [own_run_p]
  unfold own_expd
  simp only [own_ofi_eq hp ha, own_ofi_eq hp hb8]
  by_cases q : p = ma ∨ p = mb
  · rw [if_pos q, own_fold_in _ _ _ _ (by simp only [List.mem_cons, List.not_mem_nil, or_false]; exact q.symm)]
    unfold own_all
    rw [show (3 : Int32) = Int32.ofNat 3 from rfl, show (2 : Int32) = Int32.ofNat 2 from rfl, show (1 : Int32) = Int32.ofNat 1 from rfl, show (0 : Int32) = Int32.ofNat 0 from rfl]
    rw [own_ex_n hp (by omega) (by omega) (by omega) h3, own_ex_n hp (by omega) (by omega) (by omega) h2, own_ex_n hp (by omega) (by omega) (by omega) h1, own_ex_n hp (by omega) (by omega) (by omega) h0]
    have ef : f = 0 ∨ f = 1 ∨ f = 2 ∨ f = 3 := by omega
    have et : t = 0 ∨ t = 1 ∨ t = 2 ∨ t = 3 ∨ t = 4 := by omega
    rcases ef with rfl | rfl | rfl | rfl <;> rcases et with rfl | rfl | rfl | rfl | rfl <;> simp [own_fol2, own_4, own_c4]
  · rw [if_neg q, own_fold_out _ _ _ _ (by simp only [List.mem_cons, List.not_mem_nil, or_false]; exact fun z => q z.symm)]
theorem own_msk (x mk : Int32) (h : mk = 8191 ∨ mk = 3) : ∃ k : Nat, x &&& mk = Int32.ofNat k ∧ k < 8192 := by
  rcases h with rfl | rfl
  · have q := c_mask x 8191 13 (by decide) (by decide)
    exact ⟨(x &&& 8191).toInt.toNat, own_ofNat _ _ (by omega), by omega⟩
  · have q := c_mask x 3 2 (by decide) (by decide)
    exact ⟨(x &&& 3).toInt.toNat, own_ofNat _ _ (by omega), by omega⟩
theorem own_m3 (x : Int32) : ∃ k : Nat, x &&& (3 : Int32) = Int32.ofNat k ∧ k < 4 := by
  have q := c_mask x 3 2 (by decide) (by decide)
  exact ⟨(x &&& 3).toInt.toNat, own_ofNat _ _ (by omega), by omega⟩
theorem own_m5 (x : Int32) : ∃ k : Nat, XT.ushr x (5 : Int32) % (5 : Int32) = Int32.ofNat k ∧ k < 5 := by
  have h : (XT.ushr x (5 : Int32)).toInt = (x.toInt % 4294967296) / (2 ^ 5 : Nat) := c_iushr _ 5 5 (by decide) (by decide)
  have h5 : (5 : Int32).toInt = 5 := rfl
  have q := (c_iremV (XT.ushr x 5) 5).1 (by omega) (by omega)
  exact ⟨(XT.ushr x 5 % 5).toInt.toNat, own_ofNat _ _ (by omega), by omega⟩

theorem d1_0 : decode prog_174_method_1_code 0 = .ok (.aload_n 0, 1) := by decide +kernel
theorem d1_1 : decode prog_174_method_1_code 1 = .ok (.invokespecial 1, 3) := by decide +kernel
theorem d1_4 : decode prog_174_method_1_code 4 = .ok (.aload_n 0, 1) := by decide +kernel
theorem d1_5 : decode prog_174_method_1_code 5 = .ok (.sipush 8192, 3) := by decide +kernel
theorem d1_8 : decode prog_174_method_1_code 8 = .ok (.newarray .double, 2) := by decide +kernel
theorem d1_10 : decode prog_174_method_1_code 10 = .ok (.putfield 9, 3) := by decide +kernel
theorem d1_13 : decode prog_174_method_1_code 13 = .ok (.aload_n 0, 1) := by decide +kernel
theorem d1_14 : decode prog_174_method_1_code 14 = .ok (.sipush 128, 3) := by decide +kernel
theorem d1_17 : decode prog_174_method_1_code 17 = .ok (.newarray .long, 2) := by decide +kernel
theorem d1_19 : decode prog_174_method_1_code 19 = .ok (.putfield 15, 3) := by decide +kernel
theorem d1_22 : decode prog_174_method_1_code 22 = .ok (.aload_n 0, 1) := by decide +kernel
theorem d1_23 : decode prog_174_method_1_code 23 = .ok (.iconst 0, 1) := by decide +kernel
theorem d1_24 : decode prog_174_method_1_code 24 = .ok (.newarray .int, 2) := by decide +kernel
theorem d1_26 : decode prog_174_method_1_code 26 = .ok (.putfield 19, 3) := by decide +kernel
theorem d1_29 : decode prog_174_method_1_code 29 = .ok (.aload_n 0, 1) := by decide +kernel
theorem d1_30 : decode prog_174_method_1_code 30 = .ok (.iconst 0, 1) := by decide +kernel
theorem d1_31 : decode prog_174_method_1_code 31 = .ok (.newarray .double, 2) := by decide +kernel
theorem d1_33 : decode prog_174_method_1_code 33 = .ok (.putfield 23, 3) := by decide +kernel
theorem d1_36 : decode prog_174_method_1_code 36 = .ok (.return_, 1) := by decide +kernel
theorem pf_0 : plainFor (⟨"com/example/tallyrank/tallyrank/search/ScoreWindows", "<init>", "()V"⟩ : MethodName) = true := by first | exact plainFor_of_name (by first | (simp [plainName, overriddenIn]; done) | decide +kernel) | decide +kernel
theorem pd_0 : parseMethodDescriptor "()V" = some ⟨[], none⟩ := by decide +kernel
theorem ef_1_rmI (m : MethodId) (a1 : Addr) (u_scores : Value) (u_scored : Value) (u_foundPlaces : Value) (u_foundContributions : Value)  : entryFrame m #[(.ref a1)] 1 = mkF m 0 #[.val (.ref a1)] [] := by first | (simp [entryFrame, mkF, argsToLocals, Value.category, maxLocals]; done) | rfl
def Q_rmI (Z : State) (a1 : Addr) (u_scores : Value) (u_scored : Value) (u_foundPlaces : Value) (u_foundContributions : Value) (h0 : Heap) (n0 : Nat) (v : Option Value) (h : Heap) (L : List Loc) : Prop := v = none ∧ Fr n0 L ∧ Keep h0 h [a1] ∧ Exa Z h a1 "com/example/tallyrank/tallyrank/search/ScoreWindows" ∧ ∃ sd sc, Fld Z h a1 "com/example/tallyrank/tallyrank/search/ScoreWindows" "scored" "[J" (.ref sd) ∧ Fld Z h a1 "com/example/tallyrank/tallyrank/search/ScoreWindows" "scores" "[D" (.ref sc) ∧ Al Z h sd .long (List.replicate 128 (.long 0)) ∧ Al Z h sc .double (List.replicate 8192 (defaultValue .double)) ∧ h0.size ≤ sd ∧ n0 ≤ sd ∧ h0.size ≤ sc ∧ n0 ≤ sc ∧ sd ≠ sc
set_option maxRecDepth 65536 in
set_option maxHeartbeats 40000000 in
theorem rmI (l : Launch) (Z : State) (a0 : Array Value) (hw : ∀ d ∈ tables_1, d.before a0 Z = true) (ws : List Jvm.Cond) (a1 : Addr) (u_scores : Value) (u_scored : Value) (u_foundPlaces : Value) (u_foundContributions : Value) (h0 : Heap) (n0 : Nat) (Z0 : n0 ≤ h0.size) (E1 : Exa Z h0 a1 "com/example/tallyrank/tallyrank/search/ScoreWindows") (g1 : n0 ≤ a1) (F_scores : Fld Z h0 a1 "com/example/tallyrank/tallyrank/search/ScoreWindows" "scores" "[D" u_scores) (F_scored : Fld Z h0 a1 "com/example/tallyrank/tallyrank/search/ScoreWindows" "scored" "[J" u_scored) (F_foundPlaces : Fld Z h0 a1 "com/example/tallyrank/tallyrank/search/ScoreWindows" "foundPlaces" "[I" u_foundPlaces) (F_foundContributions : Fld Z h0 a1 "com/example/tallyrank/tallyrank/search/ScoreWindows" "foundContributions" "[D" u_foundContributions) :
    OwnMet l Z (⟨"com/example/tallyrank/tallyrank/search/ScoreWindows", "<init>", "()V"⟩ : MethodName) prog_174_method_1_code 1 none ws ({ frames := 1, cells := 4, slots := 8320, locals := 12 } : Room) #[(.ref a1)] h0 (Q_rmI Z a1 u_scores u_scored u_foundPlaces u_foundContributions h0 n0) := by
  refine own_body pf_0 ?_
  intro p e s m below meth c s₁ hx hby hml hown hnm hret hlk hZ X0 e0
  have N0 := Fr.nil n0
  refine own_cast (ef_1_rmI m a1 u_scores u_scored u_foundPlaces u_foundContributions ) ?_
  refine g_aload_n X0 hx 1 rfl (hb hby d1_0) rfl rfl ?_
  refine g_initO X0 hx hZ 4 rfl hown (hw _ (List.mem_of_getElem? (i := 8) rfl)) (hw _ (List.mem_of_getElem? (i := 9) rfl)) (hw _ (List.mem_of_getElem? (i := 10) rfl)) e0 (by rw [hml]; rfl) (hb hby d1_1) (by decide) 0 (Nat.le_of_eq rfl) (by decide) ?_
  intro T1 X1 e1
  refine g_aload_n X1 hx 5 rfl (hb hby d1_4) rfl rfl ?_
  refine g_sipush X1 hx 8 rfl (8192 : Int32) rfl (hb hby d1_5) ?_
  refine g_newarr X1 hx hZ 10 rfl (hw _ (List.mem_of_getElem? (i := 1) rfl)) e1 (hb hby d1_8) 8192 rfl 8192 (Nat.le_refl _) (by decide) (by decide) (by decide) "[D" (by decide) ?_
  intro T2 h2 o2 g2 X2 e2 E2 A2 Ex2
  have ne_a1_o2 : a1 ≠ o2 := Nat.ne_of_lt (Nat.lt_of_lt_of_eq E1.lt g2.symm)
  have ge_o2 : n0 ≤ o2 := Nat.le_trans Z0 (Nat.le_of_eq g2.symm)
  have hz_o2 : h0.size ≤ o2 := Nat.le_trans (Keep.refl h0 [a1]).1 (Nat.le_of_eq g2.symm)
  have Fld3 := (F_scores.ext E2)
  have Exa4 := (E1.ext E2)
  refine g_putF X2 hx hZ 13 rfl hown (hw _ (List.mem_of_getElem? (i := 11) rfl)) e2 Fld3 Exa4 (Or.inr ⟨(hw _ (List.mem_of_getElem? (i := 12) rfl)), rfl, hnm⟩) (hw _ (List.mem_of_getElem? (i := 3) rfl)) (ty := .array .double) (by decide) rfl rfl (hb hby d1_10) ?_
  intro T5 h5 X5 e5 W5
  have Fw5 := Fld3.same W5
  have N5 := Fr.snoc X5 N0 g1
  refine g_aload_n X5 hx 14 rfl (hb hby d1_13) rfl rfl ?_
  refine g_sipush X5 hx 17 rfl (128 : Int32) rfl (hb hby d1_14) ?_
  refine g_newarr X5 hx hZ 19 rfl (hw _ (List.mem_of_getElem? (i := 13) rfl)) e5 (hb hby d1_17) 128 rfl 128 (Nat.le_refl _) (by decide) (by decide) (by decide) "[J" (by decide) ?_
  intro T6 h6 o6 g6 X6 e6 E6 A6 Ex6
  have Exa7 := (Exa4.wr W5)
  have ne_a1_o6 : a1 ≠ o6 := Nat.ne_of_lt (Nat.lt_of_lt_of_eq Exa7.lt g6.symm)
  have Exa8 := (Ex2.wr W5)
  have ne_o2_o6 : o2 ≠ o6 := Nat.ne_of_lt (Nat.lt_of_lt_of_eq Exa8.lt g6.symm)
  have Zl9 : n0 ≤ h5.size := (Nat.le_trans (Nat.le_trans Z0 E2.1) (Nat.le_of_eq W5.size.symm))
  have ge_o6 : n0 ≤ o6 := Nat.le_trans Zl9 (Nat.le_of_eq g6.symm)
  have hz_o6 : h0.size ≤ o6 := Nat.le_trans (((Keep.refl h0 [a1]).ext E2).wr W5 (Or.inl (List.mem_of_getElem? (i := 0) rfl))).1 (Nat.le_of_eq g6.symm)
  have Fld10 := (((F_scored.ext E2).other W5 (Or.inr (slot_ne (Or.inr (hw _ (List.mem_of_getElem? (i := 15) rfl))) (Or.inr (hw _ (List.mem_of_getElem? (i := 12) rfl))) (by decide) (t := .array .long) (t' := .array .double) (by decide) (by decide)))).ext E6)
  have Exa11 := (Exa7.ext E6)
  refine g_putF X6 hx hZ 22 rfl hown (hw _ (List.mem_of_getElem? (i := 14) rfl)) e6 Fld10 Exa11 (Or.inr ⟨(hw _ (List.mem_of_getElem? (i := 15) rfl)), rfl, hnm⟩) (hw _ (List.mem_of_getElem? (i := 3) rfl)) (ty := .array .long) (by decide) rfl rfl (hb hby d1_19) ?_
  intro T12 h12 X12 e12 W12
  have Fw12 := Fld10.same W12
  have N12 := Fr.snoc X12 N5 g1
  refine g_aload_n X12 hx 23 rfl (hb hby d1_22) rfl rfl ?_
  refine g_iconst X12 hx 24 rfl (0 : Int32) rfl (hb hby d1_23) ?_
  refine g_newarr X12 hx hZ 26 rfl (hw _ (List.mem_of_getElem? (i := 0) rfl)) e12 (hb hby d1_24) 0 rfl 0 (Nat.le_refl _) (by decide) (by decide) (by decide) "[I" (by decide) ?_
  intro T13 h13 o13 g13 X13 e13 E13 A13 Ex13
  have Exa14 := (Exa11.wr W12)
  have ne_a1_o13 : a1 ≠ o13 := Nat.ne_of_lt (Nat.lt_of_lt_of_eq Exa14.lt g13.symm)
  have Exa15 := ((Exa8.ext E6).wr W12)
  have ne_o2_o13 : o2 ≠ o13 := Nat.ne_of_lt (Nat.lt_of_lt_of_eq Exa15.lt g13.symm)
  have Exa16 := (Ex6.wr W12)
  have ne_o6_o13 : o6 ≠ o13 := Nat.ne_of_lt (Nat.lt_of_lt_of_eq Exa16.lt g13.symm)
  have Zl17 : n0 ≤ h12.size := (Nat.le_trans (Nat.le_trans Zl9 E6.1) (Nat.le_of_eq W12.size.symm))
  have ge_o13 : n0 ≤ o13 := Nat.le_trans Zl17 (Nat.le_of_eq g13.symm)
  have hz_o13 : h0.size ≤ o13 := Nat.le_trans (((((Keep.refl h0 [a1]).ext E2).wr W5 (Or.inl (List.mem_of_getElem? (i := 0) rfl))).ext E6).wr W12 (Or.inl (List.mem_of_getElem? (i := 0) rfl))).1 (Nat.le_of_eq g13.symm)
  have Al13 : Al Z h13 o13 .int [] := A13
  have Fld18 := (((((F_foundPlaces.ext E2).other W5 (Or.inr (slot_ne (Or.inl (hw _ (List.mem_of_getElem? (i := 17) rfl))) (Or.inr (hw _ (List.mem_of_getElem? (i := 12) rfl))) (by decide) (t := .array .int) (t' := .array .double) (by decide) (by decide)))).ext E6).other W12 (Or.inr (slot_ne (Or.inl (hw _ (List.mem_of_getElem? (i := 17) rfl))) (Or.inr (hw _ (List.mem_of_getElem? (i := 15) rfl))) (by decide) (t := .array .int) (t' := .array .long) (by decide) (by decide)))).ext E13)
  have Exa19 := (Exa14.ext E13)
  refine g_putF X13 hx hZ 29 rfl hown (hw _ (List.mem_of_getElem? (i := 16) rfl)) e13 Fld18 Exa19 (Or.inl (hw _ (List.mem_of_getElem? (i := 17) rfl))) (hw _ (List.mem_of_getElem? (i := 3) rfl)) (ty := .array .int) (by decide) rfl rfl (hb hby d1_26) ?_
  intro T20 h20 X20 e20 W20
  have Fw20 := Fld18.same W20
  have N20 := Fr.snoc X20 N12 g1
  refine g_aload_n X20 hx 30 rfl (hb hby d1_29) rfl rfl ?_
  refine g_iconst X20 hx 31 rfl (0 : Int32) rfl (hb hby d1_30) ?_
  refine g_newarr X20 hx hZ 33 rfl (hw _ (List.mem_of_getElem? (i := 1) rfl)) e20 (hb hby d1_31) 0 rfl 0 (Nat.le_refl _) (by decide) (by decide) (by decide) "[D" (by decide) ?_
  intro T21 h21 o21 g21 X21 e21 E21 A21 Ex21
  have Exa22 := (Exa19.wr W20)
  have ne_a1_o21 : a1 ≠ o21 := Nat.ne_of_lt (Nat.lt_of_lt_of_eq Exa22.lt g21.symm)
  have Exa23 := ((Exa15.ext E13).wr W20)
  have ne_o2_o21 : o2 ≠ o21 := Nat.ne_of_lt (Nat.lt_of_lt_of_eq Exa23.lt g21.symm)
  have Exa24 := ((Exa16.ext E13).wr W20)
  have ne_o6_o21 : o6 ≠ o21 := Nat.ne_of_lt (Nat.lt_of_lt_of_eq Exa24.lt g21.symm)
  have Exa25 := (Ex13.wr W20)
  have ne_o13_o21 : o13 ≠ o21 := Nat.ne_of_lt (Nat.lt_of_lt_of_eq Exa25.lt g21.symm)
  have Zl26 : n0 ≤ h20.size := (Nat.le_trans (Nat.le_trans Zl17 E13.1) (Nat.le_of_eq W20.size.symm))
  have ge_o21 : n0 ≤ o21 := Nat.le_trans Zl26 (Nat.le_of_eq g21.symm)
  have hz_o21 : h0.size ≤ o21 := Nat.le_trans (((((((Keep.refl h0 [a1]).ext E2).wr W5 (Or.inl (List.mem_of_getElem? (i := 0) rfl))).ext E6).wr W12 (Or.inl (List.mem_of_getElem? (i := 0) rfl))).ext E13).wr W20 (Or.inl (List.mem_of_getElem? (i := 0) rfl))).1 (Nat.le_of_eq g21.symm)
  have Al21 : Al Z h21 o21 .double [] := A21
  have Fld27 := (((((((F_foundContributions.ext E2).other W5 (Or.inr (slot_ne (Or.inl (hw _ (List.mem_of_getElem? (i := 19) rfl))) (Or.inr (hw _ (List.mem_of_getElem? (i := 12) rfl))) (by decide) (t := .array .double) (t' := .array .double) (by decide) (by decide)))).ext E6).other W12 (Or.inr (slot_ne (Or.inl (hw _ (List.mem_of_getElem? (i := 19) rfl))) (Or.inr (hw _ (List.mem_of_getElem? (i := 15) rfl))) (by decide) (t := .array .double) (t' := .array .long) (by decide) (by decide)))).ext E13).other W20 (Or.inr (slot_ne (Or.inl (hw _ (List.mem_of_getElem? (i := 19) rfl))) (Or.inl (hw _ (List.mem_of_getElem? (i := 17) rfl))) (by decide) (t := .array .double) (t' := .array .int) (by decide) (by decide)))).ext E21)
  have Exa28 := (Exa22.ext E21)
  refine g_putF X21 hx hZ 36 rfl hown (hw _ (List.mem_of_getElem? (i := 18) rfl)) e21 Fld27 Exa28 (Or.inl (hw _ (List.mem_of_getElem? (i := 19) rfl))) (hw _ (List.mem_of_getElem? (i := 3) rfl)) (ty := .array .double) (by decide) rfl rfl (hb hby d1_33) ?_
  intro T29 h29 X29 e29 W29
  have Fw29 := Fld27.same W29
  have N29 := Fr.snoc X29 N20 g1
  have Exa30 := (Exa28.wr W29)
  have Fld31 := ((((Fw12.ext E13).other W20 (Or.inr (slot_ne (Or.inr (hw _ (List.mem_of_getElem? (i := 15) rfl))) (Or.inl (hw _ (List.mem_of_getElem? (i := 17) rfl))) (by decide) (t := .array .long) (t' := .array .int) (by decide) (by decide)))).ext E21).other W29 (Or.inr (slot_ne (Or.inr (hw _ (List.mem_of_getElem? (i := 15) rfl))) (Or.inl (hw _ (List.mem_of_getElem? (i := 19) rfl))) (by decide) (t := .array .long) (t' := .array .double) (by decide) (by decide))))
  have Fld32 := ((((((Fw5.ext E6).other W12 (Or.inr (slot_ne (Or.inr (hw _ (List.mem_of_getElem? (i := 12) rfl))) (Or.inr (hw _ (List.mem_of_getElem? (i := 15) rfl))) (by decide) (t := .array .double) (t' := .array .long) (by decide) (by decide)))).ext E13).other W20 (Or.inr (slot_ne (Or.inr (hw _ (List.mem_of_getElem? (i := 12) rfl))) (Or.inl (hw _ (List.mem_of_getElem? (i := 17) rfl))) (by decide) (t := .array .double) (t' := .array .int) (by decide) (by decide)))).ext E21).other W29 (Or.inr (slot_ne (Or.inr (hw _ (List.mem_of_getElem? (i := 12) rfl))) (Or.inl (hw _ (List.mem_of_getElem? (i := 19) rfl))) (by decide) (t := .array .double) (t' := .array .double) (by decide) (by decide))))
  have Al33 := (((((A6.other W12 (Ne.symm ne_a1_o6)).ext E13).other W20 (Ne.symm ne_a1_o6)).ext E21).other W29 (Ne.symm ne_a1_o6))
  have Al34 := (((((((A2.other W5 (Ne.symm ne_a1_o2)).ext E6).other W12 (Ne.symm ne_a1_o2)).ext E13).other W20 (Ne.symm ne_a1_o2)).ext E21).other W29 (Ne.symm ne_a1_o2))
  exact g_ret0 X29 hx hret hlk (hb hby d1_36) (by rw [e29]; exact ⟨rfl, N29, (((((((((Keep.refl h0 [a1]).ext E2).wr W5 (Or.inl (List.mem_of_getElem? (i := 0) rfl))).ext E6).wr W12 (Or.inl (List.mem_of_getElem? (i := 0) rfl))).ext E13).wr W20 (Or.inl (List.mem_of_getElem? (i := 0) rfl))).ext E21).wr W29 (Or.inl (List.mem_of_getElem? (i := 0) rfl))), Exa30, o6, o2, Fld31, Fld32, Al33, Al34, hz_o6, ge_o6, hz_o2, ge_o2, (Ne.symm ne_o2_o6)⟩) (by decide) (by decide)
theorem d3_0 : decode prog_174_method_22_code 0 = .ok (.iload_n 2, 1) := by decide +kernel
theorem d3_1 : decode prog_174_method_22_code 1 = .ok (.istore 6, 2) := by decide +kernel
theorem d3_3 : decode prog_174_method_22_code 3 = .ok (.iload 6, 2) := by decide +kernel
theorem d3_5 : decode prog_174_method_22_code 5 = .ok (.iload_n 3, 1) := by decide +kernel
theorem d3_6 : decode prog_174_method_22_code 6 = .ok (.if_icmp .ge 44, 3) := by decide +kernel
theorem d3_9 : decode prog_174_method_22_code 9 = .ok (.aload_n 1, 1) := by decide +kernel
theorem d3_10 : decode prog_174_method_22_code 10 = .ok (.iload 6, 2) := by decide +kernel
theorem d3_12 : decode prog_174_method_22_code 12 = .ok (.iaload, 1) := by decide +kernel
theorem d3_13 : decode prog_174_method_22_code 13 = .ok (.iload 5, 2) := by decide +kernel
theorem d3_15 : decode prog_174_method_22_code 15 = .ok (.if_icmp .ge 35, 3) := by decide +kernel
theorem d3_18 : decode prog_174_method_22_code 18 = .ok (.aload_n 1, 1) := by decide +kernel
theorem d3_19 : decode prog_174_method_22_code 19 = .ok (.iload 6, 2) := by decide +kernel
theorem d3_21 : decode prog_174_method_22_code 21 = .ok (.iinc 6 1, 3) := by decide +kernel
theorem d3_24 : decode prog_174_method_22_code 24 = .ok (.iaload, 1) := by decide +kernel
theorem d3_25 : decode prog_174_method_22_code 25 = .ok (.iload 4, 2) := by decide +kernel
theorem d3_27 : decode prog_174_method_22_code 27 = .ok (.isub, 1) := by decide +kernel
theorem d3_28 : decode prog_174_method_22_code 28 = .ok (.istore 7, 2) := by decide +kernel
theorem d3_30 : decode prog_174_method_22_code 30 = .ok (.aload_n 0, 1) := by decide +kernel
theorem d3_31 : decode prog_174_method_22_code 31 = .ok (.getfield 15, 3) := by decide +kernel
theorem d3_34 : decode prog_174_method_22_code 34 = .ok (.iload 7, 2) := by decide +kernel
theorem d3_36 : decode prog_174_method_22_code 36 = .ok (.bipush 6, 2) := by decide +kernel
theorem d3_38 : decode prog_174_method_22_code 38 = .ok (.iushr, 1) := by decide +kernel
theorem d3_39 : decode prog_174_method_22_code 39 = .ok (.dup2, 1) := by decide +kernel
theorem d3_40 : decode prog_174_method_22_code 40 = .ok (.laload, 1) := by decide +kernel
theorem d3_41 : decode prog_174_method_22_code 41 = .ok (.lconst 1, 1) := by decide +kernel
theorem d3_42 : decode prog_174_method_22_code 42 = .ok (.iload 7, 2) := by decide +kernel
theorem d3_44 : decode prog_174_method_22_code 44 = .ok (.lshl, 1) := by decide +kernel
theorem d3_45 : decode prog_174_method_22_code 45 = .ok (.lor, 1) := by decide +kernel
theorem d3_46 : decode prog_174_method_22_code 46 = .ok (.lastore, 1) := by decide +kernel
theorem d3_47 : decode prog_174_method_22_code 47 = .ok (.goto (-44), 3) := by decide +kernel
theorem d3_50 : decode prog_174_method_22_code 50 = .ok (.iload 6, 2) := by decide +kernel
theorem d3_52 : decode prog_174_method_22_code 52 = .ok (.ireturn, 1) := by decide +kernel
theorem pf_1 : plainFor (⟨"com/example/tallyrank/tallyrank/search/ScoreWindows", "markScored", "([IIIII)I"⟩ : MethodName) = true := by first | exact plainFor_of_name (by first | (simp [plainName, overriddenIn]; done) | decide +kernel) | decide +kernel
theorem ef_3_rmK (m : MethodId) (a1 : Addr) (d : Addr) (sd : Addr) (da : Nat) (db : Nat)  : entryFrame m #[(.ref a1), (.ref d), (.int (0 : Int32)), (.int (2 : Int32)), (.int (0 : Int32)), (.int (8192 : Int32))] 8 = mkF m 0 #[.val (.ref a1), .val (.ref d), .val (.int (0 : Int32)), .val (.int (2 : Int32)), .val (.int (0 : Int32)), .val (.int (8192 : Int32)), .unset, .unset] [] := by first | (simp [entryFrame, mkF, argsToLocals, Value.category, maxLocals]; done) | rfl
def Q_rmK (Z : State) (a1 : Addr) (d : Addr) (sd : Addr) (da : Nat) (db : Nat) (h0 : Heap) (n0 : Nat) (v : Option Value) (h : Heap) (L : List Loc) : Prop := (∃ r : Int32, v = some (.int r)) ∧ Fr n0 L ∧ Keep h0 h [sd] ∧ Al Z h sd .long (own_ws [db, da])
set_option maxRecDepth 65536 in
set_option maxHeartbeats 40000000 in
theorem rmK (l : Launch) (Z : State) (a0 : Array Value) (hw : ∀ d ∈ tables_1, d.before a0 Z = true) (ws : List Jvm.Cond) (a1 : Addr) (d : Addr) (sd : Addr) (da : Nat) (db : Nat) (h0 : Heap) (n0 : Nat) (Z0 : n0 ≤ h0.size) (F1 : Fld Z h0 a1 "com/example/tallyrank/tallyrank/search/ScoreWindows" "scored" "[J" (.ref sd)) (Ad : Al Z h0 d .int [.int (Int32.ofNat da), .int (Int32.ofNat db)]) (As : Al Z h0 sd .long (own_ws [])) (gs : n0 ≤ sd) (nd : d ≠ sd) (na : a1 ≠ sd) (ha : da < 8192) (hb8 : db < 8192) :
    OwnMet l Z (⟨"com/example/tallyrank/tallyrank/search/ScoreWindows", "markScored", "([IIIII)I"⟩ : MethodName) prog_174_method_22_code 8 (some .int) ws ({ frames := 0, cells := 0, slots := 0, locals := 0 } : Room) #[(.ref a1), (.ref d), (.int (0 : Int32)), (.int (2 : Int32)), (.int (0 : Int32)), (.int (8192 : Int32))] h0 (Q_rmK Z a1 d sd da db h0 n0) := by
  refine own_body pf_1 ?_
  intro p e s m below meth c s₁ hx hby hml hown hnm hret hlk hZ X0 e0
  have N0 := Fr.nil n0
  refine own_cast (ef_3_rmK m a1 d sd da db ) ?_
  refine g_iload_n X0 hx 1 rfl (hb hby d3_0) rfl ?_
  refine g_istore X0 hx 3 rfl (hb hby d3_1) #[.val (.ref a1), .val (.ref d), .val (.int (0 : Int32)), .val (.int (2 : Int32)), .val (.int (0 : Int32)), .val (.int (8192 : Int32)), .val (.int (0 : Int32)), .unset] rfl ?_
  refine g_iload X0 hx 5 rfl (hb hby d3_3) rfl ?_
  refine g_iload_n X0 hx 6 rfl (hb hby d3_5) rfl ?_
  refine g_icmpN X0 hx 9 rfl (hb hby d3_6) (XT.ii_ge_f (by decide)) ?_
  refine g_aload_n X0 hx 10 rfl (hb hby d3_9) rfl rfl ?_
  refine g_iload X0 hx 12 rfl (hb hby d3_10) rfl ?_
  refine g_iaload X0 hx hZ 13 rfl (hb hby d3_12) e0 Ad 0 rfl (.int (Int32.ofNat da)) rfl ?_
  refine g_iload X0 hx 15 rfl (hb hby d3_13) rfl ?_
  refine g_icmpN X0 hx 18 rfl (hb hby d3_15) (XT.ii_ge_f (by rw [Int32.lt_iff_toInt_lt, own_ofi da (by omega)]; have z : (8192 : Int32).toInt = 8192 := rfl; omega)) ?_
  refine g_aload_n X0 hx 19 rfl (hb hby d3_18) rfl rfl ?_
  refine g_iload X0 hx 21 rfl (hb hby d3_19) rfl ?_
  refine g_iinc X0 hx 24 rfl (hb hby d3_21) (1 : Int32) rfl rfl #[.val (.ref a1), .val (.ref d), .val (.int (0 : Int32)), .val (.int (2 : Int32)), .val (.int (0 : Int32)), .val (.int (8192 : Int32)), .val (.int (1 : Int32)), .unset] rfl ?_
  refine g_iaload X0 hx hZ 25 rfl (hb hby d3_24) e0 Ad 0 rfl (.int (Int32.ofNat da)) rfl ?_
  refine g_iload X0 hx 27 rfl (hb hby d3_25) rfl ?_
  refine g_isub X0 hx 28 rfl (hb hby d3_27) ?_
  rw [show (Int32.ofNat da) - (0 : Int32) = Int32.ofNat da from Int32.sub_zero _]
  refine g_istore X0 hx 30 rfl (hb hby d3_28) #[.val (.ref a1), .val (.ref d), .val (.int (0 : Int32)), .val (.int (2 : Int32)), .val (.int (0 : Int32)), .val (.int (8192 : Int32)), .val (.int (1 : Int32)), .val (.int (Int32.ofNat da))] rfl ?_
  refine g_aload_n X0 hx 31 rfl (hb hby d3_30) rfl rfl ?_
  refine g_getF X0 hx hZ 34 rfl hown (hw _ (List.mem_of_getElem? (i := 14) rfl)) e0 F1 (hb hby d3_31) ?_
  intro T1 X1 e1
  refine g_iload X1 hx 36 rfl (hb hby d3_34) rfl ?_
  refine g_bipush X1 hx 38 rfl (6 : Int32) rfl (hb hby d3_36) ?_
  refine g_iushr X1 hx 39 rfl (hb hby d3_38) ?_
  refine g_dup2 X1 hx 40 rfl (hb hby d3_39) rfl rfl ?_
  refine g_laload X1 hx hZ 41 rfl (hb hby d3_40) e1 As (da / 64) (own_idx da ha) (.long (own_word [] (da / 64))) (own_ws_get _ _ (by omega)) ?_
  refine g_lconst X1 hx 42 rfl (1 : Int64) rfl (hb hby d3_41) ?_
  refine g_iload X1 hx 44 rfl (hb hby d3_42) rfl ?_
  refine g_lshl X1 hx 45 rfl (hb hby d3_44) ?_
  refine g_lor X1 hx 46 rfl (hb hby d3_45) ?_
  refine g_lastore X1 hx hZ 47 rfl (hb hby d3_46) e1 As (da / 64) (own_idx da ha) (by rw [own_ws_len]; omega) ?_
  intro T2 h2 X2 e2 W2 B2
  have N2 := Fr.snoc X2 N0 gs
  have Aw3 : Al Z h2 sd .long (own_ws (da :: [])) := own_ws_set [] da ha ▸ B2
  refine g_goto X2 hx 3 (hb hby d3_47) (by decide) (by decide) ?_
  refine g_iload X2 hx 5 rfl (hb hby d3_3) rfl ?_
  refine g_iload_n X2 hx 6 rfl (hb hby d3_5) rfl ?_
  refine g_icmpN X2 hx 9 rfl (hb hby d3_6) (XT.ii_ge_f (by decide)) ?_
  refine g_aload_n X2 hx 10 rfl (hb hby d3_9) rfl rfl ?_
  refine g_iload X2 hx 12 rfl (hb hby d3_10) rfl ?_
  have Al4 := (Ad.other W2 nd)
  refine g_iaload X2 hx hZ 13 rfl (hb hby d3_12) e2 Al4 1 rfl (.int (Int32.ofNat db)) rfl ?_
  refine g_iload X2 hx 15 rfl (hb hby d3_13) rfl ?_
  refine g_icmpN X2 hx 18 rfl (hb hby d3_15) (XT.ii_ge_f (by rw [Int32.lt_iff_toInt_lt, own_ofi db (by omega)]; have z : (8192 : Int32).toInt = 8192 := rfl; omega)) ?_
  refine g_aload_n X2 hx 19 rfl (hb hby d3_18) rfl rfl ?_
  refine g_iload X2 hx 21 rfl (hb hby d3_19) rfl ?_
  refine g_iinc X2 hx 24 rfl (hb hby d3_21) (2 : Int32) rfl rfl #[.val (.ref a1), .val (.ref d), .val (.int (0 : Int32)), .val (.int (2 : Int32)), .val (.int (0 : Int32)), .val (.int (8192 : Int32)), .val (.int (2 : Int32)), .val (.int (Int32.ofNat da))] rfl ?_
  refine g_iaload X2 hx hZ 25 rfl (hb hby d3_24) e2 Al4 1 rfl (.int (Int32.ofNat db)) rfl ?_
  refine g_iload X2 hx 27 rfl (hb hby d3_25) rfl ?_
  refine g_isub X2 hx 28 rfl (hb hby d3_27) ?_
  rw [show (Int32.ofNat db) - (0 : Int32) = Int32.ofNat db from Int32.sub_zero _]
  refine g_istore X2 hx 30 rfl (hb hby d3_28) #[.val (.ref a1), .val (.ref d), .val (.int (0 : Int32)), .val (.int (2 : Int32)), .val (.int (0 : Int32)), .val (.int (8192 : Int32)), .val (.int (2 : Int32)), .val (.int (Int32.ofNat db))] rfl ?_
  refine g_aload_n X2 hx 31 rfl (hb hby d3_30) rfl rfl ?_
  have Fld5 := (F1.other W2 (Or.inl na))
  refine g_getF X2 hx hZ 34 rfl hown (hw _ (List.mem_of_getElem? (i := 14) rfl)) e2 Fld5 (hb hby d3_31) ?_
  intro T6 X6 e6
  refine g_iload X6 hx 36 rfl (hb hby d3_34) rfl ?_
  refine g_bipush X6 hx 38 rfl (6 : Int32) rfl (hb hby d3_36) ?_
  refine g_iushr X6 hx 39 rfl (hb hby d3_38) ?_
  refine g_dup2 X6 hx 40 rfl (hb hby d3_39) rfl rfl ?_
  refine g_laload X6 hx hZ 41 rfl (hb hby d3_40) e6 Aw3 (db / 64) (own_idx db hb8) (.long (own_word (da :: []) (db / 64))) (own_ws_get _ _ (by omega)) ?_
  refine g_lconst X6 hx 42 rfl (1 : Int64) rfl (hb hby d3_41) ?_
  refine g_iload X6 hx 44 rfl (hb hby d3_42) rfl ?_
  refine g_lshl X6 hx 45 rfl (hb hby d3_44) ?_
  refine g_lor X6 hx 46 rfl (hb hby d3_45) ?_
  refine g_lastore X6 hx hZ 47 rfl (hb hby d3_46) e6 Aw3 (db / 64) (own_idx db hb8) (by rw [own_ws_len]; omega) ?_
  intro T7 h7 X7 e7 W7 B7
  have N7 := Fr.snoc X7 N2 gs
  have Aw8 : Al Z h7 sd .long (own_ws (db :: (da :: []))) := own_ws_set (da :: []) db hb8 ▸ B7
  refine g_goto X7 hx 3 (hb hby d3_47) (by decide) (by decide) ?_
  refine g_iload X7 hx 5 rfl (hb hby d3_3) rfl ?_
  refine g_iload_n X7 hx 6 rfl (hb hby d3_5) rfl ?_
  refine g_icmpY X7 hx 50 (hb hby d3_6) (XT.ii_ge_t (by decide)) (by decide) (by decide) ?_
  refine g_iload X7 hx 52 rfl (hb hby d3_50) rfl ?_
  exact g_retI X7 hx hret hlk (hb hby d3_52) (by rw [e7]; exact ⟨⟨_, rfl⟩, N7, (((Keep.refl h0 [sd]).wr W2 (Or.inl (List.mem_of_getElem? (i := 0) rfl))).wr W7 (Or.inl (List.mem_of_getElem? (i := 0) rfl))), Aw8⟩) (by decide) (by decide)
theorem d4_0 : decode prog_174_method_27_code 0 = .ok (.iload_n 3, 1) := by decide +kernel
theorem d4_1 : decode prog_174_method_27_code 1 = .ok (.istore 6, 2) := by decide +kernel
theorem d4_3 : decode prog_174_method_27_code 3 = .ok (.iload 6, 2) := by decide +kernel
theorem d4_5 : decode prog_174_method_27_code 5 = .ok (.iload 4, 2) := by decide +kernel
theorem d4_7 : decode prog_174_method_27_code 7 = .ok (.if_icmp .ge 52, 3) := by decide +kernel
theorem d4_10 : decode prog_174_method_27_code 10 = .ok (.aload_n 1, 1) := by decide +kernel
theorem d4_11 : decode prog_174_method_27_code 11 = .ok (.iload 6, 2) := by decide +kernel
theorem d4_13 : decode prog_174_method_27_code 13 = .ok (.iaload, 1) := by decide +kernel
theorem d4_14 : decode prog_174_method_27_code 14 = .ok (.iload 5, 2) := by decide +kernel
theorem d4_16 : decode prog_174_method_27_code 16 = .ok (.isub, 1) := by decide +kernel
theorem d4_17 : decode prog_174_method_27_code 17 = .ok (.istore 7, 2) := by decide +kernel
theorem d4_19 : decode prog_174_method_27_code 19 = .ok (.aload_n 0, 1) := by decide +kernel
theorem d4_20 : decode prog_174_method_27_code 20 = .ok (.getfield 15, 3) := by decide +kernel
theorem d4_23 : decode prog_174_method_27_code 23 = .ok (.iload 7, 2) := by decide +kernel
theorem d4_25 : decode prog_174_method_27_code 25 = .ok (.bipush 6, 2) := by decide +kernel
theorem d4_27 : decode prog_174_method_27_code 27 = .ok (.iushr, 1) := by decide +kernel
theorem d4_28 : decode prog_174_method_27_code 28 = .ok (.laload, 1) := by decide +kernel
theorem d4_29 : decode prog_174_method_27_code 29 = .ok (.lconst 1, 1) := by decide +kernel
theorem d4_30 : decode prog_174_method_27_code 30 = .ok (.iload 7, 2) := by decide +kernel
theorem d4_32 : decode prog_174_method_27_code 32 = .ok (.lshl, 1) := by decide +kernel
theorem d4_33 : decode prog_174_method_27_code 33 = .ok (.land, 1) := by decide +kernel
theorem d4_34 : decode prog_174_method_27_code 34 = .ok (.lconst 0, 1) := by decide +kernel
theorem d4_35 : decode prog_174_method_27_code 35 = .ok (.lcmp, 1) := by decide +kernel
theorem d4_36 : decode prog_174_method_27_code 36 = .ok (.ifCond .eq 17, 3) := by decide +kernel
theorem d4_39 : decode prog_174_method_27_code 39 = .ok (.aload_n 0, 1) := by decide +kernel
theorem d4_40 : decode prog_174_method_27_code 40 = .ok (.getfield 9, 3) := by decide +kernel
theorem d4_43 : decode prog_174_method_27_code 43 = .ok (.iload 7, 2) := by decide +kernel
theorem d4_45 : decode prog_174_method_27_code 45 = .ok (.dup2, 1) := by decide +kernel
theorem d4_46 : decode prog_174_method_27_code 46 = .ok (.daload, 1) := by decide +kernel
theorem d4_47 : decode prog_174_method_27_code 47 = .ok (.aload_n 2, 1) := by decide +kernel
theorem d4_48 : decode prog_174_method_27_code 48 = .ok (.iload 6, 2) := by decide +kernel
theorem d4_50 : decode prog_174_method_27_code 50 = .ok (.daload, 1) := by decide +kernel
theorem d4_51 : decode prog_174_method_27_code 51 = .ok (.dadd, 1) := by decide +kernel
theorem d4_52 : decode prog_174_method_27_code 52 = .ok (.dastore, 1) := by decide +kernel
theorem d4_53 : decode prog_174_method_27_code 53 = .ok (.iinc 6 1, 3) := by decide +kernel
theorem d4_56 : decode prog_174_method_27_code 56 = .ok (.goto (-53), 3) := by decide +kernel
theorem d4_59 : decode prog_174_method_27_code 59 = .ok (.return_, 1) := by decide +kernel
theorem pf_2 : plainFor (⟨"com/example/tallyrank/tallyrank/search/ScoreWindows", "addKept", "([I[DIII)V"⟩ : MethodName) = true := by first | exact plainFor_of_name (by first | (simp [plainName, overriddenIn]; done) | decide +kernel) | decide +kernel
theorem ef_4_rmA (m : MethodId) (a1 : Addr) (d : Addr) (cc : Addr) (sd : Addr) (sc : Addr) (start : Int32) (f : Nat) (t : Nat) (S : List Nat) (xs : Nat → Nat) (cs : Nat → UInt64) (G0 : Nat → UInt64)  : entryFrame m #[(.ref a1), (.ref d), (.ref cc), (.int (Int32.ofNat f)), (.int (Int32.ofNat t)), (.int start)] 8 = mkF m 0 #[.val (.ref a1), .val (.ref d), .val (.ref cc), .val (.int (Int32.ofNat f)), .val (.int (Int32.ofNat t)), .val (.int start), .unset, .unset] [] := by first | (simp [entryFrame, mkF, argsToLocals, Value.category, maxLocals]; done) | rfl
def Q_rmA (Z : State) (a1 : Addr) (d : Addr) (cc : Addr) (sd : Addr) (sc : Addr) (start : Int32) (f : Nat) (t : Nat) (S : List Nat) (xs : Nat → Nat) (cs : Nat → UInt64) (G0 : Nat → UInt64) (h0 : Heap) (n0 : Nat) (v : Option Value) (h : Heap) (L : List Loc) : Prop := v = none ∧ Fr n0 L ∧ Keep h0 h [sc] ∧ Al Z h sc .double (own_ds (own_run S xs cs (t - f) f G0))
set_option maxRecDepth 65536 in
set_option maxHeartbeats 40000000 in
theorem rmA (l : Launch) (Z : State) (a0 : Array Value) (hw : ∀ d ∈ tables_1, d.before a0 Z = true) (ws : List Jvm.Cond) (a1 : Addr) (d : Addr) (cc : Addr) (sd : Addr) (sc : Addr) (start : Int32) (f : Nat) (t : Nat) (S : List Nat) (xs : Nat → Nat) (cs : Nat → UInt64) (G0 : Nat → UInt64) (h0 : Heap) (n0 : Nat) (Z0 : n0 ≤ h0.size) (F1 : Fld Z h0 a1 "com/example/tallyrank/tallyrank/search/ScoreWindows" "scored" "[J" (.ref sd)) (F2 : Fld Z h0 a1 "com/example/tallyrank/tallyrank/search/ScoreWindows" "scores" "[D" (.ref sc)) (Ad : Al Z h0 d .int [.int (start + Int32.ofNat (xs 0)), .int (start + Int32.ofNat (xs 1)), .int (start + Int32.ofNat (xs 2)), .int (start + Int32.ofNat (xs 3))]) (Ac : Al Z h0 cc .double [.double (cs 0), .double (cs 1), .double (cs 2), .double (cs 3)]) (As : Al Z h0 sd .long (own_ws S)) (Ax : Al Z h0 sc .double (own_ds G0)) (gs : n0 ≤ sc) (nd : d ≠ sc) (nc : cc ≠ sc) (ns : sd ≠ sc) (na : a1 ≠ sc) (hxs : ∀ i, xs i < 8192) (hS : ∀ p ∈ S, p < 8192) (hG0 : ∀ p, Jvm.Free.Fl.NoNaN64 (G0 p)) (hcs : ∀ i, Jvm.Free.Fl.Fin64 (cs i)) (hf : f < 4) (ht : t < 5) :
    OwnMet l Z (⟨"com/example/tallyrank/tallyrank/search/ScoreWindows", "addKept", "([I[DIII)V"⟩ : MethodName) prog_174_method_27_code 8 none ws ({ frames := 0, cells := 0, slots := 0, locals := 0 } : Room) #[(.ref a1), (.ref d), (.ref cc), (.int (Int32.ofNat f)), (.int (Int32.ofNat t)), (.int start)] h0 (Q_rmA Z a1 d cc sd sc start f t S xs cs G0 h0 n0) := by
  refine own_body pf_2 ?_
  intro p e s m below meth c s₁ hx hby hml hown hnm hret hlk hZ X0 e0
  have N0 := Fr.nil n0
  refine own_cast (ef_4_rmA m a1 d cc sd sc start f t S xs cs G0 ) ?_
  refine g_iload_n X0 hx 1 rfl (hb hby d4_0) rfl ?_
  refine g_istore X0 hx 3 rfl (hb hby d4_1) #[.val (.ref a1), .val (.ref d), .val (.ref cc), .val (.int (Int32.ofNat f)), .val (.int (Int32.ofNat t)), .val (.int start), .val (.int (Int32.ofNat f)), .unset] rfl ?_
  have loop : ∀ (k i : Nat) (u : Slot) (hu : u = .unset ∨ ∃ z, u = .val (.int z)) (G : Nat → UInt64) (T : State) (h : Heap) (locs : List Loc), k = t - i → i < 5 → Stand p l e ({ frames := 0, cells := 0, slots := 0, locals := 0 } : Room) s m #[(.ref a1), (.ref d), (.ref cc), (.int (Int32.ofNat f)), (.int (Int32.ofNat t)), (.int start)] below meth c T locs 0 0 → T.heap = h → Fr n0 locs → Al Z h sc .double (own_ds G) → (∀ p, Jvm.Free.Fl.NoNaN64 (G p)) → Keep h0 h [sc] → own_run S xs cs k i G = own_run S xs cs (t - f) f G0 → Goes p e below (T.setTop (mkF m 3 #[.val (.ref a1), .val (.ref d), .val (.ref cc), .val (.int (Int32.ofNat f)), .val (.int (Int32.ofNat t)), .val (.int start), .val (.int (Int32.ofNat i)), u] [])) (Endz s ({ frames := 0, cells := 0, slots := 0, locals := 0 } : Room).cells ({ frames := 0, cells := 0, slots := 0, locals := 0 } : Room).slots (Q_rmA Z a1 d cc sd sc start f t S xs cs G0 h0 n0)) := by
    intro k
    induction k with
    | zero =>
      intro i u hu G T h locs hk hi X eT N A hG Kp hrun
      refine g_iload X hx 5 rfl (hb hby d4_3) rfl ?_
      refine g_iload X hx 7 rfl (hb hby d4_5) rfl ?_
      refine g_icmpY X hx 59 (hb hby d4_7) (XT.ii_ge_t (by rw [own_ofi_lt (by omega) (by omega)]; omega)) (by decide) (by decide) ?_
      have A2 : Al Z h sc .double (own_ds (own_run S xs cs (t - f) f G0)) := hrun ▸ A
      exact g_ret0 X hx hret hlk (hb hby d4_59) (by rw [eT]; exact ⟨rfl, N, Kp, A2⟩) (by decide) (by decide)
    | succ k ih =>
      intro i u hu G T h locs hk hi X eT N A hG Kp hrun
      refine g_iload X hx 5 rfl (hb hby d4_3) rfl ?_
      refine g_iload X hx 7 rfl (hb hby d4_5) rfl ?_
      refine g_icmpN X hx 10 rfl (hb hby d4_7) (XT.ii_ge_f (by rw [own_ofi_lt (by omega) (by omega)]; omega)) ?_
      refine g_aload_n X hx 11 rfl (hb hby d4_10) rfl rfl ?_
      refine g_iload X hx 13 rfl (hb hby d4_11) rfl ?_
      have hi4 : i < 4 := by omega
      have hii := own_ofi i (by omega)
      refine g_iaload X hx hZ 14 rfl (hb hby d4_13) eT (Ad.keep Kp (ninS nd nin0)) i hii (.int (start + Int32.ofNat (xs i))) (own_g4 xs i hi4) ?_
      refine g_iload X hx 16 rfl (hb hby d4_14) rfl ?_
      refine g_isub X hx 17 rfl (hb hby d4_16) ?_
      rw [own_asub]
      have hxi := hxs i
      refine g_istore X hx 19 rfl (hb hby d4_17) #[.val (.ref a1), .val (.ref d), .val (.ref cc), .val (.int (Int32.ofNat f)), .val (.int (Int32.ofNat t)), .val (.int start), .val (.int (Int32.ofNat i)), .val (.int (Int32.ofNat (xs i)))] (by rcases hu with rfl | ⟨_, rfl⟩ <;> rfl) ?_
      refine g_aload_n X hx 20 rfl (hb hby d4_19) rfl rfl ?_
      refine g_getF X hx hZ 23 rfl hown (hw _ (List.mem_of_getElem? (i := 14) rfl)) eT (F1.keep Kp (ninS na nin0)) (hb hby d4_20) ?_
      intro T1 X1 e1
      refine g_iload X1 hx 25 rfl (hb hby d4_23) rfl ?_
      refine g_bipush X1 hx 27 rfl (6 : Int32) rfl (hb hby d4_25) ?_
      refine g_iushr X1 hx 28 rfl (hb hby d4_27) ?_
      refine g_laload X1 hx hZ 29 rfl (hb hby d4_28) e1 (As.keep Kp (ninS ns nin0)) (xs i / 64) (own_idx (xs i) hxi) (.long (own_word S (xs i / 64))) (own_ws_get _ _ (by omega)) ?_
      refine g_lconst X1 hx 30 rfl (1 : Int64) rfl (hb hby d4_29) ?_
      refine g_iload X1 hx 32 rfl (hb hby d4_30) rfl ?_
      refine g_lshl X1 hx 33 rfl (hb hby d4_32) ?_
      refine g_land X1 hx 34 rfl (hb hby d4_33) ?_
      refine g_lconst X1 hx 35 rfl (0 : Int64) rfl (hb hby d4_34) ?_
      refine g_lcmp X1 hx 36 rfl (hb hby d4_35) ?_
      have hi1 : Int32.ofNat i + Int32.ofInt 1 = Int32.ofNat (i + 1) := by
        have h1 := c_iadd (Int32.ofNat i) (Int32.ofInt 1); have h2 := rng32 (Int32.ofNat i + Int32.ofInt 1); have h4 : (Int32.ofInt 1).toInt = 1 := rfl
        apply Int32.toInt_inj.mp; rw [own_ofi (i + 1) (by omega)]; omega
      rw [own_run] at hrun
      by_cases c36 : ((own_word S (xs i / 64)) &&& ((1 : Int64) <<< ((Int32.ofNat (xs i)).toInt64 &&& 63))) = (0 : Int64)
      · refine g_ifY X1 hx 53 (hb hby d4_36) (XT.ll_eq_t c36) (by decide) (by decide) ?_
        have hm := (own_bitz S hS (xs i) hxi).mp c36
        rw [show own_st S xs cs i G = G from if_neg hm] at hrun
        refine g_iinc X1 hx 56 rfl (hb hby d4_53) (Int32.ofNat (i + 1)) hi1 rfl #[.val (.ref a1), .val (.ref d), .val (.ref cc), .val (.int (Int32.ofNat f)), .val (.int (Int32.ofNat t)), .val (.int start), .val (.int (Int32.ofNat (i + 1))), .val (.int (Int32.ofNat (xs i)))] rfl ?_
        refine g_goto X1 hx 3 (hb hby d4_56) (by decide) (by decide) ?_
        exact ih (i + 1) _ (Or.inr ⟨_, rfl⟩) G _ _ _ (by omega) (by omega) X1 e1 N A hG Kp hrun
      · refine g_ifN X1 hx 39 rfl (hb hby d4_36) (XT.ll_eq_f c36) ?_
        have hm : xs i ∈ S := Classical.byContradiction fun q => c36 ((own_bitz S hS (xs i) hxi).mpr q)
        rw [show own_st S xs cs i G = own_up G (xs i) (FP.dadd (G (xs i)) (cs i)) from if_pos hm] at hrun
        have hxI := own_ofi (xs i) (by omega)
        refine g_aload_n X1 hx 40 rfl (hb hby d4_39) rfl rfl ?_
        refine g_getF X1 hx hZ 43 rfl hown (hw _ (List.mem_of_getElem? (i := 11) rfl)) e1 (F2.keep Kp (ninS na nin0)) (hb hby d4_40) ?_
        intro T2 X2 e2
        refine g_iload X2 hx 45 rfl (hb hby d4_43) rfl ?_
        refine g_dup2 X2 hx 46 rfl (hb hby d4_45) rfl rfl ?_
        refine g_daload X2 hx hZ 47 rfl (hb hby d4_46) e2 A (xs i) hxI (.double (G (xs i))) (own_ds_get _ _ hxi) ?_
        refine g_aload_n X2 hx 48 rfl (hb hby d4_47) rfl rfl ?_
        refine g_iload X2 hx 50 rfl (hb hby d4_48) rfl ?_
        refine g_daload X2 hx hZ 51 rfl (hb hby d4_50) e2 (Ac.keep Kp (ninS nc nin0)) i hii (.double (cs i)) (own_d4 cs i hi4) ?_
        have hnn := Jvm.Free.Fl.dadd_out (hG (xs i)) (hcs i)
        refine g_dadd X2 hx 52 rfl (hb hby d4_51) hnn ?_
        refine g_dastore X2 hx hZ 53 rfl (hb hby d4_52) e2 A (xs i) hxI (by rw [own_ds_len]; exact hxi) ?_
        intro T3 h3 X3 e3 W3 B3
        have N3 := Fr.snoc X3 N gs
        have Aw4 : Al Z h3 sc .double (own_ds (own_up G (xs i) (FP.dadd (G (xs i)) (cs i)))) := own_ds_set G (xs i) hxi _ ▸ B3
        refine g_iinc X3 hx 56 rfl (hb hby d4_53) (Int32.ofNat (i + 1)) hi1 rfl #[.val (.ref a1), .val (.ref d), .val (.ref cc), .val (.int (Int32.ofNat f)), .val (.int (Int32.ofNat t)), .val (.int start), .val (.int (Int32.ofNat (i + 1))), .val (.int (Int32.ofNat (xs i)))] rfl ?_
        refine g_goto X3 hx 3 (hb hby d4_56) (by decide) (by decide) ?_
        exact ih (i + 1) _ (Or.inr ⟨_, rfl⟩) _ _ _ _ (by omega) (by omega) X3 e3 N3 Aw4 (own_up_nn hG _ hnn) (Kp.wr W3 (Or.inl (List.mem_of_getElem? (i := 0) rfl))) hrun
  exact loop (t - f) f .unset (Or.inl rfl) G0 s₁ h0 [] rfl (by omega) X0 e0 N0 Ax hG0 (Keep.refl _ _) rfl
theorem d5_0 : decode prog_174_method_32_code 0 = .ok (.aload_n 0, 1) := by decide +kernel
theorem d5_1 : decode prog_174_method_32_code 1 = .ok (.getfield 9, 3) := by decide +kernel
theorem d5_4 : decode prog_174_method_32_code 4 = .ok (.iload_n 1, 1) := by decide +kernel
theorem d5_5 : decode prog_174_method_32_code 5 = .ok (.daload, 1) := by decide +kernel
theorem d5_6 : decode prog_174_method_32_code 6 = .ok (.dreturn, 1) := by decide +kernel
theorem pf_3 : plainFor (⟨"com/example/tallyrank/tallyrank/search/ScoreWindows", "score", "(I)D"⟩ : MethodName) = true := by first | exact plainFor_of_name (by first | (simp [plainName, overriddenIn]; done) | decide +kernel) | decide +kernel
theorem ef_5_rmS (m : MethodId) (a1 : Addr) (sc : Addr) (G : Nat → UInt64) (k : Nat)  : entryFrame m #[(.ref a1), (.int (Int32.ofNat k))] 2 = mkF m 0 #[.val (.ref a1), .val (.int (Int32.ofNat k))] [] := by first | (simp [entryFrame, mkF, argsToLocals, Value.category, maxLocals]; done) | rfl
def Q_rmS (Z : State) (a1 : Addr) (sc : Addr) (G : Nat → UInt64) (k : Nat) (h0 : Heap) (n0 : Nat) (v : Option Value) (h : Heap) (L : List Loc) : Prop := v = some (.double (G k)) ∧ Fr n0 L ∧ h = h0
set_option maxRecDepth 65536 in
set_option maxHeartbeats 40000000 in
theorem rmS (l : Launch) (Z : State) (a0 : Array Value) (hw : ∀ d ∈ tables_1, d.before a0 Z = true) (ws : List Jvm.Cond) (a1 : Addr) (sc : Addr) (G : Nat → UInt64) (k : Nat) (h0 : Heap) (n0 : Nat) (Z0 : n0 ≤ h0.size) (F2 : Fld Z h0 a1 "com/example/tallyrank/tallyrank/search/ScoreWindows" "scores" "[D" (.ref sc)) (Ax : Al Z h0 sc .double (own_ds G)) (hk : k < 8192) :
    OwnMet l Z (⟨"com/example/tallyrank/tallyrank/search/ScoreWindows", "score", "(I)D"⟩ : MethodName) prog_174_method_32_code 2 (some .double) ws ({ frames := 0, cells := 0, slots := 0, locals := 0 } : Room) #[(.ref a1), (.int (Int32.ofNat k))] h0 (Q_rmS Z a1 sc G k h0 n0) := by
  refine own_body pf_3 ?_
  intro p e s m below meth c s₁ hx hby hml hown hnm hret hlk hZ X0 e0
  have N0 := Fr.nil n0
  refine own_cast (ef_5_rmS m a1 sc G k ) ?_
  refine g_aload_n X0 hx 1 rfl (hb hby d5_0) rfl rfl ?_
  refine g_getF X0 hx hZ 4 rfl hown (hw _ (List.mem_of_getElem? (i := 11) rfl)) e0 F2 (hb hby d5_1) ?_
  intro T1 X1 e1
  refine g_iload_n X1 hx 5 rfl (hb hby d5_4) rfl ?_
  refine g_daload X1 hx hZ 6 rfl (hb hby d5_5) e1 Ax k (own_ofi k (by omega)) (.double (G k)) (own_ds_get _ _ hk) ?_
  exact g_retD X1 hx hret hlk (hb hby d5_6) ⟨rfl, N0, e1⟩ (by decide) (by decide)
theorem d7_0 : decode prog_174_method_31_code 0 = .ok (.aload_n 0, 1) := by decide +kernel
theorem d7_1 : decode prog_174_method_31_code 1 = .ok (.getfield 15, 3) := by decide +kernel
theorem d7_4 : decode prog_174_method_31_code 4 = .ok (.iload_n 1, 1) := by decide +kernel
theorem d7_5 : decode prog_174_method_31_code 5 = .ok (.bipush 6, 2) := by decide +kernel
theorem d7_7 : decode prog_174_method_31_code 7 = .ok (.iushr, 1) := by decide +kernel
theorem d7_8 : decode prog_174_method_31_code 8 = .ok (.laload, 1) := by decide +kernel
theorem d7_9 : decode prog_174_method_31_code 9 = .ok (.lconst 1, 1) := by decide +kernel
theorem d7_10 : decode prog_174_method_31_code 10 = .ok (.iload_n 1, 1) := by decide +kernel
theorem d7_11 : decode prog_174_method_31_code 11 = .ok (.lshl, 1) := by decide +kernel
theorem d7_12 : decode prog_174_method_31_code 12 = .ok (.land, 1) := by decide +kernel
theorem d7_13 : decode prog_174_method_31_code 13 = .ok (.lconst 0, 1) := by decide +kernel
theorem d7_14 : decode prog_174_method_31_code 14 = .ok (.lcmp, 1) := by decide +kernel
theorem d7_15 : decode prog_174_method_31_code 15 = .ok (.ifCond .eq 7, 3) := by decide +kernel
theorem d7_18 : decode prog_174_method_31_code 18 = .ok (.iconst 1, 1) := by decide +kernel
theorem d7_19 : decode prog_174_method_31_code 19 = .ok (.goto 4, 3) := by decide +kernel
theorem d7_22 : decode prog_174_method_31_code 22 = .ok (.iconst 0, 1) := by decide +kernel
theorem d7_23 : decode prog_174_method_31_code 23 = .ok (.ireturn, 1) := by decide +kernel
theorem pf_4 : plainFor (⟨"com/example/tallyrank/tallyrank/search/ScoreWindows", "isScored", "(I)Z"⟩ : MethodName) = true := by first | exact plainFor_of_name (by first | (simp [plainName, overriddenIn]; done) | decide +kernel) | decide +kernel
theorem ef_7_rmZ (m : MethodId) (a1 : Addr) (sd : Addr) (S : List Nat) (k : Nat)  : entryFrame m #[(.ref a1), (.int (Int32.ofNat k))] 2 = mkF m 0 #[.val (.ref a1), .val (.int (Int32.ofNat k))] [] := by first | (simp [entryFrame, mkF, argsToLocals, Value.category, maxLocals]; done) | rfl
def Q_rmZ (Z : State) (a1 : Addr) (sd : Addr) (S : List Nat) (k : Nat) (h0 : Heap) (n0 : Nat) (v : Option Value) (h : Heap) (L : List Loc) : Prop := v = some (.int (b2i (decide (k ∈ S)))) ∧ Fr n0 L ∧ h = h0
set_option maxRecDepth 65536 in
set_option maxHeartbeats 40000000 in
theorem rmZ (l : Launch) (Z : State) (a0 : Array Value) (hw : ∀ d ∈ tables_1, d.before a0 Z = true) (ws : List Jvm.Cond) (a1 : Addr) (sd : Addr) (S : List Nat) (k : Nat) (h0 : Heap) (n0 : Nat) (Z0 : n0 ≤ h0.size) (F1 : Fld Z h0 a1 "com/example/tallyrank/tallyrank/search/ScoreWindows" "scored" "[J" (.ref sd)) (As : Al Z h0 sd .long (own_ws S)) (hS : ∀ p ∈ S, p < 8192) (hk : k < 8192) :
    OwnMet l Z (⟨"com/example/tallyrank/tallyrank/search/ScoreWindows", "isScored", "(I)Z"⟩ : MethodName) prog_174_method_31_code 2 (some .boolean) ws ({ frames := 0, cells := 0, slots := 0, locals := 0 } : Room) #[(.ref a1), (.int (Int32.ofNat k))] h0 (Q_rmZ Z a1 sd S k h0 n0) := by
  refine own_body pf_4 ?_
  intro p e s m below meth c s₁ hx hby hml hown hnm hret hlk hZ X0 e0
  have N0 := Fr.nil n0
  refine own_cast (ef_7_rmZ m a1 sd S k ) ?_
  refine g_aload_n X0 hx 1 rfl (hb hby d7_0) rfl rfl ?_
  refine g_getF X0 hx hZ 4 rfl hown (hw _ (List.mem_of_getElem? (i := 14) rfl)) e0 F1 (hb hby d7_1) ?_
  intro T1 X1 e1
  refine g_iload_n X1 hx 5 rfl (hb hby d7_4) rfl ?_
  refine g_bipush X1 hx 7 rfl (6 : Int32) rfl (hb hby d7_5) ?_
  refine g_iushr X1 hx 8 rfl (hb hby d7_7) ?_
  refine g_laload X1 hx hZ 9 rfl (hb hby d7_8) e1 As (k / 64) (own_idx k hk) (.long (own_word S (k / 64))) (own_ws_get _ _ (by omega)) ?_
  refine g_lconst X1 hx 10 rfl (1 : Int64) rfl (hb hby d7_9) ?_
  refine g_iload_n X1 hx 11 rfl (hb hby d7_10) rfl ?_
  refine g_lshl X1 hx 12 rfl (hb hby d7_11) ?_
  refine g_land X1 hx 13 rfl (hb hby d7_12) ?_
  refine g_lconst X1 hx 14 rfl (0 : Int64) rfl (hb hby d7_13) ?_
  refine g_lcmp X1 hx 15 rfl (hb hby d7_14) ?_
  by_cases c15 : ((own_word S (k / 64)) &&& ((1 : Int64) <<< ((Int32.ofNat k).toInt64 &&& 63))) = (0 : Int64)
  · refine g_ifY X1 hx 22 (hb hby d7_15) (XT.ll_eq_t c15) (by decide) (by decide) ?_
    have hm := (own_bitz S hS k hk).mp c15
    refine g_iconst X1 hx 23 rfl (0 : Int32) rfl (hb hby d7_22) ?_
    exact g_retZ X1 hx hret hlk rfl (hb hby d7_23) ⟨by rw [decide_eq_false hm]; rfl, N0, e1⟩ (by decide) (by decide)
  · refine g_ifN X1 hx 18 rfl (hb hby d7_15) (XT.ll_eq_f c15) ?_
    have hm : k ∈ S := Classical.byContradiction fun q => c15 ((own_bitz S hS k hk).mpr q)
    refine g_iconst X1 hx 19 rfl (1 : Int32) rfl (hb hby d7_18) ?_
    refine g_goto X1 hx 23 (hb hby d7_19) (by decide) (by decide) ?_
    exact g_retZ X1 hx hret hlk rfl (hb hby d7_23) ⟨by rw [decide_eq_true hm]; rfl, N0, e1⟩ (by decide) (by decide)
theorem d6_0 : decode method_2_code 0 = .ok (.iload_n 0, 1) := by decide +kernel
theorem d6_1 : decode method_2_code 1 = .ok (.iload 5, 2) := by decide +kernel
theorem d6_3 : decode method_2_code 3 = .ok (.if_icmp .eq 11, 3) := by decide +kernel
theorem d6_6 : decode method_2_code 6 = .ok (.iload_n 0, 1) := by decide +kernel
theorem d6_7 : decode method_2_code 7 = .ok (.iload 6, 2) := by decide +kernel
theorem d6_9 : decode method_2_code 9 = .ok (.if_icmp .eq 5, 3) := by decide +kernel
theorem d6_12 : decode method_2_code 12 = .ok (.dconst 0, 1) := by decide +kernel
theorem d6_13 : decode method_2_code 13 = .ok (.dreturn, 1) := by decide +kernel
theorem d6_14 : decode method_2_code 14 = .ok (.dconst 0, 1) := by decide +kernel
theorem d6_15 : decode method_2_code 15 = .ok (.dstore 7, 2) := by decide +kernel
theorem d6_17 : decode method_2_code 17 = .ok (.iload_n 3, 1) := by decide +kernel
theorem d6_18 : decode method_2_code 18 = .ok (.ifCond .gt 24, 3) := by decide +kernel
theorem d6_21 : decode method_2_code 21 = .ok (.iconst 0, 1) := by decide +kernel
theorem d6_22 : decode method_2_code 22 = .ok (.iload 4, 2) := by decide +kernel
theorem d6_24 : decode method_2_code 24 = .ok (.if_icmp .ge 18, 3) := by decide +kernel
theorem d6_27 : decode method_2_code 27 = .ok (.aload_n 1, 1) := by decide +kernel
theorem d6_28 : decode method_2_code 28 = .ok (.iconst 0, 1) := by decide +kernel
theorem d6_29 : decode method_2_code 29 = .ok (.iaload, 1) := by decide +kernel
theorem d6_30 : decode method_2_code 30 = .ok (.iload_n 0, 1) := by decide +kernel
theorem d6_31 : decode method_2_code 31 = .ok (.if_icmp .ne 11, 3) := by decide +kernel
theorem d6_34 : decode method_2_code 34 = .ok (.dload 7, 2) := by decide +kernel
theorem d6_36 : decode method_2_code 36 = .ok (.aload_n 2, 1) := by decide +kernel
theorem d6_37 : decode method_2_code 37 = .ok (.iconst 0, 1) := by decide +kernel
theorem d6_38 : decode method_2_code 38 = .ok (.daload, 1) := by decide +kernel
theorem d6_39 : decode method_2_code 39 = .ok (.dadd, 1) := by decide +kernel
theorem d6_40 : decode method_2_code 40 = .ok (.dstore 7, 2) := by decide +kernel
theorem d6_42 : decode method_2_code 42 = .ok (.iload_n 3, 1) := by decide +kernel
theorem d6_43 : decode method_2_code 43 = .ok (.iconst 1, 1) := by decide +kernel
theorem d6_44 : decode method_2_code 44 = .ok (.if_icmp .gt 24, 3) := by decide +kernel
theorem d6_47 : decode method_2_code 47 = .ok (.iconst 1, 1) := by decide +kernel
theorem d6_48 : decode method_2_code 48 = .ok (.iload 4, 2) := by decide +kernel
theorem d6_50 : decode method_2_code 50 = .ok (.if_icmp .ge 18, 3) := by decide +kernel
theorem d6_53 : decode method_2_code 53 = .ok (.aload_n 1, 1) := by decide +kernel
theorem d6_54 : decode method_2_code 54 = .ok (.iconst 1, 1) := by decide +kernel
theorem d6_55 : decode method_2_code 55 = .ok (.iaload, 1) := by decide +kernel
theorem d6_56 : decode method_2_code 56 = .ok (.iload_n 0, 1) := by decide +kernel
theorem d6_57 : decode method_2_code 57 = .ok (.if_icmp .ne 11, 3) := by decide +kernel
theorem d6_60 : decode method_2_code 60 = .ok (.dload 7, 2) := by decide +kernel
theorem d6_62 : decode method_2_code 62 = .ok (.aload_n 2, 1) := by decide +kernel
theorem d6_63 : decode method_2_code 63 = .ok (.iconst 1, 1) := by decide +kernel
theorem d6_64 : decode method_2_code 64 = .ok (.daload, 1) := by decide +kernel
theorem d6_65 : decode method_2_code 65 = .ok (.dadd, 1) := by decide +kernel
theorem d6_66 : decode method_2_code 66 = .ok (.dstore 7, 2) := by decide +kernel
theorem d6_68 : decode method_2_code 68 = .ok (.iload_n 3, 1) := by decide +kernel
theorem d6_69 : decode method_2_code 69 = .ok (.iconst 2, 1) := by decide +kernel
theorem d6_70 : decode method_2_code 70 = .ok (.if_icmp .gt 24, 3) := by decide +kernel
theorem d6_73 : decode method_2_code 73 = .ok (.iconst 2, 1) := by decide +kernel
theorem d6_74 : decode method_2_code 74 = .ok (.iload 4, 2) := by decide +kernel
theorem d6_76 : decode method_2_code 76 = .ok (.if_icmp .ge 18, 3) := by decide +kernel
theorem d6_79 : decode method_2_code 79 = .ok (.aload_n 1, 1) := by decide +kernel
theorem d6_80 : decode method_2_code 80 = .ok (.iconst 2, 1) := by decide +kernel
theorem d6_81 : decode method_2_code 81 = .ok (.iaload, 1) := by decide +kernel
theorem d6_82 : decode method_2_code 82 = .ok (.iload_n 0, 1) := by decide +kernel
theorem d6_83 : decode method_2_code 83 = .ok (.if_icmp .ne 11, 3) := by decide +kernel
theorem d6_86 : decode method_2_code 86 = .ok (.dload 7, 2) := by decide +kernel
theorem d6_88 : decode method_2_code 88 = .ok (.aload_n 2, 1) := by decide +kernel
theorem d6_89 : decode method_2_code 89 = .ok (.iconst 2, 1) := by decide +kernel
theorem d6_90 : decode method_2_code 90 = .ok (.daload, 1) := by decide +kernel
theorem d6_91 : decode method_2_code 91 = .ok (.dadd, 1) := by decide +kernel
theorem d6_92 : decode method_2_code 92 = .ok (.dstore 7, 2) := by decide +kernel
theorem d6_94 : decode method_2_code 94 = .ok (.iload_n 3, 1) := by decide +kernel
theorem d6_95 : decode method_2_code 95 = .ok (.iconst 3, 1) := by decide +kernel
theorem d6_96 : decode method_2_code 96 = .ok (.if_icmp .gt 24, 3) := by decide +kernel
theorem d6_99 : decode method_2_code 99 = .ok (.iconst 3, 1) := by decide +kernel
theorem d6_100 : decode method_2_code 100 = .ok (.iload 4, 2) := by decide +kernel
theorem d6_102 : decode method_2_code 102 = .ok (.if_icmp .ge 18, 3) := by decide +kernel
theorem d6_105 : decode method_2_code 105 = .ok (.aload_n 1, 1) := by decide +kernel
theorem d6_106 : decode method_2_code 106 = .ok (.iconst 3, 1) := by decide +kernel
theorem d6_107 : decode method_2_code 107 = .ok (.iaload, 1) := by decide +kernel
theorem d6_108 : decode method_2_code 108 = .ok (.iload_n 0, 1) := by decide +kernel
theorem d6_109 : decode method_2_code 109 = .ok (.if_icmp .ne 11, 3) := by decide +kernel
theorem d6_112 : decode method_2_code 112 = .ok (.dload 7, 2) := by decide +kernel
theorem d6_114 : decode method_2_code 114 = .ok (.aload_n 2, 1) := by decide +kernel
theorem d6_115 : decode method_2_code 115 = .ok (.iconst 3, 1) := by decide +kernel
theorem d6_116 : decode method_2_code 116 = .ok (.daload, 1) := by decide +kernel
theorem d6_117 : decode method_2_code 117 = .ok (.dadd, 1) := by decide +kernel
theorem d6_118 : decode method_2_code 118 = .ok (.dstore 7, 2) := by decide +kernel
theorem d6_120 : decode method_2_code 120 = .ok (.dload 7, 2) := by decide +kernel
theorem d6_122 : decode method_2_code 122 = .ok (.dreturn, 1) := by decide +kernel
theorem pf_5 : plainFor (⟨"com/example/tallyrank/tallyrank/search/ScoreWindowsAddKeptPinLaw", "expected", "(I[I[DIIII)D"⟩ : MethodName) = true := by first | exact plainFor_of_name (by first | (simp [plainName, overriddenIn]; done) | decide +kernel) | decide +kernel
theorem ef_6_rmX (m : MethodId) (pp : Int32) (pl : Addr) (cc : Addr) (ff : Int32) (tt : Int32) (aa : Int32) (bb : Int32) (x0 : Int32) (x1 : Int32) (x2 : Int32) (x3 : Int32) (c0 : UInt64) (c1 : UInt64) (c2 : UInt64) (c3 : UInt64)  : entryFrame m #[(.int pp), (.ref pl), (.ref cc), (.int ff), (.int tt), (.int aa), (.int bb)] 9 = mkF m 0 #[.val (.int pp), .val (.ref pl), .val (.ref cc), .val (.int ff), .val (.int tt), .val (.int aa), .val (.int bb), .unset, .unset] [] := by first | (simp [entryFrame, mkF, argsToLocals, Value.category, maxLocals]; done) | rfl
def Q_rmX (Z : State) (pp : Int32) (pl : Addr) (cc : Addr) (ff : Int32) (tt : Int32) (aa : Int32) (bb : Int32) (x0 : Int32) (x1 : Int32) (x2 : Int32) (x3 : Int32) (c0 : UInt64) (c1 : UInt64) (c2 : UInt64) (c3 : UInt64) (h0 : Heap) (n0 : Nat) (v : Option Value) (h : Heap) (L : List Loc) : Prop := v = some (.double (own_expd pp ff tt aa bb x0 x1 x2 x3 c0 c1 c2 c3)) ∧ Fr n0 L ∧ h = h0
set_option maxRecDepth 65536 in
set_option maxHeartbeats 40000000 in
theorem rmX (l : Launch) (Z : State) (a0 : Array Value) (hw : ∀ d ∈ tables_1, d.before a0 Z = true) (ws : List Jvm.Cond) (pp : Int32) (pl : Addr) (cc : Addr) (ff : Int32) (tt : Int32) (aa : Int32) (bb : Int32) (x0 : Int32) (x1 : Int32) (x2 : Int32) (x3 : Int32) (c0 : UInt64) (c1 : UInt64) (c2 : UInt64) (c3 : UInt64) (h0 : Heap) (n0 : Nat) (Z0 : n0 ≤ h0.size) (Ap : Al Z h0 pl .int [.int x0, .int x1, .int x2, .int x3]) (Ac : Al Z h0 cc .double [.double c0, .double c1, .double c2, .double c3]) (hc0 : Jvm.Free.Fl.Fin64 c0) (hc1 : Jvm.Free.Fl.Fin64 c1) (hc2 : Jvm.Free.Fl.Fin64 c2) (hc3 : Jvm.Free.Fl.Fin64 c3) :
    OwnMet l Z (⟨"com/example/tallyrank/tallyrank/search/ScoreWindowsAddKeptPinLaw", "expected", "(I[I[DIIII)D"⟩ : MethodName) method_2_code 9 (some .double) ws ({ frames := 0, cells := 0, slots := 0, locals := 0 } : Room) #[(.int pp), (.ref pl), (.ref cc), (.int ff), (.int tt), (.int aa), (.int bb)] h0 (Q_rmX Z pp pl cc ff tt aa bb x0 x1 x2 x3 c0 c1 c2 c3 h0 n0) := by
  refine own_body pf_5 ?_
  intro p e s m below meth c s₁ hx hby hml hown hnm hret hlk hZ X0 e0
  have N0 := Fr.nil n0
  refine own_cast (ef_6_rmX m pp pl cc ff tt aa bb x0 x1 x2 x3 c0 c1 c2 c3 ) ?_
  have seg0 : ∀ (P : State → Outcome → Prop) (sm : UInt64), Jvm.Free.Fl.NoNaN64 sm → Goes p e below (s₁.setTop (mkF m 42 #[.val (.int pp), .val (.ref pl), .val (.ref cc), .val (.int ff), .val (.int tt), .val (.int aa), .val (.int bb), .val (.double (own_ex pp ff tt (0 : Int32) x0 c0 sm)), .second] [])) P → Goes p e below (s₁.setTop (mkF m 17 #[.val (.int pp), .val (.ref pl), .val (.ref cc), .val (.int ff), .val (.int tt), .val (.int aa), .val (.int bb), .val (.double sm), .second] [])) P := by
    intro P sm hs K
    unfold own_ex at K
    refine g_iload_n X0 hx 18 rfl (hb hby d6_17) rfl ?_
    by_cases k1 : 0 < ff
    · refine g_ifY X0 hx 42 (hb hby d6_18) (XT.i0_gt_t k1) (by decide) (by decide) ?_
      rw [if_pos k1] at K
      exact K
    · refine g_ifN X0 hx 21 rfl (hb hby d6_18) (XT.i0_gt_f k1) ?_
      refine g_iconst X0 hx 22 rfl (0 : Int32) rfl (hb hby d6_21) ?_
      refine g_iload X0 hx 24 rfl (hb hby d6_22) rfl ?_
      by_cases k2 : (0 : Int32) < tt
      · refine g_icmpN X0 hx 27 rfl (hb hby d6_24) (XT.ii_ge_f k2) ?_
        refine g_aload_n X0 hx 28 rfl (hb hby d6_27) rfl rfl ?_
        refine g_iconst X0 hx 29 rfl (0 : Int32) rfl (hb hby d6_28) ?_
        refine g_iaload X0 hx hZ 30 rfl (hb hby d6_29) e0 Ap 0 rfl (.int x0) rfl ?_
        refine g_iload_n X0 hx 31 rfl (hb hby d6_30) rfl ?_
        by_cases k3 : x0 = pp
        · refine g_icmpN X0 hx 34 rfl (hb hby d6_31) (XT.ii_ne_f k3) ?_
          rw [if_neg k1, if_pos k2, if_pos k3] at K
          refine g_dload X0 hx 36 rfl (hb hby d6_34) rfl ?_
          refine g_aload_n X0 hx 37 rfl (hb hby d6_36) rfl rfl ?_
          refine g_iconst X0 hx 38 rfl (0 : Int32) rfl (hb hby d6_37) ?_
          refine g_daload X0 hx hZ 39 rfl (hb hby d6_38) e0 Ac 0 rfl (.double c0) rfl ?_
          refine g_dadd X0 hx 40 rfl (hb hby d6_39) (Jvm.Free.Fl.dadd_out hs hc0) ?_
          refine g_dstore X0 hx 42 rfl (hb hby d6_40) #[.val (.int pp), .val (.ref pl), .val (.ref cc), .val (.int ff), .val (.int tt), .val (.int aa), .val (.int bb), .val (.double (FP.dadd sm c0)), .second] rfl ?_
          exact K
        · refine g_icmpY X0 hx 42 (hb hby d6_31) (XT.ii_ne_t k3) (by decide) (by decide) ?_
          rw [if_neg k1, if_pos k2, if_neg k3] at K
          exact K
      · refine g_icmpY X0 hx 42 (hb hby d6_24) (XT.ii_ge_t k2) (by decide) (by decide) ?_
        rw [if_neg k1, if_neg k2] at K
        exact K
  have seg1 : ∀ (P : State → Outcome → Prop) (sm : UInt64), Jvm.Free.Fl.NoNaN64 sm → Goes p e below (s₁.setTop (mkF m 68 #[.val (.int pp), .val (.ref pl), .val (.ref cc), .val (.int ff), .val (.int tt), .val (.int aa), .val (.int bb), .val (.double (own_ex pp ff tt (1 : Int32) x1 c1 sm)), .second] [])) P → Goes p e below (s₁.setTop (mkF m 42 #[.val (.int pp), .val (.ref pl), .val (.ref cc), .val (.int ff), .val (.int tt), .val (.int aa), .val (.int bb), .val (.double sm), .second] [])) P := by
    intro P sm hs K
    unfold own_ex at K
    refine g_iload_n X0 hx 43 rfl (hb hby d6_42) rfl ?_
    refine g_iconst X0 hx 44 rfl (1 : Int32) rfl (hb hby d6_43) ?_
    by_cases k1 : (1 : Int32) < ff
    · refine g_icmpY X0 hx 68 (hb hby d6_44) (XT.ii_gt_t k1) (by decide) (by decide) ?_
      rw [if_pos k1] at K
      exact K
    · refine g_icmpN X0 hx 47 rfl (hb hby d6_44) (XT.ii_gt_f k1) ?_
      refine g_iconst X0 hx 48 rfl (1 : Int32) rfl (hb hby d6_47) ?_
      refine g_iload X0 hx 50 rfl (hb hby d6_48) rfl ?_
      by_cases k2 : (1 : Int32) < tt
      · refine g_icmpN X0 hx 53 rfl (hb hby d6_50) (XT.ii_ge_f k2) ?_
        refine g_aload_n X0 hx 54 rfl (hb hby d6_53) rfl rfl ?_
        refine g_iconst X0 hx 55 rfl (1 : Int32) rfl (hb hby d6_54) ?_
        refine g_iaload X0 hx hZ 56 rfl (hb hby d6_55) e0 Ap 1 rfl (.int x1) rfl ?_
        refine g_iload_n X0 hx 57 rfl (hb hby d6_56) rfl ?_
        by_cases k3 : x1 = pp
        · refine g_icmpN X0 hx 60 rfl (hb hby d6_57) (XT.ii_ne_f k3) ?_
          rw [if_neg k1, if_pos k2, if_pos k3] at K
          refine g_dload X0 hx 62 rfl (hb hby d6_60) rfl ?_
          refine g_aload_n X0 hx 63 rfl (hb hby d6_62) rfl rfl ?_
          refine g_iconst X0 hx 64 rfl (1 : Int32) rfl (hb hby d6_63) ?_
          refine g_daload X0 hx hZ 65 rfl (hb hby d6_64) e0 Ac 1 rfl (.double c1) rfl ?_
          refine g_dadd X0 hx 66 rfl (hb hby d6_65) (Jvm.Free.Fl.dadd_out hs hc1) ?_
          refine g_dstore X0 hx 68 rfl (hb hby d6_66) #[.val (.int pp), .val (.ref pl), .val (.ref cc), .val (.int ff), .val (.int tt), .val (.int aa), .val (.int bb), .val (.double (FP.dadd sm c1)), .second] rfl ?_
          exact K
        · refine g_icmpY X0 hx 68 (hb hby d6_57) (XT.ii_ne_t k3) (by decide) (by decide) ?_
          rw [if_neg k1, if_pos k2, if_neg k3] at K
          exact K
      · refine g_icmpY X0 hx 68 (hb hby d6_50) (XT.ii_ge_t k2) (by decide) (by decide) ?_
        rw [if_neg k1, if_neg k2] at K
        exact K
  have seg2 : ∀ (P : State → Outcome → Prop) (sm : UInt64), Jvm.Free.Fl.NoNaN64 sm → Goes p e below (s₁.setTop (mkF m 94 #[.val (.int pp), .val (.ref pl), .val (.ref cc), .val (.int ff), .val (.int tt), .val (.int aa), .val (.int bb), .val (.double (own_ex pp ff tt (2 : Int32) x2 c2 sm)), .second] [])) P → Goes p e below (s₁.setTop (mkF m 68 #[.val (.int pp), .val (.ref pl), .val (.ref cc), .val (.int ff), .val (.int tt), .val (.int aa), .val (.int bb), .val (.double sm), .second] [])) P := by
    intro P sm hs K
    unfold own_ex at K
    refine g_iload_n X0 hx 69 rfl (hb hby d6_68) rfl ?_
    refine g_iconst X0 hx 70 rfl (2 : Int32) rfl (hb hby d6_69) ?_
    by_cases k1 : (2 : Int32) < ff
    · refine g_icmpY X0 hx 94 (hb hby d6_70) (XT.ii_gt_t k1) (by decide) (by decide) ?_
      rw [if_pos k1] at K
      exact K
    · refine g_icmpN X0 hx 73 rfl (hb hby d6_70) (XT.ii_gt_f k1) ?_
      refine g_iconst X0 hx 74 rfl (2 : Int32) rfl (hb hby d6_73) ?_
      refine g_iload X0 hx 76 rfl (hb hby d6_74) rfl ?_
      by_cases k2 : (2 : Int32) < tt
      · refine g_icmpN X0 hx 79 rfl (hb hby d6_76) (XT.ii_ge_f k2) ?_
        refine g_aload_n X0 hx 80 rfl (hb hby d6_79) rfl rfl ?_
        refine g_iconst X0 hx 81 rfl (2 : Int32) rfl (hb hby d6_80) ?_
        refine g_iaload X0 hx hZ 82 rfl (hb hby d6_81) e0 Ap 2 rfl (.int x2) rfl ?_
        refine g_iload_n X0 hx 83 rfl (hb hby d6_82) rfl ?_
        by_cases k3 : x2 = pp
        · refine g_icmpN X0 hx 86 rfl (hb hby d6_83) (XT.ii_ne_f k3) ?_
          rw [if_neg k1, if_pos k2, if_pos k3] at K
          refine g_dload X0 hx 88 rfl (hb hby d6_86) rfl ?_
          refine g_aload_n X0 hx 89 rfl (hb hby d6_88) rfl rfl ?_
          refine g_iconst X0 hx 90 rfl (2 : Int32) rfl (hb hby d6_89) ?_
          refine g_daload X0 hx hZ 91 rfl (hb hby d6_90) e0 Ac 2 rfl (.double c2) rfl ?_
          refine g_dadd X0 hx 92 rfl (hb hby d6_91) (Jvm.Free.Fl.dadd_out hs hc2) ?_
          refine g_dstore X0 hx 94 rfl (hb hby d6_92) #[.val (.int pp), .val (.ref pl), .val (.ref cc), .val (.int ff), .val (.int tt), .val (.int aa), .val (.int bb), .val (.double (FP.dadd sm c2)), .second] rfl ?_
          exact K
        · refine g_icmpY X0 hx 94 (hb hby d6_83) (XT.ii_ne_t k3) (by decide) (by decide) ?_
          rw [if_neg k1, if_pos k2, if_neg k3] at K
          exact K
      · refine g_icmpY X0 hx 94 (hb hby d6_76) (XT.ii_ge_t k2) (by decide) (by decide) ?_
        rw [if_neg k1, if_neg k2] at K
        exact K
  have seg3 : ∀ (P : State → Outcome → Prop) (sm : UInt64), Jvm.Free.Fl.NoNaN64 sm → Goes p e below (s₁.setTop (mkF m 120 #[.val (.int pp), .val (.ref pl), .val (.ref cc), .val (.int ff), .val (.int tt), .val (.int aa), .val (.int bb), .val (.double (own_ex pp ff tt (3 : Int32) x3 c3 sm)), .second] [])) P → Goes p e below (s₁.setTop (mkF m 94 #[.val (.int pp), .val (.ref pl), .val (.ref cc), .val (.int ff), .val (.int tt), .val (.int aa), .val (.int bb), .val (.double sm), .second] [])) P := by
    intro P sm hs K
    unfold own_ex at K
    refine g_iload_n X0 hx 95 rfl (hb hby d6_94) rfl ?_
    refine g_iconst X0 hx 96 rfl (3 : Int32) rfl (hb hby d6_95) ?_
    by_cases k1 : (3 : Int32) < ff
    · refine g_icmpY X0 hx 120 (hb hby d6_96) (XT.ii_gt_t k1) (by decide) (by decide) ?_
      rw [if_pos k1] at K
      exact K
    · refine g_icmpN X0 hx 99 rfl (hb hby d6_96) (XT.ii_gt_f k1) ?_
      refine g_iconst X0 hx 100 rfl (3 : Int32) rfl (hb hby d6_99) ?_
      refine g_iload X0 hx 102 rfl (hb hby d6_100) rfl ?_
      by_cases k2 : (3 : Int32) < tt
      · refine g_icmpN X0 hx 105 rfl (hb hby d6_102) (XT.ii_ge_f k2) ?_
        refine g_aload_n X0 hx 106 rfl (hb hby d6_105) rfl rfl ?_
        refine g_iconst X0 hx 107 rfl (3 : Int32) rfl (hb hby d6_106) ?_
        refine g_iaload X0 hx hZ 108 rfl (hb hby d6_107) e0 Ap 3 rfl (.int x3) rfl ?_
        refine g_iload_n X0 hx 109 rfl (hb hby d6_108) rfl ?_
        by_cases k3 : x3 = pp
        · refine g_icmpN X0 hx 112 rfl (hb hby d6_109) (XT.ii_ne_f k3) ?_
          rw [if_neg k1, if_pos k2, if_pos k3] at K
          refine g_dload X0 hx 114 rfl (hb hby d6_112) rfl ?_
          refine g_aload_n X0 hx 115 rfl (hb hby d6_114) rfl rfl ?_
          refine g_iconst X0 hx 116 rfl (3 : Int32) rfl (hb hby d6_115) ?_
          refine g_daload X0 hx hZ 117 rfl (hb hby d6_116) e0 Ac 3 rfl (.double c3) rfl ?_
          refine g_dadd X0 hx 118 rfl (hb hby d6_117) (Jvm.Free.Fl.dadd_out hs hc3) ?_
          refine g_dstore X0 hx 120 rfl (hb hby d6_118) #[.val (.int pp), .val (.ref pl), .val (.ref cc), .val (.int ff), .val (.int tt), .val (.int aa), .val (.int bb), .val (.double (FP.dadd sm c3)), .second] rfl ?_
          exact K
        · refine g_icmpY X0 hx 120 (hb hby d6_109) (XT.ii_ne_t k3) (by decide) (by decide) ?_
          rw [if_neg k1, if_pos k2, if_neg k3] at K
          exact K
      · refine g_icmpY X0 hx 120 (hb hby d6_102) (XT.ii_ge_t k2) (by decide) (by decide) ?_
        rw [if_neg k1, if_neg k2] at K
        exact K
  refine g_iload_n X0 hx 1 rfl (hb hby d6_0) rfl ?_
  refine g_iload X0 hx 3 rfl (hb hby d6_1) rfl ?_
  by_cases q3 : pp = aa
  · refine g_icmpY X0 hx 14 (hb hby d6_3) (XT.ii_eq_t q3) (by decide) (by decide) ?_
    refine g_dconst0 X0 hx 15 rfl (0 : UInt64) own_dc0 (hb hby d6_14) ?_
    refine g_dstore X0 hx 17 rfl (hb hby d6_15) #[.val (.int pp), .val (.ref pl), .val (.ref cc), .val (.int ff), .val (.int tt), .val (.int aa), .val (.int bb), .val (.double (0 : UInt64)), .second] rfl ?_
    refine seg0 _ (0 : UInt64) own_nn0 ?_
    refine seg1 _ (own_ex pp ff tt (0 : Int32) x0 c0 (0 : UInt64)) (own_ex_nn _ _ _ _ _ hc0 own_nn0) ?_
    refine seg2 _ (own_ex pp ff tt (1 : Int32) x1 c1 (own_ex pp ff tt (0 : Int32) x0 c0 (0 : UInt64))) (own_ex_nn _ _ _ _ _ hc1 (own_ex_nn _ _ _ _ _ hc0 own_nn0)) ?_
    refine seg3 _ (own_ex pp ff tt (2 : Int32) x2 c2 (own_ex pp ff tt (1 : Int32) x1 c1 (own_ex pp ff tt (0 : Int32) x0 c0 (0 : UInt64)))) (own_ex_nn _ _ _ _ _ hc2 (own_ex_nn _ _ _ _ _ hc1 (own_ex_nn _ _ _ _ _ hc0 own_nn0))) ?_
    refine g_dload X0 hx 122 rfl (hb hby d6_120) rfl ?_
    exact g_retD X0 hx hret hlk (hb hby d6_122) ⟨by unfold own_expd own_all; rw [if_pos (Or.inl q3)], N0, e0⟩ (by decide) (by decide)
  · refine g_icmpN X0 hx 6 rfl (hb hby d6_3) (XT.ii_eq_f q3) ?_
    refine g_iload_n X0 hx 7 rfl (hb hby d6_6) rfl ?_
    refine g_iload X0 hx 9 rfl (hb hby d6_7) rfl ?_
    by_cases q9 : pp = bb
    · refine g_icmpY X0 hx 14 (hb hby d6_9) (XT.ii_eq_t q9) (by decide) (by decide) ?_
      refine g_dconst0 X0 hx 15 rfl (0 : UInt64) own_dc0 (hb hby d6_14) ?_
      refine g_dstore X0 hx 17 rfl (hb hby d6_15) #[.val (.int pp), .val (.ref pl), .val (.ref cc), .val (.int ff), .val (.int tt), .val (.int aa), .val (.int bb), .val (.double (0 : UInt64)), .second] rfl ?_
      refine seg0 _ (0 : UInt64) own_nn0 ?_
      refine seg1 _ (own_ex pp ff tt (0 : Int32) x0 c0 (0 : UInt64)) (own_ex_nn _ _ _ _ _ hc0 own_nn0) ?_
      refine seg2 _ (own_ex pp ff tt (1 : Int32) x1 c1 (own_ex pp ff tt (0 : Int32) x0 c0 (0 : UInt64))) (own_ex_nn _ _ _ _ _ hc1 (own_ex_nn _ _ _ _ _ hc0 own_nn0)) ?_
      refine seg3 _ (own_ex pp ff tt (2 : Int32) x2 c2 (own_ex pp ff tt (1 : Int32) x1 c1 (own_ex pp ff tt (0 : Int32) x0 c0 (0 : UInt64)))) (own_ex_nn _ _ _ _ _ hc2 (own_ex_nn _ _ _ _ _ hc1 (own_ex_nn _ _ _ _ _ hc0 own_nn0))) ?_
      refine g_dload X0 hx 122 rfl (hb hby d6_120) rfl ?_
      exact g_retD X0 hx hret hlk (hb hby d6_122) ⟨by unfold own_expd own_all; rw [if_pos (Or.inr q9)], N0, e0⟩ (by decide) (by decide)
    · refine g_icmpN X0 hx 12 rfl (hb hby d6_9) (XT.ii_eq_f q9) ?_
      refine g_dconst0 X0 hx 13 rfl (0 : UInt64) own_dc0 (hb hby d6_12) ?_
      exact g_retD X0 hx hret hlk (hb hby d6_13) ⟨by unfold own_expd; rw [if_neg (fun z => z.elim q3 q9)], N0, e0⟩ (by decide) (by decide)
theorem pf_6 : plainFor (⟨"com/example/tallyrank/tallyrank/search/ScoreWindowsAddKeptPinLaw", "law", "(JJII)Z"⟩ : MethodName) = true := by first | exact plainFor_of_name (by first | (simp [plainName, overriddenIn]; done) | decide +kernel) | decide +kernel
theorem pd_1 : parseMethodDescriptor "([IIIII)I" = some ⟨[.array .int, .int, .int, .int, .int], some .int⟩ := by decide +kernel
theorem pd_2 : parseMethodDescriptor "([I[DIII)V" = some ⟨[.array .int, .array .double, .int, .int, .int], none⟩ := by decide +kernel
theorem pd_3 : parseMethodDescriptor "(I)D" = some ⟨[.int], some .double⟩ := by decide +kernel
theorem pd_4 : parseMethodDescriptor "(I[I[DIIII)D" = some ⟨[.int, .array .int, .array .double, .int, .int, .int, .int], some .double⟩ := by decide +kernel
theorem pd_5 : parseMethodDescriptor "(I)Z" = some ⟨[.int], some .boolean⟩ := by decide +kernel
theorem ef_0_rm0 (m : MethodId) (p1 : Int64) (p2 : Int64) (p3 : Int32) (p4 : Int32)  : entryFrame m #[(.long p1), (.long p2), (.int p3), (.int p4)] maxLocals = mkF m 0 #[.val (.long p1), .second, .val (.long p2), .second, .val (.int p3), .val (.int p4), .unset, .unset, .unset, .unset, .unset, .unset, .unset, .unset, .unset, .unset, .unset, .unset, .unset] [] := by first | (simp [entryFrame, mkF, argsToLocals, Value.category, maxLocals]; done) | rfl
def Q_rm0 (Z : State) (p1 : Int64) (p2 : Int64) (p3 : Int32) (p4 : Int32) (h0 : Heap) (n0 : Nat) (v : Option Value) (h : Heap) (L : List Loc) : Prop := v = some (.int 1) ∧ Fr n0 L
set_option maxRecDepth 65536 in
set_option maxHeartbeats 40000000 in
theorem rm0 (l : Launch) (Z : State) (a0 : Array Value) (hw : ∀ d ∈ tables_1, d.before a0 Z = true) (ws : List Jvm.Cond) (p1 : Int64) (p2 : Int64) (p3 : Int32) (p4 : Int32) (h0 : Heap) (n0 : Nat) (Z0 : n0 ≤ h0.size)  :
    OwnMet l Z x code maxLocals ret ws room_1 #[(.long p1), (.long p2), (.int p3), (.int p4)] h0 (Q_rm0 Z p1 p2 p3 p4 h0 n0) := by
  refine own_body pf_6 ?_
  intro p e s m below meth c s₁ hx hby hml hown hnm hret hlk hZ X0 e0
  have N0 := Fr.nil n0
  refine own_cast (ef_0_rm0 m p1 p2 p3 p4 ) ?_
  have tail : ∀ (wd mk : Int32), mk = 8191 ∨ mk = 3 → Goes p e below (s₁.setTop (mkF m 28 #[.val (.long p1), .second, .val (.long p2), .second, .val (.int p3), .val (.int p4), .val (.int wd), .val (.int mk), .unset, .unset, .unset, .unset, .unset, .unset, .unset, .unset, .unset, .unset, .unset] [])) (Endz s room_1.cells room_1.slots (Q_rm0 Z p1 p2 p3 p4 h0 n0)) := by
    intro wd mk hmk
    refine g_iconst X0 hx 29 rfl (4 : Int32) rfl (hb hby at_28) ?_
    refine g_newarr X0 hx hZ 31 rfl (hw _ (List.mem_of_getElem? (i := 0) rfl)) e0 (hb hby at_29) 4 rfl 4 (Nat.le_refl _) (by decide) (by decide) (by decide) "[I" (by decide) ?_
    intro T1 h1 o1 g1 X1 e1 E1 A1 Ex1
    have ge_o1 : n0 ≤ o1 := Nat.le_trans Z0 (Nat.le_of_eq g1.symm)
    have Al1 : Al Z h1 o1 .int [.int (0 : Int32), .int (0 : Int32), .int (0 : Int32), .int (0 : Int32)] := A1
    refine g_astore X1 hx 33 rfl (hb hby at_31) rfl #[.val (.long p1), .second, .val (.long p2), .second, .val (.int p3), .val (.int p4), .val (.int wd), .val (.int mk), .val (.ref o1), .unset, .unset, .unset, .unset, .unset, .unset, .unset, .unset, .unset, .unset] rfl ?_
    refine g_aload X1 hx 35 rfl (hb hby at_33) rfl rfl ?_
    refine g_iconst X1 hx 36 rfl (0 : Int32) rfl (hb hby at_35) ?_
    refine g_lload_n X1 hx 37 rfl (hb hby at_36) rfl ?_
    refine g_l2i X1 hx 38 rfl (hb hby at_37) ?_
    refine g_iload X1 hx 40 rfl (hb hby at_38) rfl ?_
    refine g_iand X1 hx 41 rfl (hb hby at_40) ?_
    obtain ⟨x0, e_x0, l_x0⟩ := own_msk p1.toInt32 mk hmk
    rw [e_x0]
    refine g_iastore X1 hx hZ 42 rfl (hb hby at_41) e1 Al1 0 rfl (show 0 < 4 by decide) ?_
    intro T2 h2 X2 e2 W2 B2
    have N2 := Fr.snoc X2 N0 ge_o1
    have Al2 : Al Z h2 o1 .int [.int (Int32.ofNat x0), .int (0 : Int32), .int (0 : Int32), .int (0 : Int32)] := B2
    refine g_aload X2 hx 44 rfl (hb hby at_42) rfl rfl ?_
    refine g_iconst X2 hx 45 rfl (1 : Int32) rfl (hb hby at_44) ?_
    refine g_lload_n X2 hx 46 rfl (hb hby at_45) rfl ?_
    refine g_bipush X2 hx 48 rfl (13 : Int32) rfl (hb hby at_46) ?_
    refine g_lushr X2 hx 49 rfl (hb hby at_48) ?_
    refine g_l2i X2 hx 50 rfl (hb hby at_49) ?_
    refine g_iload X2 hx 52 rfl (hb hby at_50) rfl ?_
    refine g_iand X2 hx 53 rfl (hb hby at_52) ?_
    obtain ⟨x1, e_x1, l_x1⟩ := own_msk (XT.ushrL p1 (13 : Int32)).toInt32 mk hmk
    rw [e_x1]
    refine g_iastore X2 hx hZ 54 rfl (hb hby at_53) e2 Al2 1 rfl (show 1 < 4 by decide) ?_
    intro T3 h3 X3 e3 W3 B3
    have N3 := Fr.snoc X3 N2 ge_o1
    have Al3 : Al Z h3 o1 .int [.int (Int32.ofNat x0), .int (Int32.ofNat x1), .int (0 : Int32), .int (0 : Int32)] := B3
    refine g_aload X3 hx 56 rfl (hb hby at_54) rfl rfl ?_
    refine g_iconst X3 hx 57 rfl (2 : Int32) rfl (hb hby at_56) ?_
    refine g_lload_n X3 hx 58 rfl (hb hby at_57) rfl ?_
    refine g_bipush X3 hx 60 rfl (26 : Int32) rfl (hb hby at_58) ?_
    refine g_lushr X3 hx 61 rfl (hb hby at_60) ?_
    refine g_l2i X3 hx 62 rfl (hb hby at_61) ?_
    refine g_iload X3 hx 64 rfl (hb hby at_62) rfl ?_
    refine g_iand X3 hx 65 rfl (hb hby at_64) ?_
    obtain ⟨x2, e_x2, l_x2⟩ := own_msk (XT.ushrL p1 (26 : Int32)).toInt32 mk hmk
    rw [e_x2]
    refine g_iastore X3 hx hZ 66 rfl (hb hby at_65) e3 Al3 2 rfl (show 2 < 4 by decide) ?_
    intro T4 h4 X4 e4 W4 B4
    have N4 := Fr.snoc X4 N3 ge_o1
    have Al4 : Al Z h4 o1 .int [.int (Int32.ofNat x0), .int (Int32.ofNat x1), .int (Int32.ofNat x2), .int (0 : Int32)] := B4
    refine g_aload X4 hx 68 rfl (hb hby at_66) rfl rfl ?_
    refine g_iconst X4 hx 69 rfl (3 : Int32) rfl (hb hby at_68) ?_
    refine g_lload_n X4 hx 70 rfl (hb hby at_69) rfl ?_
    refine g_bipush X4 hx 72 rfl (39 : Int32) rfl (hb hby at_70) ?_
    refine g_lushr X4 hx 73 rfl (hb hby at_72) ?_
    refine g_l2i X4 hx 74 rfl (hb hby at_73) ?_
    refine g_iload X4 hx 76 rfl (hb hby at_74) rfl ?_
    refine g_iand X4 hx 77 rfl (hb hby at_76) ?_
    obtain ⟨x3, e_x3, l_x3⟩ := own_msk (XT.ushrL p1 (39 : Int32)).toInt32 mk hmk
    rw [e_x3]
    refine g_iastore X4 hx hZ 78 rfl (hb hby at_77) e4 Al4 3 rfl (show 3 < 4 by decide) ?_
    intro T5 h5 X5 e5 W5 B5
    have N5 := Fr.snoc X5 N4 ge_o1
    have Al5 : Al Z h5 o1 .int [.int (Int32.ofNat x0), .int (Int32.ofNat x1), .int (Int32.ofNat x2), .int (Int32.ofNat x3)] := B5
    refine g_aload X5 hx 80 rfl (hb hby at_78) rfl rfl ?_
    refine g_iload X5 hx 82 rfl (hb hby at_80) rfl ?_
    refine g_iconst X5 hx 83 rfl (1 : Int32) rfl (hb hby at_82) ?_
    refine g_iushr X5 hx 84 rfl (hb hby at_83) ?_
    refine g_iconst X5 hx 85 rfl (3 : Int32) rfl (hb hby at_84) ?_
    refine g_iand X5 hx 86 rfl (hb hby at_85) ?_
    obtain ⟨ia, e_ia, l_ia⟩ := own_m3 (XT.ushr p4 (1 : Int32))
    rw [e_ia]
    refine g_iaload X5 hx hZ 87 rfl (hb hby at_86) e5 Al5 ia (own_ofi ia (by omega)) (.int (Int32.ofNat (own_4 x0 x1 x2 x3 ia))) (own_p4 (own_4 x0 x1 x2 x3) ia l_ia) ?_
    have l_ma := own_4_lt l_x0 l_x1 l_x2 l_x3 ia
    generalize e_ma : own_4 x0 x1 x2 x3 ia = ma at l_ma ⊢
    refine g_istore X5 hx 89 rfl (hb hby at_87) #[.val (.long p1), .second, .val (.long p2), .second, .val (.int p3), .val (.int p4), .val (.int wd), .val (.int mk), .val (.ref o1), .val (.int (Int32.ofNat ma)), .unset, .unset, .unset, .unset, .unset, .unset, .unset, .unset, .unset] rfl ?_
    refine g_lload_n X5 hx 90 rfl (hb hby at_89) rfl ?_
    refine g_bipush X5 hx 92 rfl (52 : Int32) rfl (hb hby at_90) ?_
    refine g_lushr X5 hx 93 rfl (hb hby at_92) ?_
    refine g_l2i X5 hx 94 rfl (hb hby at_93) ?_
    refine g_iload X5 hx 96 rfl (hb hby at_94) rfl ?_
    refine g_iand X5 hx 97 rfl (hb hby at_96) ?_
    obtain ⟨mb, e_mb, l_mb⟩ := own_msk (XT.ushrL p1 (52 : Int32)).toInt32 mk hmk
    rw [e_mb]
    refine g_istore X5 hx 99 rfl (hb hby at_97) #[.val (.long p1), .second, .val (.long p2), .second, .val (.int p3), .val (.int p4), .val (.int wd), .val (.int mk), .val (.ref o1), .val (.int (Int32.ofNat ma)), .val (.int (Int32.ofNat mb)), .unset, .unset, .unset, .unset, .unset, .unset, .unset, .unset] rfl ?_
    refine g_iload X5 hx 101 rfl (hb hby at_99) rfl ?_
    refine g_iconst X5 hx 102 rfl (3 : Int32) rfl (hb hby at_101) ?_
    refine g_iushr X5 hx 103 rfl (hb hby at_102) ?_
    refine g_iconst X5 hx 104 rfl (3 : Int32) rfl (hb hby at_103) ?_
    refine g_iand X5 hx 105 rfl (hb hby at_104) ?_
    obtain ⟨f, e_f, l_f⟩ := own_m3 (XT.ushr p4 (3 : Int32))
    rw [e_f]
    refine g_istore X5 hx 107 rfl (hb hby at_105) #[.val (.long p1), .second, .val (.long p2), .second, .val (.int p3), .val (.int p4), .val (.int wd), .val (.int mk), .val (.ref o1), .val (.int (Int32.ofNat ma)), .val (.int (Int32.ofNat mb)), .val (.int (Int32.ofNat f)), .unset, .unset, .unset, .unset, .unset, .unset, .unset] rfl ?_
    refine g_iload X5 hx 109 rfl (hb hby at_107) rfl ?_
    refine g_iconst X5 hx 110 rfl (5 : Int32) rfl (hb hby at_109) ?_
    refine g_iushr X5 hx 111 rfl (hb hby at_110) ?_
    refine g_iconst X5 hx 112 rfl (5 : Int32) rfl (hb hby at_111) ?_
    refine g_irem X5 hx 113 rfl (hb hby at_112) (by decide) ?_
    obtain ⟨t, e_t, l_t⟩ := own_m5 p4
    rw [e_t]
    refine g_istore X5 hx 115 rfl (hb hby at_113) #[.val (.long p1), .second, .val (.long p2), .second, .val (.int p3), .val (.int p4), .val (.int wd), .val (.int mk), .val (.ref o1), .val (.int (Int32.ofNat ma)), .val (.int (Int32.ofNat mb)), .val (.int (Int32.ofNat f)), .val (.int (Int32.ofNat t)), .unset, .unset, .unset, .unset, .unset, .unset] rfl ?_
    refine g_iconst X5 hx 116 rfl (4 : Int32) rfl (hb hby at_115) ?_
    refine g_newarr X5 hx hZ 118 rfl (hw _ (List.mem_of_getElem? (i := 1) rfl)) e5 (hb hby at_116) 4 rfl 4 (Nat.le_refl _) (by decide) (by decide) (by decide) "[D" (by decide) ?_
    intro T6 h6 o6 g6 X6 e6 E6 A6 Ex6
    have Exa7 := ((((Ex1.wr W2).wr W3).wr W4).wr W5)
    have ne_o1_o6 : o1 ≠ o6 := Nat.ne_of_lt (Nat.lt_of_lt_of_eq Exa7.lt g6.symm)
    have Zl8 : n0 ≤ h5.size := (Nat.le_trans (Nat.le_trans (Nat.le_trans (Nat.le_trans (Nat.le_trans Z0 E1.1) (Nat.le_of_eq W2.size.symm)) (Nat.le_of_eq W3.size.symm)) (Nat.le_of_eq W4.size.symm)) (Nat.le_of_eq W5.size.symm))
    have ge_o6 : n0 ≤ o6 := Nat.le_trans Zl8 (Nat.le_of_eq g6.symm)
    have Al6 : Al Z h6 o6 .double [.double 0, .double 0, .double 0, .double 0] := A6
    refine g_astore X6 hx 120 rfl (hb hby at_118) rfl #[.val (.long p1), .second, .val (.long p2), .second, .val (.int p3), .val (.int p4), .val (.int wd), .val (.int mk), .val (.ref o1), .val (.int (Int32.ofNat ma)), .val (.int (Int32.ofNat mb)), .val (.int (Int32.ofNat f)), .val (.int (Int32.ofNat t)), .val (.ref o6), .unset, .unset, .unset, .unset, .unset] rfl ?_
    refine g_aload X6 hx 122 rfl (hb hby at_120) rfl rfl ?_
    refine g_iconst X6 hx 123 rfl (0 : Int32) rfl (hb hby at_122) ?_
    refine g_lload_n X6 hx 124 rfl (hb hby at_123) rfl ?_
    refine g_l2i X6 hx 125 rfl (hb hby at_124) ?_
    refine g_i2s X6 hx 126 rfl (hb hby at_125) ?_
    refine g_i2d X6 hx 127 rfl (hb hby at_126) ?_
    refine g_dastore X6 hx hZ 128 rfl (hb hby at_127) e6 Al6 0 rfl (show 0 < 4 by decide) ?_
    intro T9 h9 X9 e9 W9 B9
    have N9 := Fr.snoc X9 N5 ge_o6
    have Al9 : Al Z h9 o6 .double [.double (FP.i2d p2.toInt32.toInt16.toInt32), .double 0, .double 0, .double 0] := B9
    refine g_aload X9 hx 130 rfl (hb hby at_128) rfl rfl ?_
    refine g_iconst X9 hx 131 rfl (1 : Int32) rfl (hb hby at_130) ?_
    refine g_lload_n X9 hx 132 rfl (hb hby at_131) rfl ?_
    refine g_bipush X9 hx 134 rfl (16 : Int32) rfl (hb hby at_132) ?_
    refine g_lushr X9 hx 135 rfl (hb hby at_134) ?_
    refine g_l2i X9 hx 136 rfl (hb hby at_135) ?_
    refine g_i2s X9 hx 137 rfl (hb hby at_136) ?_
    refine g_i2d X9 hx 138 rfl (hb hby at_137) ?_
    refine g_dastore X9 hx hZ 139 rfl (hb hby at_138) e9 Al9 1 rfl (show 1 < 4 by decide) ?_
    intro T10 h10 X10 e10 W10 B10
    have N10 := Fr.snoc X10 N9 ge_o6
    have Al10 : Al Z h10 o6 .double [.double (FP.i2d p2.toInt32.toInt16.toInt32), .double (FP.i2d (((XT.ushrL p2 (16 : Int32)).toInt32).toInt16.toInt32)), .double 0, .double 0] := B10
    refine g_aload X10 hx 141 rfl (hb hby at_139) rfl rfl ?_
    refine g_iconst X10 hx 142 rfl (2 : Int32) rfl (hb hby at_141) ?_
    refine g_lload_n X10 hx 143 rfl (hb hby at_142) rfl ?_
    refine g_bipush X10 hx 145 rfl (32 : Int32) rfl (hb hby at_143) ?_
    refine g_lushr X10 hx 146 rfl (hb hby at_145) ?_
    refine g_l2i X10 hx 147 rfl (hb hby at_146) ?_
    refine g_i2s X10 hx 148 rfl (hb hby at_147) ?_
    refine g_i2d X10 hx 149 rfl (hb hby at_148) ?_
    refine g_dastore X10 hx hZ 150 rfl (hb hby at_149) e10 Al10 2 rfl (show 2 < 4 by decide) ?_
    intro T11 h11 X11 e11 W11 B11
    have N11 := Fr.snoc X11 N10 ge_o6
    have Al11 : Al Z h11 o6 .double [.double (FP.i2d p2.toInt32.toInt16.toInt32), .double (FP.i2d (((XT.ushrL p2 (16 : Int32)).toInt32).toInt16.toInt32)), .double (FP.i2d (((XT.ushrL p2 (32 : Int32)).toInt32).toInt16.toInt32)), .double 0] := B11
    refine g_aload X11 hx 152 rfl (hb hby at_150) rfl rfl ?_
    refine g_iconst X11 hx 153 rfl (3 : Int32) rfl (hb hby at_152) ?_
    refine g_lload_n X11 hx 154 rfl (hb hby at_153) rfl ?_
    refine g_bipush X11 hx 156 rfl (48 : Int32) rfl (hb hby at_154) ?_
    refine g_lushr X11 hx 157 rfl (hb hby at_156) ?_
    refine g_l2i X11 hx 158 rfl (hb hby at_157) ?_
    refine g_i2s X11 hx 159 rfl (hb hby at_158) ?_
    refine g_i2d X11 hx 160 rfl (hb hby at_159) ?_
    refine g_dastore X11 hx hZ 161 rfl (hb hby at_160) e11 Al11 3 rfl (show 3 < 4 by decide) ?_
    intro T12 h12 X12 e12 W12 B12
    have N12 := Fr.snoc X12 N11 ge_o6
    have Al12 : Al Z h12 o6 .double [.double (FP.i2d p2.toInt32.toInt16.toInt32), .double (FP.i2d (((XT.ushrL p2 (16 : Int32)).toInt32).toInt16.toInt32)), .double (FP.i2d (((XT.ushrL p2 (32 : Int32)).toInt32).toInt16.toInt32)), .double (FP.i2d (((XT.ushrL p2 (48 : Int32)).toInt32).toInt16.toInt32))] := B12
    refine g_iconst X12 hx 162 rfl (4 : Int32) rfl (hb hby at_161) ?_
    refine g_newarr X12 hx hZ 164 rfl (hw _ (List.mem_of_getElem? (i := 0) rfl)) e12 (hb hby at_162) 4 rfl 4 (Nat.le_refl _) (by decide) (by decide) (by decide) "[I" (by decide) ?_
    intro T13 h13 o13 g13 X13 e13 E13 A13 Ex13
    have Exa14 := (((((Exa7.ext E6).wr W9).wr W10).wr W11).wr W12)
    have ne_o1_o13 : o1 ≠ o13 := Nat.ne_of_lt (Nat.lt_of_lt_of_eq Exa14.lt g13.symm)
    have Exa15 := ((((Ex6.wr W9).wr W10).wr W11).wr W12)
    have ne_o6_o13 : o6 ≠ o13 := Nat.ne_of_lt (Nat.lt_of_lt_of_eq Exa15.lt g13.symm)
    have Zl16 : n0 ≤ h12.size := (Nat.le_trans (Nat.le_trans (Nat.le_trans (Nat.le_trans (Nat.le_trans Zl8 E6.1) (Nat.le_of_eq W9.size.symm)) (Nat.le_of_eq W10.size.symm)) (Nat.le_of_eq W11.size.symm)) (Nat.le_of_eq W12.size.symm))
    have ge_o13 : n0 ≤ o13 := Nat.le_trans Zl16 (Nat.le_of_eq g13.symm)
    have Al13 : Al Z h13 o13 .int [.int (0 : Int32), .int (0 : Int32), .int (0 : Int32), .int (0 : Int32)] := A13
    refine g_astore X13 hx 166 rfl (hb hby at_164) rfl #[.val (.long p1), .second, .val (.long p2), .second, .val (.int p3), .val (.int p4), .val (.int wd), .val (.int mk), .val (.ref o1), .val (.int (Int32.ofNat ma)), .val (.int (Int32.ofNat mb)), .val (.int (Int32.ofNat f)), .val (.int (Int32.ofNat t)), .val (.ref o6), .val (.ref o13), .unset, .unset, .unset, .unset] rfl ?_
    refine g_aload X13 hx 168 rfl (hb hby at_166) rfl rfl ?_
    refine g_iconst X13 hx 169 rfl (0 : Int32) rfl (hb hby at_168) ?_
    refine g_iload X13 hx 171 rfl (hb hby at_169) rfl ?_
    refine g_aload X13 hx 173 rfl (hb hby at_171) rfl rfl ?_
    refine g_iconst X13 hx 174 rfl (0 : Int32) rfl (hb hby at_173) ?_
    have Al17 := ((((((Al5.ext E6).other W9 ne_o1_o6).other W10 ne_o1_o6).other W11 ne_o1_o6).other W12 ne_o1_o6).ext E13)
    refine g_iaload X13 hx hZ 175 rfl (hb hby at_174) e13 Al17 0 rfl (.int (Int32.ofNat x0)) rfl ?_
    refine g_iadd X13 hx 176 rfl (hb hby at_175) ?_
    refine g_iastore X13 hx hZ 177 rfl (hb hby at_176) e13 Al13 0 rfl (show 0 < 4 by decide) ?_
    intro T18 h18 X18 e18 W18 B18
    have N18 := Fr.snoc X18 N12 ge_o13
    have Al18 : Al Z h18 o13 .int [.int (p3 + (Int32.ofNat x0)), .int (0 : Int32), .int (0 : Int32), .int (0 : Int32)] := B18
    refine g_aload X18 hx 179 rfl (hb hby at_177) rfl rfl ?_
    refine g_iconst X18 hx 180 rfl (1 : Int32) rfl (hb hby at_179) ?_
    refine g_iload X18 hx 182 rfl (hb hby at_180) rfl ?_
    refine g_aload X18 hx 184 rfl (hb hby at_182) rfl rfl ?_
    refine g_iconst X18 hx 185 rfl (1 : Int32) rfl (hb hby at_184) ?_
    have Al19 := (Al17.other W18 ne_o1_o13)
    refine g_iaload X18 hx hZ 186 rfl (hb hby at_185) e18 Al19 1 rfl (.int (Int32.ofNat x1)) rfl ?_
    refine g_iadd X18 hx 187 rfl (hb hby at_186) ?_
    refine g_iastore X18 hx hZ 188 rfl (hb hby at_187) e18 Al18 1 rfl (show 1 < 4 by decide) ?_
    intro T20 h20 X20 e20 W20 B20
    have N20 := Fr.snoc X20 N18 ge_o13
    have Al20 : Al Z h20 o13 .int [.int (p3 + (Int32.ofNat x0)), .int (p3 + (Int32.ofNat x1)), .int (0 : Int32), .int (0 : Int32)] := B20
    refine g_aload X20 hx 190 rfl (hb hby at_188) rfl rfl ?_
    refine g_iconst X20 hx 191 rfl (2 : Int32) rfl (hb hby at_190) ?_
    refine g_iload X20 hx 193 rfl (hb hby at_191) rfl ?_
    refine g_aload X20 hx 195 rfl (hb hby at_193) rfl rfl ?_
    refine g_iconst X20 hx 196 rfl (2 : Int32) rfl (hb hby at_195) ?_
    have Al21 := (Al19.other W20 ne_o1_o13)
    refine g_iaload X20 hx hZ 197 rfl (hb hby at_196) e20 Al21 2 rfl (.int (Int32.ofNat x2)) rfl ?_
    refine g_iadd X20 hx 198 rfl (hb hby at_197) ?_
    refine g_iastore X20 hx hZ 199 rfl (hb hby at_198) e20 Al20 2 rfl (show 2 < 4 by decide) ?_
    intro T22 h22 X22 e22 W22 B22
    have N22 := Fr.snoc X22 N20 ge_o13
    have Al22 : Al Z h22 o13 .int [.int (p3 + (Int32.ofNat x0)), .int (p3 + (Int32.ofNat x1)), .int (p3 + (Int32.ofNat x2)), .int (0 : Int32)] := B22
    refine g_aload X22 hx 201 rfl (hb hby at_199) rfl rfl ?_
    refine g_iconst X22 hx 202 rfl (3 : Int32) rfl (hb hby at_201) ?_
    refine g_iload X22 hx 204 rfl (hb hby at_202) rfl ?_
    refine g_aload X22 hx 206 rfl (hb hby at_204) rfl rfl ?_
    refine g_iconst X22 hx 207 rfl (3 : Int32) rfl (hb hby at_206) ?_
    have Al23 := (Al21.other W22 ne_o1_o13)
    refine g_iaload X22 hx hZ 208 rfl (hb hby at_207) e22 Al23 3 rfl (.int (Int32.ofNat x3)) rfl ?_
    refine g_iadd X22 hx 209 rfl (hb hby at_208) ?_
    refine g_iastore X22 hx hZ 210 rfl (hb hby at_209) e22 Al22 3 rfl (show 3 < 4 by decide) ?_
    intro T24 h24 X24 e24 W24 B24
    have N24 := Fr.snoc X24 N22 ge_o13
    have Al24 : Al Z h24 o13 .int [.int (p3 + (Int32.ofNat x0)), .int (p3 + (Int32.ofNat x1)), .int (p3 + (Int32.ofNat x2)), .int (p3 + (Int32.ofNat x3))] := B24
    refine g_iconst X24 hx 211 rfl (2 : Int32) rfl (hb hby at_210) ?_
    refine g_newarr X24 hx hZ 213 rfl (hw _ (List.mem_of_getElem? (i := 0) rfl)) e24 (hb hby at_211) 2 rfl 2 (Nat.le_refl _) (by decide) (by decide) (by decide) "[I" (by decide) ?_
    intro T25 h25 o25 g25 X25 e25 E25 A25 Ex25
    have Exa26 := (((((Exa14.ext E13).wr W18).wr W20).wr W22).wr W24)
    have ne_o1_o25 : o1 ≠ o25 := Nat.ne_of_lt (Nat.lt_of_lt_of_eq Exa26.lt g25.symm)
    have Exa27 := (((((Exa15.ext E13).wr W18).wr W20).wr W22).wr W24)
    have ne_o6_o25 : o6 ≠ o25 := Nat.ne_of_lt (Nat.lt_of_lt_of_eq Exa27.lt g25.symm)
    have Exa28 := ((((Ex13.wr W18).wr W20).wr W22).wr W24)
    have ne_o13_o25 : o13 ≠ o25 := Nat.ne_of_lt (Nat.lt_of_lt_of_eq Exa28.lt g25.symm)
    have Zl29 : n0 ≤ h24.size := (Nat.le_trans (Nat.le_trans (Nat.le_trans (Nat.le_trans (Nat.le_trans Zl16 E13.1) (Nat.le_of_eq W18.size.symm)) (Nat.le_of_eq W20.size.symm)) (Nat.le_of_eq W22.size.symm)) (Nat.le_of_eq W24.size.symm))
    have ge_o25 : n0 ≤ o25 := Nat.le_trans Zl29 (Nat.le_of_eq g25.symm)
    have Al25 : Al Z h25 o25 .int [.int (0 : Int32), .int (0 : Int32)] := A25
    refine g_astore X25 hx 215 rfl (hb hby at_213) rfl #[.val (.long p1), .second, .val (.long p2), .second, .val (.int p3), .val (.int p4), .val (.int wd), .val (.int mk), .val (.ref o1), .val (.int (Int32.ofNat ma)), .val (.int (Int32.ofNat mb)), .val (.int (Int32.ofNat f)), .val (.int (Int32.ofNat t)), .val (.ref o6), .val (.ref o13), .val (.ref o25), .unset, .unset, .unset] rfl ?_
    refine g_aload X25 hx 217 rfl (hb hby at_215) rfl rfl ?_
    refine g_iconst X25 hx 218 rfl (0 : Int32) rfl (hb hby at_217) ?_
    refine g_iload X25 hx 220 rfl (hb hby at_218) rfl ?_
    refine g_iastore X25 hx hZ 221 rfl (hb hby at_220) e25 Al25 0 rfl (show 0 < 2 by decide) ?_
    intro T30 h30 X30 e30 W30 B30
    have N30 := Fr.snoc X30 N24 ge_o25
    have Al30 : Al Z h30 o25 .int [.int (Int32.ofNat ma), .int (0 : Int32)] := B30
    refine g_aload X30 hx 223 rfl (hb hby at_221) rfl rfl ?_
    refine g_iconst X30 hx 224 rfl (1 : Int32) rfl (hb hby at_223) ?_
    refine g_iload X30 hx 226 rfl (hb hby at_224) rfl ?_
    refine g_iastore X30 hx hZ 227 rfl (hb hby at_226) e30 Al30 1 rfl (show 1 < 2 by decide) ?_
    intro T31 h31 X31 e31 W31 B31
    have N31 := Fr.snoc X31 N30 ge_o25
    have Al31 : Al Z h31 o25 .int [.int (Int32.ofNat ma), .int (Int32.ofNat mb)] := B31
    refine g_aload X31 hx 229 rfl (hb hby at_227) rfl rfl ?_
    refine g_iconst X31 hx 230 rfl (0 : Int32) rfl (hb hby at_229) ?_
    have Al32 := ((((Al23.other W24 ne_o1_o13).ext E25).other W30 ne_o1_o25).other W31 ne_o1_o25)
    refine g_iaload X31 hx hZ 231 rfl (hb hby at_230) e31 Al32 0 rfl (.int (Int32.ofNat x0)) rfl ?_
    refine g_iconst X31 hx 232 rfl (1 : Int32) rfl (hb hby at_231) ?_
    refine g_iadd X31 hx 233 rfl (hb hby at_232) ?_
    refine g_sipush X31 hx 236 rfl (8191 : Int32) rfl (hb hby at_233) ?_
    refine g_iand X31 hx 237 rfl (hb hby at_236) ?_
    refine g_istore X31 hx 239 rfl (hb hby at_237) #[.val (.long p1), .second, .val (.long p2), .second, .val (.int p3), .val (.int p4), .val (.int wd), .val (.int mk), .val (.ref o1), .val (.int (Int32.ofNat ma)), .val (.int (Int32.ofNat mb)), .val (.int (Int32.ofNat f)), .val (.int (Int32.ofNat t)), .val (.ref o6), .val (.ref o13), .val (.ref o25), .val (.int (((Int32.ofNat x0) + (1 : Int32)) &&& (8191 : Int32))), .unset, .unset] rfl ?_
    obtain ⟨pb, e_pb, l_pb⟩ := own_msk ((Int32.ofNat x0) + (1 : Int32)) 8191 (Or.inl rfl)
    rw [e_pb]
    refine g_new X31 hx hZ 242 rfl hown (hw _ (List.mem_of_getElem? (i := 2) rfl)) (hw _ (List.mem_of_getElem? (i := 3) rfl)) (hw _ (List.mem_of_getElem? (i := 4) rfl)) e31 (hb hby at_239) (by decide) (by decide) ?_
    intro T33 h33 o33 g33 X33 e33 E33 A33 D33
    have Exa34 := (((Exa26.ext E25).wr W30).wr W31)
    have ne_o1_o33 : o1 ≠ o33 := Nat.ne_of_lt (Nat.lt_of_lt_of_eq Exa34.lt g33.symm)
    have Exa35 := (((Exa27.ext E25).wr W30).wr W31)
    have ne_o6_o33 : o6 ≠ o33 := Nat.ne_of_lt (Nat.lt_of_lt_of_eq Exa35.lt g33.symm)
    have Exa36 := (((Exa28.ext E25).wr W30).wr W31)
    have ne_o13_o33 : o13 ≠ o33 := Nat.ne_of_lt (Nat.lt_of_lt_of_eq Exa36.lt g33.symm)
    have Exa37 := ((Ex25.wr W30).wr W31)
    have ne_o25_o33 : o25 ≠ o33 := Nat.ne_of_lt (Nat.lt_of_lt_of_eq Exa37.lt g33.symm)
    have Zl38 : n0 ≤ h31.size := (Nat.le_trans (Nat.le_trans (Nat.le_trans Zl29 E25.1) (Nat.le_of_eq W30.size.symm)) (Nat.le_of_eq W31.size.symm))
    have ge_o33 : n0 ≤ o33 := Nat.le_trans Zl38 (Nat.le_of_eq g33.symm)
    refine g_dup X33 hx 243 rfl (hb hby at_242) rfl ?_
    have Al39 := (Al32.ext E33)
    have ltp : o1 < h33.size := Al39.lt
    have Al40 := (((((((((Al12.ext E13).other W18 ne_o6_o13).other W20 ne_o6_o13).other W22 ne_o6_o13).other W24 ne_o6_o13).ext E25).other W30 ne_o6_o25).other W31 ne_o6_o25).ext E33)
    have ltc : o6 < h33.size := Al40.lt
    have Al41 := ((((Al24.ext E25).other W30 ne_o13_o25).other W31 ne_o13_o25).ext E33)
    have ltd : o13 < h33.size := Al41.lt
    have Al42 := (Al31.ext E33)
    have ltm : o25 < h33.size := Al42.lt
    have lta : o33 < h33.size := A33.lt
    have Zl44 : n0 ≤ h33.size := (Nat.le_trans Zl38 E33.1)
    refine g_callI X33 hx hZ 246 rfl (y := (⟨"com/example/tallyrank/tallyrank/search/ScoreWindows", "<init>", "()V"⟩ : MethodName)) rfl hown (hw _ (List.mem_of_getElem? (i := 5) rfl)) (hw _ (List.mem_of_getElem? (i := 6) rfl)) (hw _ (List.mem_of_getElem? (i := 4) rfl)) (hw _ (List.mem_of_getElem? (i := 7) rfl)) (by decide) o33 [] [.ref o33] (rmI l Z a0 hw [] o33 _ _ _ _ h33 n0 Zl44 A33 ge_o33 (D33 (Or.inr (hw _ (List.mem_of_getElem? (i := 12) rfl))) (ty := .array .double) (by decide)) (D33 (Or.inr (hw _ (List.mem_of_getElem? (i := 15) rfl))) (ty := .array .long) (by decide)) (D33 (Or.inl (hw _ (List.mem_of_getElem? (i := 17) rfl))) (ty := .array .int) (by decide)) (D33 (Or.inl (hw _ (List.mem_of_getElem? (i := 19) rfl))) (ty := .array .double) (by decide))) e33 (lenOf pd_0 rfl) rfl (by rw [hml]; rfl) (hb hby at_243) (by decide) 1 (Nat.le_of_eq rfl) (by decide) (by decide) (by decide) ?_
    rintro _ T43 L43 X43 ⟨rfl, N43q, K43, E43, sd, sc, F43, G43, S43, D43, hs43, gs43, hc43, gc43, nsc43⟩
    have N43 := Fr.app N31 N43q
    show Goes p e below (T43.setTop (mkF m 246 #[.val (.long p1), .second, .val (.long p2), .second, .val (.int p3), .val (.int p4), .val (.int wd), .val (.int mk), .val (.ref o1), .val (.int (Int32.ofNat ma)), .val (.int (Int32.ofNat mb)), .val (.int (Int32.ofNat f)), .val (.int (Int32.ofNat t)), .val (.ref o6), .val (.ref o13), .val (.ref o25), .val (.int (Int32.ofNat pb)), .unset, .unset] [.ref o33])) _
    have np_sd : o1 ≠ sd := Nat.ne_of_lt (Nat.lt_of_lt_of_le ltp hs43)
    have np_sc : o1 ≠ sc := Nat.ne_of_lt (Nat.lt_of_lt_of_le ltp hc43)
    have nc_sd : o6 ≠ sd := Nat.ne_of_lt (Nat.lt_of_lt_of_le ltc hs43)
    have nc_sc : o6 ≠ sc := Nat.ne_of_lt (Nat.lt_of_lt_of_le ltc hc43)
    have nd_sd : o13 ≠ sd := Nat.ne_of_lt (Nat.lt_of_lt_of_le ltd hs43)
    have nd_sc : o13 ≠ sc := Nat.ne_of_lt (Nat.lt_of_lt_of_le ltd hc43)
    have nm_sd : o25 ≠ sd := Nat.ne_of_lt (Nat.lt_of_lt_of_le ltm hs43)
    have nm_sc : o25 ≠ sc := Nat.ne_of_lt (Nat.lt_of_lt_of_le ltm hc43)
    have na_sd : o33 ≠ sd := Nat.ne_of_lt (Nat.lt_of_lt_of_le lta hs43)
    have na_sc : o33 ≠ sc := Nat.ne_of_lt (Nat.lt_of_lt_of_le lta hc43)
    refine g_astore X43 hx 248 rfl (hb hby at_246) rfl #[.val (.long p1), .second, .val (.long p2), .second, .val (.int p3), .val (.int p4), .val (.int wd), .val (.int mk), .val (.ref o1), .val (.int (Int32.ofNat ma)), .val (.int (Int32.ofNat mb)), .val (.int (Int32.ofNat f)), .val (.int (Int32.ofNat t)), .val (.ref o6), .val (.ref o13), .val (.ref o25), .val (.int (Int32.ofNat pb)), .val (.ref o33), .unset] rfl ?_
    refine g_aload X43 hx 250 rfl (hb hby at_248) rfl rfl ?_
    refine g_aload X43 hx 252 rfl (hb hby at_250) rfl rfl ?_
    refine g_iconst X43 hx 253 rfl (0 : Int32) rfl (hb hby at_252) ?_
    refine g_iconst X43 hx 254 rfl (2 : Int32) rfl (hb hby at_253) ?_
    refine g_iconst X43 hx 255 rfl (0 : Int32) rfl (hb hby at_254) ?_
    refine g_sipush X43 hx 258 rfl (8192 : Int32) rfl (hb hby at_255) ?_
    have As0 : Al Z T43.heap sd .long (own_ws []) := own_ws_nil ▸ S43
    have Al45 := (Al42.keep K43 (ninS ne_o25_o33 nin0))
    have Zl47 : n0 ≤ T43.heap.size := (Nat.le_trans Zl44 K43.1)
    refine g_callV X43 hx hZ 261 rfl (y := (⟨"com/example/tallyrank/tallyrank/search/ScoreWindows", "markScored", "([IIIII)I"⟩ : MethodName)) hown (hw _ (List.mem_of_getElem? (i := 20) rfl)) (hw _ (List.mem_of_getElem? (i := 21) rfl)) (hw _ (List.mem_of_getElem? (i := 23) rfl)) (hw _ (List.mem_of_getElem? (i := 22) rfl)) (hw _ (List.mem_of_getElem? (i := 4) rfl)) (hw _ (List.mem_of_getElem? (i := 24) rfl)) (by decide) o33 [.ref o25, .int (0 : Int32), .int (2 : Int32), .int (0 : Int32), .int (8192 : Int32)] [] (rmK l Z a0 hw [] o33 o25 sd ma mb T43.heap n0 Zl47 F43 Al45 As0 gs43 nm_sd na_sd l_ma l_mb) rfl E43 (lenOf pd_1 rfl) rfl (by rw [hml]; rfl) (hb hby at_258) (by decide) 0 (Nat.le_of_eq rfl) (by decide) (by decide) (by decide) ?_
    rintro _ T46 L46 X46 ⟨⟨r46, rfl⟩, N46q, K46, B46⟩
    have N46 := Fr.app N43 N46q
    show Goes p e below (T46.setTop (mkF m 261 #[.val (.long p1), .second, .val (.long p2), .second, .val (.int p3), .val (.int p4), .val (.int wd), .val (.int mk), .val (.ref o1), .val (.int (Int32.ofNat ma)), .val (.int (Int32.ofNat mb)), .val (.int (Int32.ofNat f)), .val (.int (Int32.ofNat t)), .val (.ref o6), .val (.ref o13), .val (.ref o25), .val (.int (Int32.ofNat pb)), .val (.ref o33), .unset] [.int r46])) _
    refine g_pop X46 hx 262 rfl (hb hby at_261) rfl ?_
    refine g_aload X46 hx 264 rfl (hb hby at_262) rfl rfl ?_
    refine g_aload X46 hx 266 rfl (hb hby at_264) rfl rfl ?_
    refine g_aload X46 hx 268 rfl (hb hby at_266) rfl rfl ?_
    refine g_iload X46 hx 270 rfl (hb hby at_268) rfl ?_
    refine g_iload X46 hx 272 rfl (hb hby at_270) rfl ?_
    refine g_iload X46 hx 274 rfl (hb hby at_272) rfl ?_
    have Al48 := (D43.keep K46 (ninS (Ne.symm nsc43) nin0))
    have Ax0 : Al Z T46.heap sc .double (own_ds (fun _ => 0)) := own_ds_zero ▸ Al48
    have hS : ∀ p ∈ [mb, ma], p < 8192 := by
      intro p hp
      simp only [List.mem_cons, List.not_mem_nil, or_false] at hp
      rcases hp with rfl | rfl <;> assumption
    have hcs : ∀ i, Jvm.Free.Fl.Fin64 (own_c4 (FP.i2d p2.toInt32.toInt16.toInt32) (FP.i2d (((XT.ushrL p2 (16 : Int32)).toInt32).toInt16.toInt32)) (FP.i2d (((XT.ushrL p2 (32 : Int32)).toInt32).toInt16.toInt32)) (FP.i2d (((XT.ushrL p2 (48 : Int32)).toInt32).toInt16.toInt32)) i) := by
      intro i
      match i with
      | 0 => exact Jvm.Free.Fl.i2d_fin _
      | 1 => exact Jvm.Free.Fl.i2d_fin _
      | 2 => exact Jvm.Free.Fl.i2d_fin _
      | _ + 3 => exact Jvm.Free.Fl.i2d_fin _
    have Fld49 := (F43.keep K46 (ninS na_sd nin0))
    have Fld50 := (G43.keep K46 (ninS na_sd nin0))
    have Al51 := ((Al41.keep K43 (ninS ne_o13_o33 nin0)).keep K46 (ninS nd_sd nin0))
    have Al52 := ((Al40.keep K43 (ninS ne_o6_o33 nin0)).keep K46 (ninS nc_sd nin0))
    have Zl54 : n0 ≤ T46.heap.size := (Nat.le_trans Zl47 K46.1)
    have Exa55 := (E43.keep K46)
    refine g_callV X46 hx hZ 277 rfl (y := (⟨"com/example/tallyrank/tallyrank/search/ScoreWindows", "addKept", "([I[DIII)V"⟩ : MethodName)) hown (hw _ (List.mem_of_getElem? (i := 25) rfl)) (hw _ (List.mem_of_getElem? (i := 26) rfl)) (hw _ (List.mem_of_getElem? (i := 28) rfl)) (hw _ (List.mem_of_getElem? (i := 27) rfl)) (hw _ (List.mem_of_getElem? (i := 4) rfl)) (hw _ (List.mem_of_getElem? (i := 29) rfl)) (by decide) o33 [.ref o13, .ref o6, .int (Int32.ofNat f), .int (Int32.ofNat t), .int p3] [] (rmA l Z a0 hw [] o33 o13 o6 sd sc p3 f t [mb, ma] (own_4 x0 x1 x2 x3) (own_c4 (FP.i2d p2.toInt32.toInt16.toInt32) (FP.i2d (((XT.ushrL p2 (16 : Int32)).toInt32).toInt16.toInt32)) (FP.i2d (((XT.ushrL p2 (32 : Int32)).toInt32).toInt16.toInt32)) (FP.i2d (((XT.ushrL p2 (48 : Int32)).toInt32).toInt16.toInt32))) (fun _ => 0) T46.heap n0 Zl54 Fld49 Fld50 Al51 Al52 B46 Ax0 gc43 nd_sc nc_sc nsc43 na_sc (own_4_lt l_x0 l_x1 l_x2 l_x3) hS (fun _ => own_nn0) hcs l_f l_t) rfl Exa55 (lenOf pd_2 rfl) rfl (by rw [hml]; rfl) (hb hby at_274) (by decide) 0 (Nat.le_of_eq rfl) (by decide) (by decide) (by decide) ?_
    rintro _ T53 L53 X53 ⟨rfl, N53q, K53, B53⟩
    have N53 := Fr.app N46 N53q
    show Goes p e below (T53.setTop (mkF m 277 #[.val (.long p1), .second, .val (.long p2), .second, .val (.int p3), .val (.int p4), .val (.int wd), .val (.int mk), .val (.ref o1), .val (.int (Int32.ofNat ma)), .val (.int (Int32.ofNat mb)), .val (.int (Int32.ofNat f)), .val (.int (Int32.ofNat t)), .val (.ref o6), .val (.ref o13), .val (.ref o25), .val (.int (Int32.ofNat pb)), .val (.ref o33), .unset] [])) _
    refine g_aload X53 hx 279 rfl (hb hby at_277) rfl rfl ?_
    refine g_aload X53 hx 281 rfl (hb hby at_279) rfl rfl ?_
    refine g_iconst X53 hx 282 rfl (0 : Int32) rfl (hb hby at_281) ?_
    have Al56 := (((Al39.keep K43 (ninS ne_o1_o33 nin0)).keep K46 (ninS np_sd nin0)).keep K53 (ninS np_sc nin0))
    refine g_iaload X53 hx hZ 283 rfl (hb hby at_282) rfl Al56 0 rfl (.int (Int32.ofNat x0)) rfl ?_
    have Fld57 := (Fld50.keep K53 (ninS na_sc nin0))
    have Zl59 : n0 ≤ T53.heap.size := (Nat.le_trans Zl54 K53.1)
    have Exa60 := (Exa55.keep K53)
    refine g_callV X53 hx hZ 286 rfl (y := (⟨"com/example/tallyrank/tallyrank/search/ScoreWindows", "score", "(I)D"⟩ : MethodName)) hown (hw _ (List.mem_of_getElem? (i := 30) rfl)) (hw _ (List.mem_of_getElem? (i := 31) rfl)) (hw _ (List.mem_of_getElem? (i := 33) rfl)) (hw _ (List.mem_of_getElem? (i := 32) rfl)) (hw _ (List.mem_of_getElem? (i := 4) rfl)) (hw _ (List.mem_of_getElem? (i := 34) rfl)) (by decide) o33 [.int (Int32.ofNat x0)] [] (rmS l Z a0 hw [] o33 sc (own_run [mb, ma] (own_4 x0 x1 x2 x3) (own_c4 (FP.i2d p2.toInt32.toInt16.toInt32) (FP.i2d (((XT.ushrL p2 (16 : Int32)).toInt32).toInt16.toInt32)) (FP.i2d (((XT.ushrL p2 (32 : Int32)).toInt32).toInt16.toInt32)) (FP.i2d (((XT.ushrL p2 (48 : Int32)).toInt32).toInt16.toInt32))) (t - f) f (fun _ => 0)) x0 T53.heap n0 Zl59 Fld57 B53 l_x0) rfl Exa60 (lenOf pd_3 rfl) rfl (by rw [hml]; rfl) (hb hby at_283) (by decide) 0 (Nat.le_of_eq rfl) (by decide) (by decide) (by decide) ?_
    rintro _ T58 L58 X58 ⟨rfl, N58q, e58⟩
    have N58 := Fr.app N53 N58q
    show Goes p e below (T58.setTop (mkF m 286 #[.val (.long p1), .second, .val (.long p2), .second, .val (.int p3), .val (.int p4), .val (.int wd), .val (.int mk), .val (.ref o1), .val (.int (Int32.ofNat ma)), .val (.int (Int32.ofNat mb)), .val (.int (Int32.ofNat f)), .val (.int (Int32.ofNat t)), .val (.ref o6), .val (.ref o13), .val (.ref o25), .val (.int (Int32.ofNat pb)), .val (.ref o33), .unset] [.double ((own_run [mb, ma] (own_4 x0 x1 x2 x3) (own_c4 (FP.i2d p2.toInt32.toInt16.toInt32) (FP.i2d (((XT.ushrL p2 (16 : Int32)).toInt32).toInt16.toInt32)) (FP.i2d (((XT.ushrL p2 (32 : Int32)).toInt32).toInt16.toInt32)) (FP.i2d (((XT.ushrL p2 (48 : Int32)).toInt32).toInt16.toInt32))) (t - f) f (fun _ => 0)) x0)])) _
    refine g_aload X58 hx 288 rfl (hb hby at_286) rfl rfl ?_
    refine g_iconst X58 hx 289 rfl (0 : Int32) rfl (hb hby at_288) ?_
    refine g_iaload X58 hx hZ 290 rfl (hb hby at_289) e58 Al56 0 rfl (.int (Int32.ofNat x0)) rfl ?_
    refine g_aload X58 hx 292 rfl (hb hby at_290) rfl rfl ?_
    refine g_aload X58 hx 294 rfl (hb hby at_292) rfl rfl ?_
    refine g_iload X58 hx 296 rfl (hb hby at_294) rfl ?_
    refine g_iload X58 hx 298 rfl (hb hby at_296) rfl ?_
    refine g_iload X58 hx 300 rfl (hb hby at_298) rfl ?_
    refine g_iload X58 hx 302 rfl (hb hby at_300) rfl ?_
    have Al61 := (Al52.keep K53 (ninS nc_sc nin0))
    refine g_callS X58 hx hZ 305 rfl (y := (⟨"com/example/tallyrank/tallyrank/search/ScoreWindowsAddKeptPinLaw", "expected", "(I[I[DIIII)D"⟩ : MethodName)) hown (hw _ (List.mem_of_getElem? (i := 35) rfl)) (hw _ (List.mem_of_getElem? (i := 36) rfl)) (hw _ (List.mem_of_getElem? (i := 37) rfl)) (hw _ (List.mem_of_getElem? (i := 38) rfl)) (by decide) [.int (Int32.ofNat x0), .ref o1, .ref o6, .int (Int32.ofNat f), .int (Int32.ofNat t), .int (Int32.ofNat ma), .int (Int32.ofNat mb)] [.double ((own_run [mb, ma] (own_4 x0 x1 x2 x3) (own_c4 (FP.i2d p2.toInt32.toInt16.toInt32) (FP.i2d (((XT.ushrL p2 (16 : Int32)).toInt32).toInt16.toInt32)) (FP.i2d (((XT.ushrL p2 (32 : Int32)).toInt32).toInt16.toInt32)) (FP.i2d (((XT.ushrL p2 (48 : Int32)).toInt32).toInt16.toInt32))) (t - f) f (fun _ => 0)) x0)] (rmX l Z a0 hw [] (Int32.ofNat x0) o1 o6 (Int32.ofNat f) (Int32.ofNat t) (Int32.ofNat ma) (Int32.ofNat mb) (Int32.ofNat x0) (Int32.ofNat x1) (Int32.ofNat x2) (Int32.ofNat x3) (FP.i2d p2.toInt32.toInt16.toInt32) (FP.i2d (((XT.ushrL p2 (16 : Int32)).toInt32).toInt16.toInt32)) (FP.i2d (((XT.ushrL p2 (32 : Int32)).toInt32).toInt16.toInt32)) (FP.i2d (((XT.ushrL p2 (48 : Int32)).toInt32).toInt16.toInt32)) T53.heap n0 Zl59 Al56 Al61 (Jvm.Free.Fl.i2d_fin _) (Jvm.Free.Fl.i2d_fin _) (Jvm.Free.Fl.i2d_fin _) (Jvm.Free.Fl.i2d_fin _)) e58 (lenOf pd_4 rfl) rfl (by rw [hml]; rfl) (hb hby at_302) (by decide) 2 (Nat.le_of_eq rfl) (by decide) (by decide) (by decide) ?_
    rintro _ T62 L62 X62 ⟨rfl, N62q, e62⟩
    have N62 := Fr.app N58 N62q
    show Goes p e below (T62.setTop (mkF m 305 #[.val (.long p1), .second, .val (.long p2), .second, .val (.int p3), .val (.int p4), .val (.int wd), .val (.int mk), .val (.ref o1), .val (.int (Int32.ofNat ma)), .val (.int (Int32.ofNat mb)), .val (.int (Int32.ofNat f)), .val (.int (Int32.ofNat t)), .val (.ref o6), .val (.ref o13), .val (.ref o25), .val (.int (Int32.ofNat pb)), .val (.ref o33), .unset] [.double (own_expd (Int32.ofNat x0) (Int32.ofNat f) (Int32.ofNat t) (Int32.ofNat ma) (Int32.ofNat mb) (Int32.ofNat x0) (Int32.ofNat x1) (Int32.ofNat x2) (Int32.ofNat x3) (FP.i2d p2.toInt32.toInt16.toInt32) (FP.i2d (((XT.ushrL p2 (16 : Int32)).toInt32).toInt16.toInt32)) (FP.i2d (((XT.ushrL p2 (32 : Int32)).toInt32).toInt16.toInt32)) (FP.i2d (((XT.ushrL p2 (48 : Int32)).toInt32).toInt16.toInt32))), .double ((own_run [mb, ma] (own_4 x0 x1 x2 x3) (own_c4 (FP.i2d p2.toInt32.toInt16.toInt32) (FP.i2d (((XT.ushrL p2 (16 : Int32)).toInt32).toInt16.toInt32)) (FP.i2d (((XT.ushrL p2 (32 : Int32)).toInt32).toInt16.toInt32)) (FP.i2d (((XT.ushrL p2 (48 : Int32)).toInt32).toInt16.toInt32))) (t - f) f (fun _ => 0)) x0)])) _
    refine g_dcmp X62 hx 306 rfl (0 : Int32) (by rw [own_final _ _ _ _ l_x0 l_f l_t l_ma l_mb l_x0 l_x1 l_x2 l_x3]; exact dcmpV_self (own_expd_nn _ _ _ _ _ _ _ _ _ (Jvm.Free.Fl.i2d_fin _) (Jvm.Free.Fl.i2d_fin _) (Jvm.Free.Fl.i2d_fin _) (Jvm.Free.Fl.i2d_fin _)) _) (hb hby at_305) ?_
    refine g_ifN X62 hx 309 rfl (hb hby at_306) (XT.i0_ne_f rfl) ?_
    refine g_iconst X62 hx 310 rfl (1 : Int32) rfl (hb hby at_309) ?_
    refine g_goto X62 hx 314 (hb hby at_310) (by decide) (by decide) ?_
    refine g_istore X62 hx 316 rfl (hb hby at_314) #[.val (.long p1), .second, .val (.long p2), .second, .val (.int p3), .val (.int p4), .val (.int wd), .val (.int mk), .val (.ref o1), .val (.int (Int32.ofNat ma)), .val (.int (Int32.ofNat mb)), .val (.int (Int32.ofNat f)), .val (.int (Int32.ofNat t)), .val (.ref o6), .val (.ref o13), .val (.ref o25), .val (.int (Int32.ofNat pb)), .val (.ref o33), .val (.int (1 : Int32))] rfl ?_
    refine g_iload X62 hx 318 rfl (hb hby at_316) rfl ?_
    refine g_ifN X62 hx 321 rfl (hb hby at_318) (XT.i0_eq_f (by decide)) ?_
    refine g_aload X62 hx 323 rfl (hb hby at_321) rfl rfl ?_
    refine g_aload X62 hx 325 rfl (hb hby at_323) rfl rfl ?_
    refine g_iconst X62 hx 326 rfl (1 : Int32) rfl (hb hby at_325) ?_
    refine g_iaload X62 hx hZ 327 rfl (hb hby at_326) e62 Al56 1 rfl (.int (Int32.ofNat x1)) rfl ?_
    refine g_callV X62 hx hZ 330 rfl (y := (⟨"com/example/tallyrank/tallyrank/search/ScoreWindows", "score", "(I)D"⟩ : MethodName)) hown (hw _ (List.mem_of_getElem? (i := 30) rfl)) (hw _ (List.mem_of_getElem? (i := 31) rfl)) (hw _ (List.mem_of_getElem? (i := 33) rfl)) (hw _ (List.mem_of_getElem? (i := 32) rfl)) (hw _ (List.mem_of_getElem? (i := 4) rfl)) (hw _ (List.mem_of_getElem? (i := 34) rfl)) (by decide) o33 [.int (Int32.ofNat x1)] [] (rmS l Z a0 hw [] o33 sc (own_run [mb, ma] (own_4 x0 x1 x2 x3) (own_c4 (FP.i2d p2.toInt32.toInt16.toInt32) (FP.i2d (((XT.ushrL p2 (16 : Int32)).toInt32).toInt16.toInt32)) (FP.i2d (((XT.ushrL p2 (32 : Int32)).toInt32).toInt16.toInt32)) (FP.i2d (((XT.ushrL p2 (48 : Int32)).toInt32).toInt16.toInt32))) (t - f) f (fun _ => 0)) x1 T53.heap n0 Zl59 Fld57 B53 l_x1) e62 Exa60 (lenOf pd_3 rfl) rfl (by rw [hml]; rfl) (hb hby at_327) (by decide) 0 (Nat.le_of_eq rfl) (by decide) (by decide) (by decide) ?_
    rintro _ T63 L63 X63 ⟨rfl, N63q, e63⟩
    have N63 := Fr.app N62 N63q
    show Goes p e below (T63.setTop (mkF m 330 #[.val (.long p1), .second, .val (.long p2), .second, .val (.int p3), .val (.int p4), .val (.int wd), .val (.int mk), .val (.ref o1), .val (.int (Int32.ofNat ma)), .val (.int (Int32.ofNat mb)), .val (.int (Int32.ofNat f)), .val (.int (Int32.ofNat t)), .val (.ref o6), .val (.ref o13), .val (.ref o25), .val (.int (Int32.ofNat pb)), .val (.ref o33), .val (.int (1 : Int32))] [.double ((own_run [mb, ma] (own_4 x0 x1 x2 x3) (own_c4 (FP.i2d p2.toInt32.toInt16.toInt32) (FP.i2d (((XT.ushrL p2 (16 : Int32)).toInt32).toInt16.toInt32)) (FP.i2d (((XT.ushrL p2 (32 : Int32)).toInt32).toInt16.toInt32)) (FP.i2d (((XT.ushrL p2 (48 : Int32)).toInt32).toInt16.toInt32))) (t - f) f (fun _ => 0)) x1)])) _
    refine g_aload X63 hx 332 rfl (hb hby at_330) rfl rfl ?_
    refine g_iconst X63 hx 333 rfl (1 : Int32) rfl (hb hby at_332) ?_
    refine g_iaload X63 hx hZ 334 rfl (hb hby at_333) e63 Al56 1 rfl (.int (Int32.ofNat x1)) rfl ?_
    refine g_aload X63 hx 336 rfl (hb hby at_334) rfl rfl ?_
    refine g_aload X63 hx 338 rfl (hb hby at_336) rfl rfl ?_
    refine g_iload X63 hx 340 rfl (hb hby at_338) rfl ?_
    refine g_iload X63 hx 342 rfl (hb hby at_340) rfl ?_
    refine g_iload X63 hx 344 rfl (hb hby at_342) rfl ?_
    refine g_iload X63 hx 346 rfl (hb hby at_344) rfl ?_
    refine g_callS X63 hx hZ 349 rfl (y := (⟨"com/example/tallyrank/tallyrank/search/ScoreWindowsAddKeptPinLaw", "expected", "(I[I[DIIII)D"⟩ : MethodName)) hown (hw _ (List.mem_of_getElem? (i := 35) rfl)) (hw _ (List.mem_of_getElem? (i := 36) rfl)) (hw _ (List.mem_of_getElem? (i := 37) rfl)) (hw _ (List.mem_of_getElem? (i := 38) rfl)) (by decide) [.int (Int32.ofNat x1), .ref o1, .ref o6, .int (Int32.ofNat f), .int (Int32.ofNat t), .int (Int32.ofNat ma), .int (Int32.ofNat mb)] [.double ((own_run [mb, ma] (own_4 x0 x1 x2 x3) (own_c4 (FP.i2d p2.toInt32.toInt16.toInt32) (FP.i2d (((XT.ushrL p2 (16 : Int32)).toInt32).toInt16.toInt32)) (FP.i2d (((XT.ushrL p2 (32 : Int32)).toInt32).toInt16.toInt32)) (FP.i2d (((XT.ushrL p2 (48 : Int32)).toInt32).toInt16.toInt32))) (t - f) f (fun _ => 0)) x1)] (rmX l Z a0 hw [] (Int32.ofNat x1) o1 o6 (Int32.ofNat f) (Int32.ofNat t) (Int32.ofNat ma) (Int32.ofNat mb) (Int32.ofNat x0) (Int32.ofNat x1) (Int32.ofNat x2) (Int32.ofNat x3) (FP.i2d p2.toInt32.toInt16.toInt32) (FP.i2d (((XT.ushrL p2 (16 : Int32)).toInt32).toInt16.toInt32)) (FP.i2d (((XT.ushrL p2 (32 : Int32)).toInt32).toInt16.toInt32)) (FP.i2d (((XT.ushrL p2 (48 : Int32)).toInt32).toInt16.toInt32)) T53.heap n0 Zl59 Al56 Al61 (Jvm.Free.Fl.i2d_fin _) (Jvm.Free.Fl.i2d_fin _) (Jvm.Free.Fl.i2d_fin _) (Jvm.Free.Fl.i2d_fin _)) e63 (lenOf pd_4 rfl) rfl (by rw [hml]; rfl) (hb hby at_346) (by decide) 2 (Nat.le_of_eq rfl) (by decide) (by decide) (by decide) ?_
    rintro _ T64 L64 X64 ⟨rfl, N64q, e64⟩
    have N64 := Fr.app N63 N64q
    show Goes p e below (T64.setTop (mkF m 349 #[.val (.long p1), .second, .val (.long p2), .second, .val (.int p3), .val (.int p4), .val (.int wd), .val (.int mk), .val (.ref o1), .val (.int (Int32.ofNat ma)), .val (.int (Int32.ofNat mb)), .val (.int (Int32.ofNat f)), .val (.int (Int32.ofNat t)), .val (.ref o6), .val (.ref o13), .val (.ref o25), .val (.int (Int32.ofNat pb)), .val (.ref o33), .val (.int (1 : Int32))] [.double (own_expd (Int32.ofNat x1) (Int32.ofNat f) (Int32.ofNat t) (Int32.ofNat ma) (Int32.ofNat mb) (Int32.ofNat x0) (Int32.ofNat x1) (Int32.ofNat x2) (Int32.ofNat x3) (FP.i2d p2.toInt32.toInt16.toInt32) (FP.i2d (((XT.ushrL p2 (16 : Int32)).toInt32).toInt16.toInt32)) (FP.i2d (((XT.ushrL p2 (32 : Int32)).toInt32).toInt16.toInt32)) (FP.i2d (((XT.ushrL p2 (48 : Int32)).toInt32).toInt16.toInt32))), .double ((own_run [mb, ma] (own_4 x0 x1 x2 x3) (own_c4 (FP.i2d p2.toInt32.toInt16.toInt32) (FP.i2d (((XT.ushrL p2 (16 : Int32)).toInt32).toInt16.toInt32)) (FP.i2d (((XT.ushrL p2 (32 : Int32)).toInt32).toInt16.toInt32)) (FP.i2d (((XT.ushrL p2 (48 : Int32)).toInt32).toInt16.toInt32))) (t - f) f (fun _ => 0)) x1)])) _
    refine g_dcmp X64 hx 350 rfl (0 : Int32) (by rw [own_final _ _ _ _ l_x1 l_f l_t l_ma l_mb l_x0 l_x1 l_x2 l_x3]; exact dcmpV_self (own_expd_nn _ _ _ _ _ _ _ _ _ (Jvm.Free.Fl.i2d_fin _) (Jvm.Free.Fl.i2d_fin _) (Jvm.Free.Fl.i2d_fin _) (Jvm.Free.Fl.i2d_fin _)) _) (hb hby at_349) ?_
    refine g_ifN X64 hx 353 rfl (hb hby at_350) (XT.i0_ne_f rfl) ?_
    refine g_iconst X64 hx 354 rfl (1 : Int32) rfl (hb hby at_353) ?_
    refine g_goto X64 hx 358 (hb hby at_354) (by decide) (by decide) ?_
    refine g_istore X64 hx 360 rfl (hb hby at_358) #[.val (.long p1), .second, .val (.long p2), .second, .val (.int p3), .val (.int p4), .val (.int wd), .val (.int mk), .val (.ref o1), .val (.int (Int32.ofNat ma)), .val (.int (Int32.ofNat mb)), .val (.int (Int32.ofNat f)), .val (.int (Int32.ofNat t)), .val (.ref o6), .val (.ref o13), .val (.ref o25), .val (.int (Int32.ofNat pb)), .val (.ref o33), .val (.int (1 : Int32))] rfl ?_
    refine g_iload X64 hx 362 rfl (hb hby at_360) rfl ?_
    refine g_ifN X64 hx 365 rfl (hb hby at_362) (XT.i0_eq_f (by decide)) ?_
    refine g_aload X64 hx 367 rfl (hb hby at_365) rfl rfl ?_
    refine g_aload X64 hx 369 rfl (hb hby at_367) rfl rfl ?_
    refine g_iconst X64 hx 370 rfl (2 : Int32) rfl (hb hby at_369) ?_
    refine g_iaload X64 hx hZ 371 rfl (hb hby at_370) e64 Al56 2 rfl (.int (Int32.ofNat x2)) rfl ?_
    refine g_callV X64 hx hZ 374 rfl (y := (⟨"com/example/tallyrank/tallyrank/search/ScoreWindows", "score", "(I)D"⟩ : MethodName)) hown (hw _ (List.mem_of_getElem? (i := 30) rfl)) (hw _ (List.mem_of_getElem? (i := 31) rfl)) (hw _ (List.mem_of_getElem? (i := 33) rfl)) (hw _ (List.mem_of_getElem? (i := 32) rfl)) (hw _ (List.mem_of_getElem? (i := 4) rfl)) (hw _ (List.mem_of_getElem? (i := 34) rfl)) (by decide) o33 [.int (Int32.ofNat x2)] [] (rmS l Z a0 hw [] o33 sc (own_run [mb, ma] (own_4 x0 x1 x2 x3) (own_c4 (FP.i2d p2.toInt32.toInt16.toInt32) (FP.i2d (((XT.ushrL p2 (16 : Int32)).toInt32).toInt16.toInt32)) (FP.i2d (((XT.ushrL p2 (32 : Int32)).toInt32).toInt16.toInt32)) (FP.i2d (((XT.ushrL p2 (48 : Int32)).toInt32).toInt16.toInt32))) (t - f) f (fun _ => 0)) x2 T53.heap n0 Zl59 Fld57 B53 l_x2) e64 Exa60 (lenOf pd_3 rfl) rfl (by rw [hml]; rfl) (hb hby at_371) (by decide) 0 (Nat.le_of_eq rfl) (by decide) (by decide) (by decide) ?_
    rintro _ T65 L65 X65 ⟨rfl, N65q, e65⟩
    have N65 := Fr.app N64 N65q
    show Goes p e below (T65.setTop (mkF m 374 #[.val (.long p1), .second, .val (.long p2), .second, .val (.int p3), .val (.int p4), .val (.int wd), .val (.int mk), .val (.ref o1), .val (.int (Int32.ofNat ma)), .val (.int (Int32.ofNat mb)), .val (.int (Int32.ofNat f)), .val (.int (Int32.ofNat t)), .val (.ref o6), .val (.ref o13), .val (.ref o25), .val (.int (Int32.ofNat pb)), .val (.ref o33), .val (.int (1 : Int32))] [.double ((own_run [mb, ma] (own_4 x0 x1 x2 x3) (own_c4 (FP.i2d p2.toInt32.toInt16.toInt32) (FP.i2d (((XT.ushrL p2 (16 : Int32)).toInt32).toInt16.toInt32)) (FP.i2d (((XT.ushrL p2 (32 : Int32)).toInt32).toInt16.toInt32)) (FP.i2d (((XT.ushrL p2 (48 : Int32)).toInt32).toInt16.toInt32))) (t - f) f (fun _ => 0)) x2)])) _
    refine g_aload X65 hx 376 rfl (hb hby at_374) rfl rfl ?_
    refine g_iconst X65 hx 377 rfl (2 : Int32) rfl (hb hby at_376) ?_
    refine g_iaload X65 hx hZ 378 rfl (hb hby at_377) e65 Al56 2 rfl (.int (Int32.ofNat x2)) rfl ?_
    refine g_aload X65 hx 380 rfl (hb hby at_378) rfl rfl ?_
    refine g_aload X65 hx 382 rfl (hb hby at_380) rfl rfl ?_
    refine g_iload X65 hx 384 rfl (hb hby at_382) rfl ?_
    refine g_iload X65 hx 386 rfl (hb hby at_384) rfl ?_
    refine g_iload X65 hx 388 rfl (hb hby at_386) rfl ?_
    refine g_iload X65 hx 390 rfl (hb hby at_388) rfl ?_
    refine g_callS X65 hx hZ 393 rfl (y := (⟨"com/example/tallyrank/tallyrank/search/ScoreWindowsAddKeptPinLaw", "expected", "(I[I[DIIII)D"⟩ : MethodName)) hown (hw _ (List.mem_of_getElem? (i := 35) rfl)) (hw _ (List.mem_of_getElem? (i := 36) rfl)) (hw _ (List.mem_of_getElem? (i := 37) rfl)) (hw _ (List.mem_of_getElem? (i := 38) rfl)) (by decide) [.int (Int32.ofNat x2), .ref o1, .ref o6, .int (Int32.ofNat f), .int (Int32.ofNat t), .int (Int32.ofNat ma), .int (Int32.ofNat mb)] [.double ((own_run [mb, ma] (own_4 x0 x1 x2 x3) (own_c4 (FP.i2d p2.toInt32.toInt16.toInt32) (FP.i2d (((XT.ushrL p2 (16 : Int32)).toInt32).toInt16.toInt32)) (FP.i2d (((XT.ushrL p2 (32 : Int32)).toInt32).toInt16.toInt32)) (FP.i2d (((XT.ushrL p2 (48 : Int32)).toInt32).toInt16.toInt32))) (t - f) f (fun _ => 0)) x2)] (rmX l Z a0 hw [] (Int32.ofNat x2) o1 o6 (Int32.ofNat f) (Int32.ofNat t) (Int32.ofNat ma) (Int32.ofNat mb) (Int32.ofNat x0) (Int32.ofNat x1) (Int32.ofNat x2) (Int32.ofNat x3) (FP.i2d p2.toInt32.toInt16.toInt32) (FP.i2d (((XT.ushrL p2 (16 : Int32)).toInt32).toInt16.toInt32)) (FP.i2d (((XT.ushrL p2 (32 : Int32)).toInt32).toInt16.toInt32)) (FP.i2d (((XT.ushrL p2 (48 : Int32)).toInt32).toInt16.toInt32)) T53.heap n0 Zl59 Al56 Al61 (Jvm.Free.Fl.i2d_fin _) (Jvm.Free.Fl.i2d_fin _) (Jvm.Free.Fl.i2d_fin _) (Jvm.Free.Fl.i2d_fin _)) e65 (lenOf pd_4 rfl) rfl (by rw [hml]; rfl) (hb hby at_390) (by decide) 2 (Nat.le_of_eq rfl) (by decide) (by decide) (by decide) ?_
    rintro _ T66 L66 X66 ⟨rfl, N66q, e66⟩
    have N66 := Fr.app N65 N66q
    show Goes p e below (T66.setTop (mkF m 393 #[.val (.long p1), .second, .val (.long p2), .second, .val (.int p3), .val (.int p4), .val (.int wd), .val (.int mk), .val (.ref o1), .val (.int (Int32.ofNat ma)), .val (.int (Int32.ofNat mb)), .val (.int (Int32.ofNat f)), .val (.int (Int32.ofNat t)), .val (.ref o6), .val (.ref o13), .val (.ref o25), .val (.int (Int32.ofNat pb)), .val (.ref o33), .val (.int (1 : Int32))] [.double (own_expd (Int32.ofNat x2) (Int32.ofNat f) (Int32.ofNat t) (Int32.ofNat ma) (Int32.ofNat mb) (Int32.ofNat x0) (Int32.ofNat x1) (Int32.ofNat x2) (Int32.ofNat x3) (FP.i2d p2.toInt32.toInt16.toInt32) (FP.i2d (((XT.ushrL p2 (16 : Int32)).toInt32).toInt16.toInt32)) (FP.i2d (((XT.ushrL p2 (32 : Int32)).toInt32).toInt16.toInt32)) (FP.i2d (((XT.ushrL p2 (48 : Int32)).toInt32).toInt16.toInt32))), .double ((own_run [mb, ma] (own_4 x0 x1 x2 x3) (own_c4 (FP.i2d p2.toInt32.toInt16.toInt32) (FP.i2d (((XT.ushrL p2 (16 : Int32)).toInt32).toInt16.toInt32)) (FP.i2d (((XT.ushrL p2 (32 : Int32)).toInt32).toInt16.toInt32)) (FP.i2d (((XT.ushrL p2 (48 : Int32)).toInt32).toInt16.toInt32))) (t - f) f (fun _ => 0)) x2)])) _
    refine g_dcmp X66 hx 394 rfl (0 : Int32) (by rw [own_final _ _ _ _ l_x2 l_f l_t l_ma l_mb l_x0 l_x1 l_x2 l_x3]; exact dcmpV_self (own_expd_nn _ _ _ _ _ _ _ _ _ (Jvm.Free.Fl.i2d_fin _) (Jvm.Free.Fl.i2d_fin _) (Jvm.Free.Fl.i2d_fin _) (Jvm.Free.Fl.i2d_fin _)) _) (hb hby at_393) ?_
    refine g_ifN X66 hx 397 rfl (hb hby at_394) (XT.i0_ne_f rfl) ?_
    refine g_iconst X66 hx 398 rfl (1 : Int32) rfl (hb hby at_397) ?_
    refine g_goto X66 hx 402 (hb hby at_398) (by decide) (by decide) ?_
    refine g_istore X66 hx 404 rfl (hb hby at_402) #[.val (.long p1), .second, .val (.long p2), .second, .val (.int p3), .val (.int p4), .val (.int wd), .val (.int mk), .val (.ref o1), .val (.int (Int32.ofNat ma)), .val (.int (Int32.ofNat mb)), .val (.int (Int32.ofNat f)), .val (.int (Int32.ofNat t)), .val (.ref o6), .val (.ref o13), .val (.ref o25), .val (.int (Int32.ofNat pb)), .val (.ref o33), .val (.int (1 : Int32))] rfl ?_
    refine g_iload X66 hx 406 rfl (hb hby at_404) rfl ?_
    refine g_ifN X66 hx 409 rfl (hb hby at_406) (XT.i0_eq_f (by decide)) ?_
    refine g_aload X66 hx 411 rfl (hb hby at_409) rfl rfl ?_
    refine g_aload X66 hx 413 rfl (hb hby at_411) rfl rfl ?_
    refine g_iconst X66 hx 414 rfl (3 : Int32) rfl (hb hby at_413) ?_
    refine g_iaload X66 hx hZ 415 rfl (hb hby at_414) e66 Al56 3 rfl (.int (Int32.ofNat x3)) rfl ?_
    refine g_callV X66 hx hZ 418 rfl (y := (⟨"com/example/tallyrank/tallyrank/search/ScoreWindows", "score", "(I)D"⟩ : MethodName)) hown (hw _ (List.mem_of_getElem? (i := 30) rfl)) (hw _ (List.mem_of_getElem? (i := 31) rfl)) (hw _ (List.mem_of_getElem? (i := 33) rfl)) (hw _ (List.mem_of_getElem? (i := 32) rfl)) (hw _ (List.mem_of_getElem? (i := 4) rfl)) (hw _ (List.mem_of_getElem? (i := 34) rfl)) (by decide) o33 [.int (Int32.ofNat x3)] [] (rmS l Z a0 hw [] o33 sc (own_run [mb, ma] (own_4 x0 x1 x2 x3) (own_c4 (FP.i2d p2.toInt32.toInt16.toInt32) (FP.i2d (((XT.ushrL p2 (16 : Int32)).toInt32).toInt16.toInt32)) (FP.i2d (((XT.ushrL p2 (32 : Int32)).toInt32).toInt16.toInt32)) (FP.i2d (((XT.ushrL p2 (48 : Int32)).toInt32).toInt16.toInt32))) (t - f) f (fun _ => 0)) x3 T53.heap n0 Zl59 Fld57 B53 l_x3) e66 Exa60 (lenOf pd_3 rfl) rfl (by rw [hml]; rfl) (hb hby at_415) (by decide) 0 (Nat.le_of_eq rfl) (by decide) (by decide) (by decide) ?_
    rintro _ T67 L67 X67 ⟨rfl, N67q, e67⟩
    have N67 := Fr.app N66 N67q
    show Goes p e below (T67.setTop (mkF m 418 #[.val (.long p1), .second, .val (.long p2), .second, .val (.int p3), .val (.int p4), .val (.int wd), .val (.int mk), .val (.ref o1), .val (.int (Int32.ofNat ma)), .val (.int (Int32.ofNat mb)), .val (.int (Int32.ofNat f)), .val (.int (Int32.ofNat t)), .val (.ref o6), .val (.ref o13), .val (.ref o25), .val (.int (Int32.ofNat pb)), .val (.ref o33), .val (.int (1 : Int32))] [.double ((own_run [mb, ma] (own_4 x0 x1 x2 x3) (own_c4 (FP.i2d p2.toInt32.toInt16.toInt32) (FP.i2d (((XT.ushrL p2 (16 : Int32)).toInt32).toInt16.toInt32)) (FP.i2d (((XT.ushrL p2 (32 : Int32)).toInt32).toInt16.toInt32)) (FP.i2d (((XT.ushrL p2 (48 : Int32)).toInt32).toInt16.toInt32))) (t - f) f (fun _ => 0)) x3)])) _
    refine g_aload X67 hx 420 rfl (hb hby at_418) rfl rfl ?_
    refine g_iconst X67 hx 421 rfl (3 : Int32) rfl (hb hby at_420) ?_
    refine g_iaload X67 hx hZ 422 rfl (hb hby at_421) e67 Al56 3 rfl (.int (Int32.ofNat x3)) rfl ?_
    refine g_aload X67 hx 424 rfl (hb hby at_422) rfl rfl ?_
    refine g_aload X67 hx 426 rfl (hb hby at_424) rfl rfl ?_
    refine g_iload X67 hx 428 rfl (hb hby at_426) rfl ?_
    refine g_iload X67 hx 430 rfl (hb hby at_428) rfl ?_
    refine g_iload X67 hx 432 rfl (hb hby at_430) rfl ?_
    refine g_iload X67 hx 434 rfl (hb hby at_432) rfl ?_
    refine g_callS X67 hx hZ 437 rfl (y := (⟨"com/example/tallyrank/tallyrank/search/ScoreWindowsAddKeptPinLaw", "expected", "(I[I[DIIII)D"⟩ : MethodName)) hown (hw _ (List.mem_of_getElem? (i := 35) rfl)) (hw _ (List.mem_of_getElem? (i := 36) rfl)) (hw _ (List.mem_of_getElem? (i := 37) rfl)) (hw _ (List.mem_of_getElem? (i := 38) rfl)) (by decide) [.int (Int32.ofNat x3), .ref o1, .ref o6, .int (Int32.ofNat f), .int (Int32.ofNat t), .int (Int32.ofNat ma), .int (Int32.ofNat mb)] [.double ((own_run [mb, ma] (own_4 x0 x1 x2 x3) (own_c4 (FP.i2d p2.toInt32.toInt16.toInt32) (FP.i2d (((XT.ushrL p2 (16 : Int32)).toInt32).toInt16.toInt32)) (FP.i2d (((XT.ushrL p2 (32 : Int32)).toInt32).toInt16.toInt32)) (FP.i2d (((XT.ushrL p2 (48 : Int32)).toInt32).toInt16.toInt32))) (t - f) f (fun _ => 0)) x3)] (rmX l Z a0 hw [] (Int32.ofNat x3) o1 o6 (Int32.ofNat f) (Int32.ofNat t) (Int32.ofNat ma) (Int32.ofNat mb) (Int32.ofNat x0) (Int32.ofNat x1) (Int32.ofNat x2) (Int32.ofNat x3) (FP.i2d p2.toInt32.toInt16.toInt32) (FP.i2d (((XT.ushrL p2 (16 : Int32)).toInt32).toInt16.toInt32)) (FP.i2d (((XT.ushrL p2 (32 : Int32)).toInt32).toInt16.toInt32)) (FP.i2d (((XT.ushrL p2 (48 : Int32)).toInt32).toInt16.toInt32)) T53.heap n0 Zl59 Al56 Al61 (Jvm.Free.Fl.i2d_fin _) (Jvm.Free.Fl.i2d_fin _) (Jvm.Free.Fl.i2d_fin _) (Jvm.Free.Fl.i2d_fin _)) e67 (lenOf pd_4 rfl) rfl (by rw [hml]; rfl) (hb hby at_434) (by decide) 2 (Nat.le_of_eq rfl) (by decide) (by decide) (by decide) ?_
    rintro _ T68 L68 X68 ⟨rfl, N68q, e68⟩
    have N68 := Fr.app N67 N68q
    show Goes p e below (T68.setTop (mkF m 437 #[.val (.long p1), .second, .val (.long p2), .second, .val (.int p3), .val (.int p4), .val (.int wd), .val (.int mk), .val (.ref o1), .val (.int (Int32.ofNat ma)), .val (.int (Int32.ofNat mb)), .val (.int (Int32.ofNat f)), .val (.int (Int32.ofNat t)), .val (.ref o6), .val (.ref o13), .val (.ref o25), .val (.int (Int32.ofNat pb)), .val (.ref o33), .val (.int (1 : Int32))] [.double (own_expd (Int32.ofNat x3) (Int32.ofNat f) (Int32.ofNat t) (Int32.ofNat ma) (Int32.ofNat mb) (Int32.ofNat x0) (Int32.ofNat x1) (Int32.ofNat x2) (Int32.ofNat x3) (FP.i2d p2.toInt32.toInt16.toInt32) (FP.i2d (((XT.ushrL p2 (16 : Int32)).toInt32).toInt16.toInt32)) (FP.i2d (((XT.ushrL p2 (32 : Int32)).toInt32).toInt16.toInt32)) (FP.i2d (((XT.ushrL p2 (48 : Int32)).toInt32).toInt16.toInt32))), .double ((own_run [mb, ma] (own_4 x0 x1 x2 x3) (own_c4 (FP.i2d p2.toInt32.toInt16.toInt32) (FP.i2d (((XT.ushrL p2 (16 : Int32)).toInt32).toInt16.toInt32)) (FP.i2d (((XT.ushrL p2 (32 : Int32)).toInt32).toInt16.toInt32)) (FP.i2d (((XT.ushrL p2 (48 : Int32)).toInt32).toInt16.toInt32))) (t - f) f (fun _ => 0)) x3)])) _
    refine g_dcmp X68 hx 438 rfl (0 : Int32) (by rw [own_final _ _ _ _ l_x3 l_f l_t l_ma l_mb l_x0 l_x1 l_x2 l_x3]; exact dcmpV_self (own_expd_nn _ _ _ _ _ _ _ _ _ (Jvm.Free.Fl.i2d_fin _) (Jvm.Free.Fl.i2d_fin _) (Jvm.Free.Fl.i2d_fin _) (Jvm.Free.Fl.i2d_fin _)) _) (hb hby at_437) ?_
    refine g_ifN X68 hx 441 rfl (hb hby at_438) (XT.i0_ne_f rfl) ?_
    refine g_iconst X68 hx 442 rfl (1 : Int32) rfl (hb hby at_441) ?_
    refine g_goto X68 hx 446 (hb hby at_442) (by decide) (by decide) ?_
    refine g_istore X68 hx 448 rfl (hb hby at_446) #[.val (.long p1), .second, .val (.long p2), .second, .val (.int p3), .val (.int p4), .val (.int wd), .val (.int mk), .val (.ref o1), .val (.int (Int32.ofNat ma)), .val (.int (Int32.ofNat mb)), .val (.int (Int32.ofNat f)), .val (.int (Int32.ofNat t)), .val (.ref o6), .val (.ref o13), .val (.ref o25), .val (.int (Int32.ofNat pb)), .val (.ref o33), .val (.int (1 : Int32))] rfl ?_
    refine g_iload X68 hx 450 rfl (hb hby at_448) rfl ?_
    refine g_ifN X68 hx 453 rfl (hb hby at_450) (XT.i0_eq_f (by decide)) ?_
    refine g_aload X68 hx 455 rfl (hb hby at_453) rfl rfl ?_
    refine g_iload X68 hx 457 rfl (hb hby at_455) rfl ?_
    refine g_callV X68 hx hZ 460 rfl (y := (⟨"com/example/tallyrank/tallyrank/search/ScoreWindows", "score", "(I)D"⟩ : MethodName)) hown (hw _ (List.mem_of_getElem? (i := 30) rfl)) (hw _ (List.mem_of_getElem? (i := 31) rfl)) (hw _ (List.mem_of_getElem? (i := 33) rfl)) (hw _ (List.mem_of_getElem? (i := 32) rfl)) (hw _ (List.mem_of_getElem? (i := 4) rfl)) (hw _ (List.mem_of_getElem? (i := 34) rfl)) (by decide) o33 [.int (Int32.ofNat pb)] [] (rmS l Z a0 hw [] o33 sc (own_run [mb, ma] (own_4 x0 x1 x2 x3) (own_c4 (FP.i2d p2.toInt32.toInt16.toInt32) (FP.i2d (((XT.ushrL p2 (16 : Int32)).toInt32).toInt16.toInt32)) (FP.i2d (((XT.ushrL p2 (32 : Int32)).toInt32).toInt16.toInt32)) (FP.i2d (((XT.ushrL p2 (48 : Int32)).toInt32).toInt16.toInt32))) (t - f) f (fun _ => 0)) pb T53.heap n0 Zl59 Fld57 B53 l_pb) e68 Exa60 (lenOf pd_3 rfl) rfl (by rw [hml]; rfl) (hb hby at_457) (by decide) 0 (Nat.le_of_eq rfl) (by decide) (by decide) (by decide) ?_
    rintro _ T69 L69 X69 ⟨rfl, N69q, e69⟩
    have N69 := Fr.app N68 N69q
    show Goes p e below (T69.setTop (mkF m 460 #[.val (.long p1), .second, .val (.long p2), .second, .val (.int p3), .val (.int p4), .val (.int wd), .val (.int mk), .val (.ref o1), .val (.int (Int32.ofNat ma)), .val (.int (Int32.ofNat mb)), .val (.int (Int32.ofNat f)), .val (.int (Int32.ofNat t)), .val (.ref o6), .val (.ref o13), .val (.ref o25), .val (.int (Int32.ofNat pb)), .val (.ref o33), .val (.int (1 : Int32))] [.double ((own_run [mb, ma] (own_4 x0 x1 x2 x3) (own_c4 (FP.i2d p2.toInt32.toInt16.toInt32) (FP.i2d (((XT.ushrL p2 (16 : Int32)).toInt32).toInt16.toInt32)) (FP.i2d (((XT.ushrL p2 (32 : Int32)).toInt32).toInt16.toInt32)) (FP.i2d (((XT.ushrL p2 (48 : Int32)).toInt32).toInt16.toInt32))) (t - f) f (fun _ => 0)) pb)])) _
    refine g_iload X69 hx 462 rfl (hb hby at_460) rfl ?_
    refine g_aload X69 hx 464 rfl (hb hby at_462) rfl rfl ?_
    refine g_aload X69 hx 466 rfl (hb hby at_464) rfl rfl ?_
    refine g_iload X69 hx 468 rfl (hb hby at_466) rfl ?_
    refine g_iload X69 hx 470 rfl (hb hby at_468) rfl ?_
    refine g_iload X69 hx 472 rfl (hb hby at_470) rfl ?_
    refine g_iload X69 hx 474 rfl (hb hby at_472) rfl ?_
    refine g_callS X69 hx hZ 477 rfl (y := (⟨"com/example/tallyrank/tallyrank/search/ScoreWindowsAddKeptPinLaw", "expected", "(I[I[DIIII)D"⟩ : MethodName)) hown (hw _ (List.mem_of_getElem? (i := 35) rfl)) (hw _ (List.mem_of_getElem? (i := 36) rfl)) (hw _ (List.mem_of_getElem? (i := 37) rfl)) (hw _ (List.mem_of_getElem? (i := 38) rfl)) (by decide) [.int (Int32.ofNat pb), .ref o1, .ref o6, .int (Int32.ofNat f), .int (Int32.ofNat t), .int (Int32.ofNat ma), .int (Int32.ofNat mb)] [.double ((own_run [mb, ma] (own_4 x0 x1 x2 x3) (own_c4 (FP.i2d p2.toInt32.toInt16.toInt32) (FP.i2d (((XT.ushrL p2 (16 : Int32)).toInt32).toInt16.toInt32)) (FP.i2d (((XT.ushrL p2 (32 : Int32)).toInt32).toInt16.toInt32)) (FP.i2d (((XT.ushrL p2 (48 : Int32)).toInt32).toInt16.toInt32))) (t - f) f (fun _ => 0)) pb)] (rmX l Z a0 hw [] (Int32.ofNat pb) o1 o6 (Int32.ofNat f) (Int32.ofNat t) (Int32.ofNat ma) (Int32.ofNat mb) (Int32.ofNat x0) (Int32.ofNat x1) (Int32.ofNat x2) (Int32.ofNat x3) (FP.i2d p2.toInt32.toInt16.toInt32) (FP.i2d (((XT.ushrL p2 (16 : Int32)).toInt32).toInt16.toInt32)) (FP.i2d (((XT.ushrL p2 (32 : Int32)).toInt32).toInt16.toInt32)) (FP.i2d (((XT.ushrL p2 (48 : Int32)).toInt32).toInt16.toInt32)) T53.heap n0 Zl59 Al56 Al61 (Jvm.Free.Fl.i2d_fin _) (Jvm.Free.Fl.i2d_fin _) (Jvm.Free.Fl.i2d_fin _) (Jvm.Free.Fl.i2d_fin _)) e69 (lenOf pd_4 rfl) rfl (by rw [hml]; rfl) (hb hby at_474) (by decide) 2 (Nat.le_of_eq rfl) (by decide) (by decide) (by decide) ?_
    rintro _ T70 L70 X70 ⟨rfl, N70q, e70⟩
    have N70 := Fr.app N69 N70q
    show Goes p e below (T70.setTop (mkF m 477 #[.val (.long p1), .second, .val (.long p2), .second, .val (.int p3), .val (.int p4), .val (.int wd), .val (.int mk), .val (.ref o1), .val (.int (Int32.ofNat ma)), .val (.int (Int32.ofNat mb)), .val (.int (Int32.ofNat f)), .val (.int (Int32.ofNat t)), .val (.ref o6), .val (.ref o13), .val (.ref o25), .val (.int (Int32.ofNat pb)), .val (.ref o33), .val (.int (1 : Int32))] [.double (own_expd (Int32.ofNat pb) (Int32.ofNat f) (Int32.ofNat t) (Int32.ofNat ma) (Int32.ofNat mb) (Int32.ofNat x0) (Int32.ofNat x1) (Int32.ofNat x2) (Int32.ofNat x3) (FP.i2d p2.toInt32.toInt16.toInt32) (FP.i2d (((XT.ushrL p2 (16 : Int32)).toInt32).toInt16.toInt32)) (FP.i2d (((XT.ushrL p2 (32 : Int32)).toInt32).toInt16.toInt32)) (FP.i2d (((XT.ushrL p2 (48 : Int32)).toInt32).toInt16.toInt32))), .double ((own_run [mb, ma] (own_4 x0 x1 x2 x3) (own_c4 (FP.i2d p2.toInt32.toInt16.toInt32) (FP.i2d (((XT.ushrL p2 (16 : Int32)).toInt32).toInt16.toInt32)) (FP.i2d (((XT.ushrL p2 (32 : Int32)).toInt32).toInt16.toInt32)) (FP.i2d (((XT.ushrL p2 (48 : Int32)).toInt32).toInt16.toInt32))) (t - f) f (fun _ => 0)) pb)])) _
    refine g_dcmp X70 hx 478 rfl (0 : Int32) (by rw [own_final _ _ _ _ l_pb l_f l_t l_ma l_mb l_x0 l_x1 l_x2 l_x3]; exact dcmpV_self (own_expd_nn _ _ _ _ _ _ _ _ _ (Jvm.Free.Fl.i2d_fin _) (Jvm.Free.Fl.i2d_fin _) (Jvm.Free.Fl.i2d_fin _) (Jvm.Free.Fl.i2d_fin _)) _) (hb hby at_477) ?_
    refine g_ifN X70 hx 481 rfl (hb hby at_478) (XT.i0_ne_f rfl) ?_
    refine g_iconst X70 hx 482 rfl (1 : Int32) rfl (hb hby at_481) ?_
    refine g_goto X70 hx 486 (hb hby at_482) (by decide) (by decide) ?_
    refine g_istore X70 hx 488 rfl (hb hby at_486) #[.val (.long p1), .second, .val (.long p2), .second, .val (.int p3), .val (.int p4), .val (.int wd), .val (.int mk), .val (.ref o1), .val (.int (Int32.ofNat ma)), .val (.int (Int32.ofNat mb)), .val (.int (Int32.ofNat f)), .val (.int (Int32.ofNat t)), .val (.ref o6), .val (.ref o13), .val (.ref o25), .val (.int (Int32.ofNat pb)), .val (.ref o33), .val (.int (1 : Int32))] rfl ?_
    refine g_iload X70 hx 490 rfl (hb hby at_488) rfl ?_
    refine g_ifN X70 hx 493 rfl (hb hby at_490) (XT.i0_eq_f (by decide)) ?_
    refine g_aload X70 hx 495 rfl (hb hby at_493) rfl rfl ?_
    refine g_aload X70 hx 497 rfl (hb hby at_495) rfl rfl ?_
    refine g_iconst X70 hx 498 rfl (0 : Int32) rfl (hb hby at_497) ?_
    refine g_iaload X70 hx hZ 499 rfl (hb hby at_498) e70 Al56 0 rfl (.int (Int32.ofNat x0)) rfl ?_
    have Fld71 := (Fld49.keep K53 (ninS na_sc nin0))
    have Al72 := (B46.keep K53 (ninS nsc43 nin0))
    refine g_callV X70 hx hZ 502 rfl (y := (⟨"com/example/tallyrank/tallyrank/search/ScoreWindows", "isScored", "(I)Z"⟩ : MethodName)) hown (hw _ (List.mem_of_getElem? (i := 39) rfl)) (hw _ (List.mem_of_getElem? (i := 40) rfl)) (hw _ (List.mem_of_getElem? (i := 42) rfl)) (hw _ (List.mem_of_getElem? (i := 41) rfl)) (hw _ (List.mem_of_getElem? (i := 4) rfl)) (hw _ (List.mem_of_getElem? (i := 43) rfl)) (by decide) o33 [.int (Int32.ofNat x0)] [] (rmZ l Z a0 hw [] o33 sd [mb, ma] x0 T53.heap n0 Zl59 Fld71 Al72 hS l_x0) e70 Exa60 (lenOf pd_5 rfl) rfl (by rw [hml]; rfl) (hb hby at_499) (by decide) 0 (Nat.le_of_eq rfl) (by decide) (by decide) (by decide) ?_
    rintro _ T73 L73 X73 ⟨rfl, N73q, e73⟩
    have N73 := Fr.app N70 N73q
    show Goes p e below (T73.setTop (mkF m 502 #[.val (.long p1), .second, .val (.long p2), .second, .val (.int p3), .val (.int p4), .val (.int wd), .val (.int mk), .val (.ref o1), .val (.int (Int32.ofNat ma)), .val (.int (Int32.ofNat mb)), .val (.int (Int32.ofNat f)), .val (.int (Int32.ofNat t)), .val (.ref o6), .val (.ref o13), .val (.ref o25), .val (.int (Int32.ofNat pb)), .val (.ref o33), .val (.int (1 : Int32))] [.int (b2i (decide (x0 ∈ [mb, ma])))])) _
    refine g_aload X73 hx 504 rfl (hb hby at_502) rfl rfl ?_
    refine g_iconst X73 hx 505 rfl (0 : Int32) rfl (hb hby at_504) ?_
    refine g_iaload X73 hx hZ 506 rfl (hb hby at_505) e73 Al56 0 rfl (.int (Int32.ofNat x0)) rfl ?_
    refine g_iload X73 hx 508 rfl (hb hby at_506) rfl ?_
    by_cases k0a : (Int32.ofNat x0) = (Int32.ofNat ma)
    · refine g_icmpY X73 hx 520 (hb hby at_508) (XT.ii_eq_t k0a) (by decide) (by decide) ?_
      have hm0 : b2i (decide (x0 ∈ [mb, ma])) = (1 : Int32) := by
        have q := (own_ofi_eq l_x0 l_ma).mp k0a
        rw [decide_eq_true (by simp only [List.mem_cons, List.not_mem_nil, or_false]; exact Or.inr q)]; rfl
      refine g_iconst X73 hx 521 rfl (1 : Int32) rfl (hb hby at_520) ?_
      refine g_goto X73 hx 525 (hb hby at_521) (by decide) (by decide) ?_
      refine g_icmpN X73 hx 528 rfl (hb hby at_525) (XT.ii_ne_f hm0) ?_
      refine g_iconst X73 hx 529 rfl (1 : Int32) rfl (hb hby at_528) ?_
      refine g_goto X73 hx 533 (hb hby at_529) (by decide) (by decide) ?_
      refine g_istore X73 hx 535 rfl (hb hby at_533) #[.val (.long p1), .second, .val (.long p2), .second, .val (.int p3), .val (.int p4), .val (.int wd), .val (.int mk), .val (.ref o1), .val (.int (Int32.ofNat ma)), .val (.int (Int32.ofNat mb)), .val (.int (Int32.ofNat f)), .val (.int (Int32.ofNat t)), .val (.ref o6), .val (.ref o13), .val (.ref o25), .val (.int (Int32.ofNat pb)), .val (.ref o33), .val (.int (1 : Int32))] rfl ?_
      refine g_iload X73 hx 537 rfl (hb hby at_535) rfl ?_
      refine g_ifN X73 hx 540 rfl (hb hby at_537) (XT.i0_eq_f (by decide)) ?_
      refine g_aload X73 hx 542 rfl (hb hby at_540) rfl rfl ?_
      refine g_aload X73 hx 544 rfl (hb hby at_542) rfl rfl ?_
      refine g_iconst X73 hx 545 rfl (1 : Int32) rfl (hb hby at_544) ?_
      refine g_iaload X73 hx hZ 546 rfl (hb hby at_545) e73 Al56 1 rfl (.int (Int32.ofNat x1)) rfl ?_
      refine g_callV X73 hx hZ 549 rfl (y := (⟨"com/example/tallyrank/tallyrank/search/ScoreWindows", "isScored", "(I)Z"⟩ : MethodName)) hown (hw _ (List.mem_of_getElem? (i := 39) rfl)) (hw _ (List.mem_of_getElem? (i := 40) rfl)) (hw _ (List.mem_of_getElem? (i := 42) rfl)) (hw _ (List.mem_of_getElem? (i := 41) rfl)) (hw _ (List.mem_of_getElem? (i := 4) rfl)) (hw _ (List.mem_of_getElem? (i := 43) rfl)) (by decide) o33 [.int (Int32.ofNat x1)] [] (rmZ l Z a0 hw [] o33 sd [mb, ma] x1 T53.heap n0 Zl59 Fld71 Al72 hS l_x1) e73 Exa60 (lenOf pd_5 rfl) rfl (by rw [hml]; rfl) (hb hby at_546) (by decide) 0 (Nat.le_of_eq rfl) (by decide) (by decide) (by decide) ?_
      rintro _ T74 L74 X74 ⟨rfl, N74q, e74⟩
      have N74 := Fr.app N73 N74q
      show Goes p e below (T74.setTop (mkF m 549 #[.val (.long p1), .second, .val (.long p2), .second, .val (.int p3), .val (.int p4), .val (.int wd), .val (.int mk), .val (.ref o1), .val (.int (Int32.ofNat ma)), .val (.int (Int32.ofNat mb)), .val (.int (Int32.ofNat f)), .val (.int (Int32.ofNat t)), .val (.ref o6), .val (.ref o13), .val (.ref o25), .val (.int (Int32.ofNat pb)), .val (.ref o33), .val (.int (1 : Int32))] [.int (b2i (decide (x1 ∈ [mb, ma])))])) _
      refine g_aload X74 hx 551 rfl (hb hby at_549) rfl rfl ?_
      refine g_iconst X74 hx 552 rfl (1 : Int32) rfl (hb hby at_551) ?_
      refine g_iaload X74 hx hZ 553 rfl (hb hby at_552) e74 Al56 1 rfl (.int (Int32.ofNat x1)) rfl ?_
      refine g_iload X74 hx 555 rfl (hb hby at_553) rfl ?_
      by_cases k1a : (Int32.ofNat x1) = (Int32.ofNat ma)
      · refine g_icmpY X74 hx 567 (hb hby at_555) (XT.ii_eq_t k1a) (by decide) (by decide) ?_
        have hm1 : b2i (decide (x1 ∈ [mb, ma])) = (1 : Int32) := by
          have q := (own_ofi_eq l_x1 l_ma).mp k1a
          rw [decide_eq_true (by simp only [List.mem_cons, List.not_mem_nil, or_false]; exact Or.inr q)]; rfl
        refine g_iconst X74 hx 568 rfl (1 : Int32) rfl (hb hby at_567) ?_
        refine g_goto X74 hx 572 (hb hby at_568) (by decide) (by decide) ?_
        refine g_icmpN X74 hx 575 rfl (hb hby at_572) (XT.ii_ne_f hm1) ?_
        refine g_iconst X74 hx 576 rfl (1 : Int32) rfl (hb hby at_575) ?_
        refine g_goto X74 hx 580 (hb hby at_576) (by decide) (by decide) ?_
        refine g_istore X74 hx 582 rfl (hb hby at_580) #[.val (.long p1), .second, .val (.long p2), .second, .val (.int p3), .val (.int p4), .val (.int wd), .val (.int mk), .val (.ref o1), .val (.int (Int32.ofNat ma)), .val (.int (Int32.ofNat mb)), .val (.int (Int32.ofNat f)), .val (.int (Int32.ofNat t)), .val (.ref o6), .val (.ref o13), .val (.ref o25), .val (.int (Int32.ofNat pb)), .val (.ref o33), .val (.int (1 : Int32))] rfl ?_
        refine g_iload X74 hx 584 rfl (hb hby at_582) rfl ?_
        exact g_retZ X74 hx hret hlk rfl (hb hby at_584) ⟨rfl, N74⟩ (by decide) (by decide)
      · refine g_icmpN X74 hx 558 rfl (hb hby at_555) (XT.ii_eq_f k1a) ?_
        refine g_aload X74 hx 560 rfl (hb hby at_558) rfl rfl ?_
        refine g_iconst X74 hx 561 rfl (1 : Int32) rfl (hb hby at_560) ?_
        refine g_iaload X74 hx hZ 562 rfl (hb hby at_561) e74 Al56 1 rfl (.int (Int32.ofNat x1)) rfl ?_
        refine g_iload X74 hx 564 rfl (hb hby at_562) rfl ?_
        by_cases k1b : (Int32.ofNat x1) = (Int32.ofNat mb)
        · refine g_icmpN X74 hx 567 rfl (hb hby at_564) (XT.ii_ne_f k1b) ?_
          have hm1 : b2i (decide (x1 ∈ [mb, ma])) = (1 : Int32) := by
            have q := (own_ofi_eq l_x1 l_mb).mp k1b
            rw [decide_eq_true (by simp only [List.mem_cons, List.not_mem_nil, or_false]; exact Or.inl q)]; rfl
          refine g_iconst X74 hx 568 rfl (1 : Int32) rfl (hb hby at_567) ?_
          refine g_goto X74 hx 572 (hb hby at_568) (by decide) (by decide) ?_
          refine g_icmpN X74 hx 575 rfl (hb hby at_572) (XT.ii_ne_f hm1) ?_
          refine g_iconst X74 hx 576 rfl (1 : Int32) rfl (hb hby at_575) ?_
          refine g_goto X74 hx 580 (hb hby at_576) (by decide) (by decide) ?_
          refine g_istore X74 hx 582 rfl (hb hby at_580) #[.val (.long p1), .second, .val (.long p2), .second, .val (.int p3), .val (.int p4), .val (.int wd), .val (.int mk), .val (.ref o1), .val (.int (Int32.ofNat ma)), .val (.int (Int32.ofNat mb)), .val (.int (Int32.ofNat f)), .val (.int (Int32.ofNat t)), .val (.ref o6), .val (.ref o13), .val (.ref o25), .val (.int (Int32.ofNat pb)), .val (.ref o33), .val (.int (1 : Int32))] rfl ?_
          refine g_iload X74 hx 584 rfl (hb hby at_582) rfl ?_
          exact g_retZ X74 hx hret hlk rfl (hb hby at_584) ⟨rfl, N74⟩ (by decide) (by decide)
        · refine g_icmpY X74 hx 571 (hb hby at_564) (XT.ii_ne_t k1b) (by decide) (by decide) ?_
          have hm1 : b2i (decide (x1 ∈ [mb, ma])) = (0 : Int32) := by
            rw [decide_eq_false (by simp only [List.mem_cons, List.not_mem_nil, or_false]; exact fun z => z.elim (fun z => k1b ((own_ofi_eq l_x1 l_mb).mpr z)) (fun z => k1a ((own_ofi_eq l_x1 l_ma).mpr z)))]; rfl
          refine g_iconst X74 hx 572 rfl (0 : Int32) rfl (hb hby at_571) ?_
          refine g_icmpN X74 hx 575 rfl (hb hby at_572) (XT.ii_ne_f hm1) ?_
          refine g_iconst X74 hx 576 rfl (1 : Int32) rfl (hb hby at_575) ?_
          refine g_goto X74 hx 580 (hb hby at_576) (by decide) (by decide) ?_
          refine g_istore X74 hx 582 rfl (hb hby at_580) #[.val (.long p1), .second, .val (.long p2), .second, .val (.int p3), .val (.int p4), .val (.int wd), .val (.int mk), .val (.ref o1), .val (.int (Int32.ofNat ma)), .val (.int (Int32.ofNat mb)), .val (.int (Int32.ofNat f)), .val (.int (Int32.ofNat t)), .val (.ref o6), .val (.ref o13), .val (.ref o25), .val (.int (Int32.ofNat pb)), .val (.ref o33), .val (.int (1 : Int32))] rfl ?_
          refine g_iload X74 hx 584 rfl (hb hby at_582) rfl ?_
          exact g_retZ X74 hx hret hlk rfl (hb hby at_584) ⟨rfl, N74⟩ (by decide) (by decide)
    · refine g_icmpN X73 hx 511 rfl (hb hby at_508) (XT.ii_eq_f k0a) ?_
      refine g_aload X73 hx 513 rfl (hb hby at_511) rfl rfl ?_
      refine g_iconst X73 hx 514 rfl (0 : Int32) rfl (hb hby at_513) ?_
      refine g_iaload X73 hx hZ 515 rfl (hb hby at_514) e73 Al56 0 rfl (.int (Int32.ofNat x0)) rfl ?_
      refine g_iload X73 hx 517 rfl (hb hby at_515) rfl ?_
      by_cases k0b : (Int32.ofNat x0) = (Int32.ofNat mb)
      · refine g_icmpN X73 hx 520 rfl (hb hby at_517) (XT.ii_ne_f k0b) ?_
        have hm0 : b2i (decide (x0 ∈ [mb, ma])) = (1 : Int32) := by
          have q := (own_ofi_eq l_x0 l_mb).mp k0b
          rw [decide_eq_true (by simp only [List.mem_cons, List.not_mem_nil, or_false]; exact Or.inl q)]; rfl
        refine g_iconst X73 hx 521 rfl (1 : Int32) rfl (hb hby at_520) ?_
        refine g_goto X73 hx 525 (hb hby at_521) (by decide) (by decide) ?_
        refine g_icmpN X73 hx 528 rfl (hb hby at_525) (XT.ii_ne_f hm0) ?_
        refine g_iconst X73 hx 529 rfl (1 : Int32) rfl (hb hby at_528) ?_
        refine g_goto X73 hx 533 (hb hby at_529) (by decide) (by decide) ?_
        refine g_istore X73 hx 535 rfl (hb hby at_533) #[.val (.long p1), .second, .val (.long p2), .second, .val (.int p3), .val (.int p4), .val (.int wd), .val (.int mk), .val (.ref o1), .val (.int (Int32.ofNat ma)), .val (.int (Int32.ofNat mb)), .val (.int (Int32.ofNat f)), .val (.int (Int32.ofNat t)), .val (.ref o6), .val (.ref o13), .val (.ref o25), .val (.int (Int32.ofNat pb)), .val (.ref o33), .val (.int (1 : Int32))] rfl ?_
        refine g_iload X73 hx 537 rfl (hb hby at_535) rfl ?_
        refine g_ifN X73 hx 540 rfl (hb hby at_537) (XT.i0_eq_f (by decide)) ?_
        refine g_aload X73 hx 542 rfl (hb hby at_540) rfl rfl ?_
        refine g_aload X73 hx 544 rfl (hb hby at_542) rfl rfl ?_
        refine g_iconst X73 hx 545 rfl (1 : Int32) rfl (hb hby at_544) ?_
        refine g_iaload X73 hx hZ 546 rfl (hb hby at_545) e73 Al56 1 rfl (.int (Int32.ofNat x1)) rfl ?_
        refine g_callV X73 hx hZ 549 rfl (y := (⟨"com/example/tallyrank/tallyrank/search/ScoreWindows", "isScored", "(I)Z"⟩ : MethodName)) hown (hw _ (List.mem_of_getElem? (i := 39) rfl)) (hw _ (List.mem_of_getElem? (i := 40) rfl)) (hw _ (List.mem_of_getElem? (i := 42) rfl)) (hw _ (List.mem_of_getElem? (i := 41) rfl)) (hw _ (List.mem_of_getElem? (i := 4) rfl)) (hw _ (List.mem_of_getElem? (i := 43) rfl)) (by decide) o33 [.int (Int32.ofNat x1)] [] (rmZ l Z a0 hw [] o33 sd [mb, ma] x1 T53.heap n0 Zl59 Fld71 Al72 hS l_x1) e73 Exa60 (lenOf pd_5 rfl) rfl (by rw [hml]; rfl) (hb hby at_546) (by decide) 0 (Nat.le_of_eq rfl) (by decide) (by decide) (by decide) ?_
        rintro _ T75 L75 X75 ⟨rfl, N75q, e75⟩
        have N75 := Fr.app N73 N75q
        show Goes p e below (T75.setTop (mkF m 549 #[.val (.long p1), .second, .val (.long p2), .second, .val (.int p3), .val (.int p4), .val (.int wd), .val (.int mk), .val (.ref o1), .val (.int (Int32.ofNat ma)), .val (.int (Int32.ofNat mb)), .val (.int (Int32.ofNat f)), .val (.int (Int32.ofNat t)), .val (.ref o6), .val (.ref o13), .val (.ref o25), .val (.int (Int32.ofNat pb)), .val (.ref o33), .val (.int (1 : Int32))] [.int (b2i (decide (x1 ∈ [mb, ma])))])) _
        refine g_aload X75 hx 551 rfl (hb hby at_549) rfl rfl ?_
        refine g_iconst X75 hx 552 rfl (1 : Int32) rfl (hb hby at_551) ?_
        refine g_iaload X75 hx hZ 553 rfl (hb hby at_552) e75 Al56 1 rfl (.int (Int32.ofNat x1)) rfl ?_
        refine g_iload X75 hx 555 rfl (hb hby at_553) rfl ?_
        by_cases k1a : (Int32.ofNat x1) = (Int32.ofNat ma)
        · refine g_icmpY X75 hx 567 (hb hby at_555) (XT.ii_eq_t k1a) (by decide) (by decide) ?_
          have hm1 : b2i (decide (x1 ∈ [mb, ma])) = (1 : Int32) := by
            have q := (own_ofi_eq l_x1 l_ma).mp k1a
            rw [decide_eq_true (by simp only [List.mem_cons, List.not_mem_nil, or_false]; exact Or.inr q)]; rfl
          refine g_iconst X75 hx 568 rfl (1 : Int32) rfl (hb hby at_567) ?_
          refine g_goto X75 hx 572 (hb hby at_568) (by decide) (by decide) ?_
          refine g_icmpN X75 hx 575 rfl (hb hby at_572) (XT.ii_ne_f hm1) ?_
          refine g_iconst X75 hx 576 rfl (1 : Int32) rfl (hb hby at_575) ?_
          refine g_goto X75 hx 580 (hb hby at_576) (by decide) (by decide) ?_
          refine g_istore X75 hx 582 rfl (hb hby at_580) #[.val (.long p1), .second, .val (.long p2), .second, .val (.int p3), .val (.int p4), .val (.int wd), .val (.int mk), .val (.ref o1), .val (.int (Int32.ofNat ma)), .val (.int (Int32.ofNat mb)), .val (.int (Int32.ofNat f)), .val (.int (Int32.ofNat t)), .val (.ref o6), .val (.ref o13), .val (.ref o25), .val (.int (Int32.ofNat pb)), .val (.ref o33), .val (.int (1 : Int32))] rfl ?_
          refine g_iload X75 hx 584 rfl (hb hby at_582) rfl ?_
          exact g_retZ X75 hx hret hlk rfl (hb hby at_584) ⟨rfl, N75⟩ (by decide) (by decide)
        · refine g_icmpN X75 hx 558 rfl (hb hby at_555) (XT.ii_eq_f k1a) ?_
          refine g_aload X75 hx 560 rfl (hb hby at_558) rfl rfl ?_
          refine g_iconst X75 hx 561 rfl (1 : Int32) rfl (hb hby at_560) ?_
          refine g_iaload X75 hx hZ 562 rfl (hb hby at_561) e75 Al56 1 rfl (.int (Int32.ofNat x1)) rfl ?_
          refine g_iload X75 hx 564 rfl (hb hby at_562) rfl ?_
          by_cases k1b : (Int32.ofNat x1) = (Int32.ofNat mb)
          · refine g_icmpN X75 hx 567 rfl (hb hby at_564) (XT.ii_ne_f k1b) ?_
            have hm1 : b2i (decide (x1 ∈ [mb, ma])) = (1 : Int32) := by
              have q := (own_ofi_eq l_x1 l_mb).mp k1b
              rw [decide_eq_true (by simp only [List.mem_cons, List.not_mem_nil, or_false]; exact Or.inl q)]; rfl
            refine g_iconst X75 hx 568 rfl (1 : Int32) rfl (hb hby at_567) ?_
            refine g_goto X75 hx 572 (hb hby at_568) (by decide) (by decide) ?_
            refine g_icmpN X75 hx 575 rfl (hb hby at_572) (XT.ii_ne_f hm1) ?_
            refine g_iconst X75 hx 576 rfl (1 : Int32) rfl (hb hby at_575) ?_
            refine g_goto X75 hx 580 (hb hby at_576) (by decide) (by decide) ?_
            refine g_istore X75 hx 582 rfl (hb hby at_580) #[.val (.long p1), .second, .val (.long p2), .second, .val (.int p3), .val (.int p4), .val (.int wd), .val (.int mk), .val (.ref o1), .val (.int (Int32.ofNat ma)), .val (.int (Int32.ofNat mb)), .val (.int (Int32.ofNat f)), .val (.int (Int32.ofNat t)), .val (.ref o6), .val (.ref o13), .val (.ref o25), .val (.int (Int32.ofNat pb)), .val (.ref o33), .val (.int (1 : Int32))] rfl ?_
            refine g_iload X75 hx 584 rfl (hb hby at_582) rfl ?_
            exact g_retZ X75 hx hret hlk rfl (hb hby at_584) ⟨rfl, N75⟩ (by decide) (by decide)
          · refine g_icmpY X75 hx 571 (hb hby at_564) (XT.ii_ne_t k1b) (by decide) (by decide) ?_
            have hm1 : b2i (decide (x1 ∈ [mb, ma])) = (0 : Int32) := by
              rw [decide_eq_false (by simp only [List.mem_cons, List.not_mem_nil, or_false]; exact fun z => z.elim (fun z => k1b ((own_ofi_eq l_x1 l_mb).mpr z)) (fun z => k1a ((own_ofi_eq l_x1 l_ma).mpr z)))]; rfl
            refine g_iconst X75 hx 572 rfl (0 : Int32) rfl (hb hby at_571) ?_
            refine g_icmpN X75 hx 575 rfl (hb hby at_572) (XT.ii_ne_f hm1) ?_
            refine g_iconst X75 hx 576 rfl (1 : Int32) rfl (hb hby at_575) ?_
            refine g_goto X75 hx 580 (hb hby at_576) (by decide) (by decide) ?_
            refine g_istore X75 hx 582 rfl (hb hby at_580) #[.val (.long p1), .second, .val (.long p2), .second, .val (.int p3), .val (.int p4), .val (.int wd), .val (.int mk), .val (.ref o1), .val (.int (Int32.ofNat ma)), .val (.int (Int32.ofNat mb)), .val (.int (Int32.ofNat f)), .val (.int (Int32.ofNat t)), .val (.ref o6), .val (.ref o13), .val (.ref o25), .val (.int (Int32.ofNat pb)), .val (.ref o33), .val (.int (1 : Int32))] rfl ?_
            refine g_iload X75 hx 584 rfl (hb hby at_582) rfl ?_
            exact g_retZ X75 hx hret hlk rfl (hb hby at_584) ⟨rfl, N75⟩ (by decide) (by decide)
      · refine g_icmpY X73 hx 524 (hb hby at_517) (XT.ii_ne_t k0b) (by decide) (by decide) ?_
        have hm0 : b2i (decide (x0 ∈ [mb, ma])) = (0 : Int32) := by
          rw [decide_eq_false (by simp only [List.mem_cons, List.not_mem_nil, or_false]; exact fun z => z.elim (fun z => k0b ((own_ofi_eq l_x0 l_mb).mpr z)) (fun z => k0a ((own_ofi_eq l_x0 l_ma).mpr z)))]; rfl
        refine g_iconst X73 hx 525 rfl (0 : Int32) rfl (hb hby at_524) ?_
        refine g_icmpN X73 hx 528 rfl (hb hby at_525) (XT.ii_ne_f hm0) ?_
        refine g_iconst X73 hx 529 rfl (1 : Int32) rfl (hb hby at_528) ?_
        refine g_goto X73 hx 533 (hb hby at_529) (by decide) (by decide) ?_
        refine g_istore X73 hx 535 rfl (hb hby at_533) #[.val (.long p1), .second, .val (.long p2), .second, .val (.int p3), .val (.int p4), .val (.int wd), .val (.int mk), .val (.ref o1), .val (.int (Int32.ofNat ma)), .val (.int (Int32.ofNat mb)), .val (.int (Int32.ofNat f)), .val (.int (Int32.ofNat t)), .val (.ref o6), .val (.ref o13), .val (.ref o25), .val (.int (Int32.ofNat pb)), .val (.ref o33), .val (.int (1 : Int32))] rfl ?_
        refine g_iload X73 hx 537 rfl (hb hby at_535) rfl ?_
        refine g_ifN X73 hx 540 rfl (hb hby at_537) (XT.i0_eq_f (by decide)) ?_
        refine g_aload X73 hx 542 rfl (hb hby at_540) rfl rfl ?_
        refine g_aload X73 hx 544 rfl (hb hby at_542) rfl rfl ?_
        refine g_iconst X73 hx 545 rfl (1 : Int32) rfl (hb hby at_544) ?_
        refine g_iaload X73 hx hZ 546 rfl (hb hby at_545) e73 Al56 1 rfl (.int (Int32.ofNat x1)) rfl ?_
        refine g_callV X73 hx hZ 549 rfl (y := (⟨"com/example/tallyrank/tallyrank/search/ScoreWindows", "isScored", "(I)Z"⟩ : MethodName)) hown (hw _ (List.mem_of_getElem? (i := 39) rfl)) (hw _ (List.mem_of_getElem? (i := 40) rfl)) (hw _ (List.mem_of_getElem? (i := 42) rfl)) (hw _ (List.mem_of_getElem? (i := 41) rfl)) (hw _ (List.mem_of_getElem? (i := 4) rfl)) (hw _ (List.mem_of_getElem? (i := 43) rfl)) (by decide) o33 [.int (Int32.ofNat x1)] [] (rmZ l Z a0 hw [] o33 sd [mb, ma] x1 T53.heap n0 Zl59 Fld71 Al72 hS l_x1) e73 Exa60 (lenOf pd_5 rfl) rfl (by rw [hml]; rfl) (hb hby at_546) (by decide) 0 (Nat.le_of_eq rfl) (by decide) (by decide) (by decide) ?_
        rintro _ T76 L76 X76 ⟨rfl, N76q, e76⟩
        have N76 := Fr.app N73 N76q
        show Goes p e below (T76.setTop (mkF m 549 #[.val (.long p1), .second, .val (.long p2), .second, .val (.int p3), .val (.int p4), .val (.int wd), .val (.int mk), .val (.ref o1), .val (.int (Int32.ofNat ma)), .val (.int (Int32.ofNat mb)), .val (.int (Int32.ofNat f)), .val (.int (Int32.ofNat t)), .val (.ref o6), .val (.ref o13), .val (.ref o25), .val (.int (Int32.ofNat pb)), .val (.ref o33), .val (.int (1 : Int32))] [.int (b2i (decide (x1 ∈ [mb, ma])))])) _
        refine g_aload X76 hx 551 rfl (hb hby at_549) rfl rfl ?_
        refine g_iconst X76 hx 552 rfl (1 : Int32) rfl (hb hby at_551) ?_
        refine g_iaload X76 hx hZ 553 rfl (hb hby at_552) e76 Al56 1 rfl (.int (Int32.ofNat x1)) rfl ?_
        refine g_iload X76 hx 555 rfl (hb hby at_553) rfl ?_
        by_cases k1a : (Int32.ofNat x1) = (Int32.ofNat ma)
        · refine g_icmpY X76 hx 567 (hb hby at_555) (XT.ii_eq_t k1a) (by decide) (by decide) ?_
          have hm1 : b2i (decide (x1 ∈ [mb, ma])) = (1 : Int32) := by
            have q := (own_ofi_eq l_x1 l_ma).mp k1a
            rw [decide_eq_true (by simp only [List.mem_cons, List.not_mem_nil, or_false]; exact Or.inr q)]; rfl
          refine g_iconst X76 hx 568 rfl (1 : Int32) rfl (hb hby at_567) ?_
          refine g_goto X76 hx 572 (hb hby at_568) (by decide) (by decide) ?_
          refine g_icmpN X76 hx 575 rfl (hb hby at_572) (XT.ii_ne_f hm1) ?_
          refine g_iconst X76 hx 576 rfl (1 : Int32) rfl (hb hby at_575) ?_
          refine g_goto X76 hx 580 (hb hby at_576) (by decide) (by decide) ?_
          refine g_istore X76 hx 582 rfl (hb hby at_580) #[.val (.long p1), .second, .val (.long p2), .second, .val (.int p3), .val (.int p4), .val (.int wd), .val (.int mk), .val (.ref o1), .val (.int (Int32.ofNat ma)), .val (.int (Int32.ofNat mb)), .val (.int (Int32.ofNat f)), .val (.int (Int32.ofNat t)), .val (.ref o6), .val (.ref o13), .val (.ref o25), .val (.int (Int32.ofNat pb)), .val (.ref o33), .val (.int (1 : Int32))] rfl ?_
          refine g_iload X76 hx 584 rfl (hb hby at_582) rfl ?_
          exact g_retZ X76 hx hret hlk rfl (hb hby at_584) ⟨rfl, N76⟩ (by decide) (by decide)
        · refine g_icmpN X76 hx 558 rfl (hb hby at_555) (XT.ii_eq_f k1a) ?_
          refine g_aload X76 hx 560 rfl (hb hby at_558) rfl rfl ?_
          refine g_iconst X76 hx 561 rfl (1 : Int32) rfl (hb hby at_560) ?_
          refine g_iaload X76 hx hZ 562 rfl (hb hby at_561) e76 Al56 1 rfl (.int (Int32.ofNat x1)) rfl ?_
          refine g_iload X76 hx 564 rfl (hb hby at_562) rfl ?_
          by_cases k1b : (Int32.ofNat x1) = (Int32.ofNat mb)
          · refine g_icmpN X76 hx 567 rfl (hb hby at_564) (XT.ii_ne_f k1b) ?_
            have hm1 : b2i (decide (x1 ∈ [mb, ma])) = (1 : Int32) := by
              have q := (own_ofi_eq l_x1 l_mb).mp k1b
              rw [decide_eq_true (by simp only [List.mem_cons, List.not_mem_nil, or_false]; exact Or.inl q)]; rfl
            refine g_iconst X76 hx 568 rfl (1 : Int32) rfl (hb hby at_567) ?_
            refine g_goto X76 hx 572 (hb hby at_568) (by decide) (by decide) ?_
            refine g_icmpN X76 hx 575 rfl (hb hby at_572) (XT.ii_ne_f hm1) ?_
            refine g_iconst X76 hx 576 rfl (1 : Int32) rfl (hb hby at_575) ?_
            refine g_goto X76 hx 580 (hb hby at_576) (by decide) (by decide) ?_
            refine g_istore X76 hx 582 rfl (hb hby at_580) #[.val (.long p1), .second, .val (.long p2), .second, .val (.int p3), .val (.int p4), .val (.int wd), .val (.int mk), .val (.ref o1), .val (.int (Int32.ofNat ma)), .val (.int (Int32.ofNat mb)), .val (.int (Int32.ofNat f)), .val (.int (Int32.ofNat t)), .val (.ref o6), .val (.ref o13), .val (.ref o25), .val (.int (Int32.ofNat pb)), .val (.ref o33), .val (.int (1 : Int32))] rfl ?_
            refine g_iload X76 hx 584 rfl (hb hby at_582) rfl ?_
            exact g_retZ X76 hx hret hlk rfl (hb hby at_584) ⟨rfl, N76⟩ (by decide) (by decide)
          · refine g_icmpY X76 hx 571 (hb hby at_564) (XT.ii_ne_t k1b) (by decide) (by decide) ?_
            have hm1 : b2i (decide (x1 ∈ [mb, ma])) = (0 : Int32) := by
              rw [decide_eq_false (by simp only [List.mem_cons, List.not_mem_nil, or_false]; exact fun z => z.elim (fun z => k1b ((own_ofi_eq l_x1 l_mb).mpr z)) (fun z => k1a ((own_ofi_eq l_x1 l_ma).mpr z)))]; rfl
            refine g_iconst X76 hx 572 rfl (0 : Int32) rfl (hb hby at_571) ?_
            refine g_icmpN X76 hx 575 rfl (hb hby at_572) (XT.ii_ne_f hm1) ?_
            refine g_iconst X76 hx 576 rfl (1 : Int32) rfl (hb hby at_575) ?_
            refine g_goto X76 hx 580 (hb hby at_576) (by decide) (by decide) ?_
            refine g_istore X76 hx 582 rfl (hb hby at_580) #[.val (.long p1), .second, .val (.long p2), .second, .val (.int p3), .val (.int p4), .val (.int wd), .val (.int mk), .val (.ref o1), .val (.int (Int32.ofNat ma)), .val (.int (Int32.ofNat mb)), .val (.int (Int32.ofNat f)), .val (.int (Int32.ofNat t)), .val (.ref o6), .val (.ref o13), .val (.ref o25), .val (.int (Int32.ofNat pb)), .val (.ref o33), .val (.int (1 : Int32))] rfl ?_
            refine g_iload X76 hx 584 rfl (hb hby at_582) rfl ?_
            exact g_retZ X76 hx hret hlk rfl (hb hby at_584) ⟨rfl, N76⟩ (by decide) (by decide)
  refine g_iload X0 hx 2 rfl (hb hby at_0) rfl ?_
  refine g_iconst X0 hx 3 rfl (1 : Int32) rfl (hb hby at_2) ?_
  refine g_iand X0 hx 4 rfl (hb hby at_3) ?_
  by_cases c4 : (p4 &&& (1 : Int32)) = 0
  · refine g_ifY X0 hx 11 (hb hby at_4) (XT.i0_eq_t c4) (by decide) (by decide) ?_
    refine g_iconst X0 hx 12 rfl (0 : Int32) rfl (hb hby at_11) ?_
    refine g_istore X0 hx 14 rfl (hb hby at_12) #[.val (.long p1), .second, .val (.long p2), .second, .val (.int p3), .val (.int p4), .val (.int (0 : Int32)), .unset, .unset, .unset, .unset, .unset, .unset, .unset, .unset, .unset, .unset, .unset, .unset] rfl ?_
    refine g_iload X0 hx 16 rfl (hb hby at_14) rfl ?_
    refine g_ifY X0 hx 25 (hb hby at_16) (XT.i0_eq_t (by decide)) (by decide) (by decide) ?_
    refine g_iconst X0 hx 26 rfl (3 : Int32) rfl (hb hby at_25) ?_
    refine g_istore X0 hx 28 rfl (hb hby at_26) #[.val (.long p1), .second, .val (.long p2), .second, .val (.int p3), .val (.int p4), .val (.int (0 : Int32)), .val (.int (3 : Int32)), .unset, .unset, .unset, .unset, .unset, .unset, .unset, .unset, .unset, .unset, .unset] rfl ?_
    exact tail _ _ (Or.inr rfl)
  · refine g_ifN X0 hx 7 rfl (hb hby at_4) (XT.i0_eq_f c4) ?_
    refine g_iconst X0 hx 8 rfl (1 : Int32) rfl (hb hby at_7) ?_
    refine g_goto X0 hx 12 (hb hby at_8) (by decide) (by decide) ?_
    refine g_istore X0 hx 14 rfl (hb hby at_12) #[.val (.long p1), .second, .val (.long p2), .second, .val (.int p3), .val (.int p4), .val (.int (1 : Int32)), .unset, .unset, .unset, .unset, .unset, .unset, .unset, .unset, .unset, .unset, .unset, .unset] rfl ?_
    refine g_iload X0 hx 16 rfl (hb hby at_14) rfl ?_
    refine g_ifN X0 hx 19 rfl (hb hby at_16) (XT.i0_eq_f (by decide)) ?_
    refine g_sipush X0 hx 22 rfl (8191 : Int32) rfl (hb hby at_19) ?_
    refine g_goto X0 hx 26 (hb hby at_22) (by decide) (by decide) ?_
    refine g_istore X0 hx 28 rfl (hb hby at_26) #[.val (.long p1), .second, .val (.long p2), .second, .val (.int p3), .val (.int p4), .val (.int (1 : Int32)), .val (.int (8191 : Int32)), .unset, .unset, .unset, .unset, .unset, .unset, .unset, .unset, .unset, .unset, .unset] rfl ?_
    exact tail _ _ (Or.inl rfl)
set_option maxRecDepth 65536 in
set_option maxHeartbeats 40000000 in
theorem comes_1 {Post : Tables → Env → Array Value → State → Outcome → State → Prop} (hpost : ∀ tb e args s v u, (limb_1_1.after args s (.returned v) u = true ∧ limb_1_2.after args s (.returned v) u = true ∧ True) → FrameEnd s (.returned v) u (Jvm.fieldLocs frame_1_writes args s ++ Jvm.arrayLocs frame_1_arrays args s ++ Jvm.staticLocs frame_1_statics s) 32 16768 → Post tb e args s (.returned v) u) :
    ArmFor flags0 classFile x code maxLocals ret World_1 tables_1 room_1 Calls_1 rest_1 Pre_1 Post := by
  intro l hfl _ _ p e ha hc hk s m args below hf hA hF happ hP
  obtain ⟨hcalls, hrest, hpre⟩ := hP
  obtain ⟨-, -, -, hnamed, -, -, -, hat⟩ := (Spec.applies_iff hf).mp happ
  obtain ⟨hg, hn⟩ := and_e (Cond.before_iff.mp (show (Jvm.Cond.and given_1 narrow_1).before args s = true from hpre))
  obtain ⟨h1, hr1⟩ := and_e hg
  obtain ⟨hk1, hr2⟩ := and_e hr1
  obtain ⟨hk2, hr3⟩ := and_e hr2
  obtain ⟨hk3, hr4⟩ := and_e hr3
  obtain ⟨w0, w1, w2, w3, rfl⟩ : ∃ w0 w1 w2 w3 : Value, args = #[w0, w1, w2, w3] := by
    have hs : args.size = 4 := by simpa [Cond.value, given_1] using h1
    obtain ⟨L⟩ := args
    match L, hs with
    | [w0, w1, w2, w3], _ => exact ⟨w0, w1, w2, w3, rfl⟩
  have hw := fun d (hd : d ∈ tables_1) => atoms_spec (ws := Jvm.Cond.code x code maxLocals ret :: tables_1) hat d (List.mem_cons_of_mem _ hd)
  have hfit : Fit s := fun {y c} hc i hi => by
    obtain ⟨ha, rfl⟩ := Array.getElem?_eq_some_iff.mp hc
    have q := List.all_eq_true.mp ((Array.all_eq_true_iff_forall_mem.mp hF) _ (Array.getElem_mem ha)) i (List.mem_range.mpr hi)
    simpa [Array.getElem?_eq_getElem hi] using q
  obtain ⟨i0, e0⟩ := isL_v hk1
  obtain rfl : w0 = (.long i0) := Option.some.inj e0
  obtain ⟨i1, e1⟩ := isL_v hk2
  obtain rfl : w1 = (.long i1) := Option.some.inj e1
  obtain ⟨i2, e2⟩ := is_v hk3
  obtain rfl : w2 = (.int i2) := Option.some.inj e2
  obtain ⟨i3, e3⟩ := is_v hr4
  obtain rfl : w3 = (.int i3) := Option.some.inj e3
  obtain ⟨n, o, h1, h2, h3, _, L, rfl, ⟨rfl, N⟩, hq⟩ := rm0 l s _ hw tables_1 i0 i1 i2 i3  s.heap s.heap.size (Nat.le_refl _)  p e ha hc hk s m _ below hf ((Spec.applies_iff_loose hf).mp happ).1 ⟨rfl, State.Warmed39.refl s, rfl⟩ trivial
  refine ⟨n, _, h1, h2, h3, hpost _ _ _ _ _ _ ⟨Cond.after_iff.mpr rfl, Cond.after_iff.mpr (eq_i res_at (Term.int_eval (1)) rfl), trivial⟩ ⟨hq.1, hq.2.1, (hq.2.2.sift fun y hy => Or.inr (N y hy)).mono (by decide) (by decide)⟩⟩
theorem main_1_1 : Claimed_1_1 := comes_1 fun _ _ _ _ _ _ h hF => ⟨h.1, hF⟩
theorem main_1_2 : Claimed_1_2 := comes_1 fun _ _ _ _ _ _ h hF => ⟨h.2.1, hF⟩
end Jvm.Pilot.@@N@@
namespace Jvm.Pilot.@@N@@
open Jvm Jvm.ClassFile Sem Op Lib Jvm.Free Jvm.Stand Jvm.Pilot.@@N@@.Jvm.D
/-! MADE BY PROGRAM (witnessworld.py) out of the Statement's table words and the real class files: 11 classes; the members and pool entries that the words name. The judged class is class 1, her method 2. -/
namespace start1
open Jvm.ClassFile
def u (s : String) : CpInfo := .utf8 (stringToUtf16 s)
/-- a pool by its gaps: so many unusable entries, then the entry; so many at the end -/
def gap : Nat → List CpInfo → List CpInfo
  | 0, r => r
  | n + 1, r => .unusable :: gap n r
def poolList (es : List (Nat × CpInfo)) (last : Nat) : List CpInfo := es.foldr (fun e r => gap e.1 (e.2 :: r)) (gap last [])
def pool (es : List (Nat × CpInfo)) (last : Nat) : Array CpInfo := ⟨poolList es last⟩
def fileOf (pool : Array CpInfo) (this : Nat) (attrs : Array Attribute := #[]) (ms : Array MethodInfo := #[]) (fl : Nat := 33) (sup : Nat := 0) (ifs : Array Nat := #[]) (fds : Array FieldInfo := #[]) : ClassFile where
  minorVersion := 0
  majorVersion := 65
  constantPool := pool
  accessFlags := fl
  thisClass := this
  superClass := sup
  interfaces := ifs
  fields := fds
  methods := ms
  attributes := attrs
def plain (name : String) (sup : Option ClassId) : Class where
  name := name
  kind := .ordinary
  loader := none
  accessFlags := 33
  super := sup
  interfaces := #[]
  cf := none
  fields := #[]
  methods := #[]
  instanceTypes := #[]
  staticTypes := #[]
  resolved := #[]
  callSites := []
  init := .initialized
  statics := none
  mirror := none

def pool0 : Array CpInfo := pool [(5, u "<init>"), (0, u "()V"), (1, .class_ 10), (1, u "java/lang/Object")] 113

def k0c0 : Code := { maxStack := 0, maxLocals := 1, code := object_method_1_code, exceptionTable := #[], attributes := #[] }
def k0m0 : Method := { name := "<init>", desc := "()V", sig := { parameters := [], returnType := none }, accessFlags := 1, code := some k0c0 }
/-- java/lang/Object -/
def k0 : Class := { plain "java/lang/Object" none with
  accessFlags := 33
  interfaces := #[]
  cf := some (fileOf pool0 8 #[] #[{ accessFlags := 1, nameIndex := 5, descriptorIndex := 6, attributes := #[] }] 33 0 #[] #[])
  fields := #[]
  methods := #[k0m0]
  instanceTypes := #[]
  staticTypes := #[]
  resolved := Array.replicate 124 none
  statics := none }

def pool1 : Array CpInfo := pool [(2, .class_ 4), (0, .nameAndType 5 6), (0, u "java/lang/Object"), (0, u "<init>"), (0, u "()V"), (0, .class_ 8), (0, u "com/example/tallyrank/tallyrank/search/ScoreWindows"), (0, .methodref 7 3), (0, .methodref 7 11), (0, .nameAndType 12 13), (0, u "markScored"), (0, u "([IIIII)I"), (0, .methodref 7 15), (0, .nameAndType 16 17), (0, u "addKept"), (0, u "([I[DIII)V"), (0, .methodref 7 19), (0, .nameAndType 20 21), (0, u "score"), (0, u "(I)D"), (0, .methodref 23 24), (0, .class_ 25), (0, .nameAndType 26 27), (0, u "com/example/tallyrank/tallyrank/search/ScoreWindowsAddKeptPinLaw"), (0, u "expected"), (0, u "(I[I[DIIII)D"), (0, .methodref 7 29), (0, .nameAndType 30 31), (0, u "isScored"), (0, u "(I)Z"), (3, u "law"), (0, u "(JJII)Z")] 6

def k1m0 : Method := { name := "<init>", desc := "()V", sig := { parameters := [], returnType := none }, accessFlags := 2, code := none }
def k1c1 : Code := { maxStack := 4, maxLocals := 9, code := method_2_code, exceptionTable := #[], attributes := #[] }
def k1m1 : Method := { name := "expected", desc := "(I[I[DIIII)D", sig := { parameters := [.int, (.array .int), (.array .double), .int, .int, .int, .int], returnType := some .double }, accessFlags := 10, code := some k1c1 }
def k1c2 : Code := { maxStack := 9, maxLocals := 19, code := code, exceptionTable := #[], attributes := #[] }
def k1m2 : Method := { name := "law", desc := "(JJII)Z", sig := { parameters := [.long, .long, .int, .int], returnType := some .boolean }, accessFlags := 9, code := some k1c2 }
/-- com/example/tallyrank/tallyrank/search/ScoreWindowsAddKeptPinLaw -/
def k1 : Class := { plain "com/example/tallyrank/tallyrank/search/ScoreWindowsAddKeptPinLaw" (some 0) with
  accessFlags := 49
  interfaces := #[]
  cf := some (fileOf pool1 23 #[] #[{ accessFlags := 2, nameIndex := 5, descriptorIndex := 6, attributes := #[] }, { accessFlags := 10, nameIndex := 26, descriptorIndex := 27, attributes := #[] }, { accessFlags := 9, nameIndex := 35, descriptorIndex := 36, attributes := #[] }] 49 2 #[] #[])
  fields := #[]
  methods := #[k1m0, k1m1, k1m2]
  instanceTypes := #[]
  staticTypes := #[]
  resolved := Array.replicate 43 none
  statics := none }

def pool2 : Array CpInfo := pool [(1, .methodref 2 3), (0, .class_ 4), (0, .nameAndType 5 6), (0, u "java/lang/Object"), (0, u "<init>"), (0, u "()V"), (0, .class_ 8), (0, u "com/example/tallyrank/tallyrank/search/ScoreWindows"), (0, .fieldref 7 10), (0, .nameAndType 11 12), (0, u "scores"), (0, u "[D"), (2, .fieldref 7 16), (0, .nameAndType 17 18), (0, u "scored"), (0, u "[J"), (0, .fieldref 7 20), (0, .nameAndType 21 22), (0, u "foundPlaces"), (0, u "[I"), (0, .fieldref 7 24), (0, .nameAndType 25 12), (0, u "foundContributions"), (80, u "postingsRead"), (0, u "J"), (27, u "found"), (0, u "I"), (35, u "discarded"), (34, u "SIZE"), (2, u "KEPT_FOUND"), (1, u "POSTINGS_FOR_EACH_SOUGHT"), (13, u "(I)Z"), (13, u "markScored"), (0, u "([IIIII)I"), (4, u "addKept"), (0, u "([I[DIII)V"), (0, u "isScored"), (0, u "score"), (0, u "(I)D")] 6

def k2c0 : Code := { maxStack := 2, maxLocals := 1, code := prog_174_method_1_code, exceptionTable := #[], attributes := #[] }
def k2m0 : Method := { name := "<init>", desc := "()V", sig := { parameters := [], returnType := none }, accessFlags := 0, code := some k2c0 }
def k2c1 : Code := { maxStack := 7, maxLocals := 8, code := prog_174_method_22_code, exceptionTable := #[], attributes := #[] }
def k2m1 : Method := { name := "markScored", desc := "([IIIII)I", sig := { parameters := [(.array .int), .int, .int, .int, .int], returnType := some .int }, accessFlags := 0, code := some k2c1 }
def k2c2 : Code := { maxStack := 6, maxLocals := 8, code := prog_174_method_27_code, exceptionTable := #[], attributes := #[] }
def k2m2 : Method := { name := "addKept", desc := "([I[DIII)V", sig := { parameters := [(.array .int), (.array .double), .int, .int, .int], returnType := none }, accessFlags := 0, code := some k2c2 }
def k2c3 : Code := { maxStack := 5, maxLocals := 2, code := prog_174_method_31_code, exceptionTable := #[], attributes := #[] }
def k2m3 : Method := { name := "isScored", desc := "(I)Z", sig := { parameters := [.int], returnType := some .boolean }, accessFlags := 0, code := some k2c3 }
def k2c4 : Code := { maxStack := 2, maxLocals := 2, code := prog_174_method_32_code, exceptionTable := #[], attributes := #[] }
def k2m4 : Method := { name := "score", desc := "(I)D", sig := { parameters := [.int], returnType := some .double }, accessFlags := 0, code := some k2c4 }
/-- com/example/tallyrank/tallyrank/search/ScoreWindows -/
def k2 : Class := { plain "com/example/tallyrank/tallyrank/search/ScoreWindows" (some 0) with
  accessFlags := 48
  interfaces := #[]
  cf := some (fileOf pool2 7 #[] #[{ accessFlags := 0, nameIndex := 5, descriptorIndex := 6, attributes := #[] }, { accessFlags := 0, nameIndex := 240, descriptorIndex := 241, attributes := #[] }, { accessFlags := 0, nameIndex := 246, descriptorIndex := 247, attributes := #[] }, { accessFlags := 0, nameIndex := 248, descriptorIndex := 226, attributes := #[] }, { accessFlags := 0, nameIndex := 249, descriptorIndex := 250, attributes := #[] }] 48 2 #[] #[{ accessFlags := 24, nameIndex := 207, descriptorIndex := 136, attributes := #[] }, { accessFlags := 24, nameIndex := 210, descriptorIndex := 136, attributes := #[] }, { accessFlags := 24, nameIndex := 212, descriptorIndex := 136, attributes := #[] }, { accessFlags := 18, nameIndex := 11, descriptorIndex := 12, attributes := #[] }, { accessFlags := 18, nameIndex := 17, descriptorIndex := 18, attributes := #[] }, { accessFlags := 2, nameIndex := 21, descriptorIndex := 22, attributes := #[] }, { accessFlags := 2, nameIndex := 25, descriptorIndex := 12, attributes := #[] }, { accessFlags := 2, nameIndex := 135, descriptorIndex := 136, attributes := #[] }, { accessFlags := 2, nameIndex := 106, descriptorIndex := 107, attributes := #[] }, { accessFlags := 2, nameIndex := 172, descriptorIndex := 107, attributes := #[] }])
  fields := #[{ name := "SIZE", type := .int, accessFlags := 24, slot := 0, constantValue := 0 }, { name := "KEPT_FOUND", type := .int, accessFlags := 24, slot := 1, constantValue := 0 }, { name := "POSTINGS_FOR_EACH_SOUGHT", type := .int, accessFlags := 24, slot := 2, constantValue := 0 }, { name := "scores", type := (.array .double), accessFlags := 18, slot := 0, constantValue := 0 }, { name := "scored", type := (.array .long), accessFlags := 18, slot := 1, constantValue := 0 }, { name := "foundPlaces", type := (.array .int), accessFlags := 2, slot := 2, constantValue := 0 }, { name := "foundContributions", type := (.array .double), accessFlags := 2, slot := 3, constantValue := 0 }, { name := "found", type := .int, accessFlags := 2, slot := 4, constantValue := 0 }, { name := "postingsRead", type := .long, accessFlags := 2, slot := 5, constantValue := 0 }, { name := "discarded", type := .long, accessFlags := 2, slot := 6, constantValue := 0 }]
  methods := #[k2m0, k2m1, k2m2, k2m3, k2m4]
  instanceTypes := #[(.array .double), (.array .long), (.array .int), (.array .double), .int, .long, .long]
  staticTypes := #[.int, .int, .int]
  resolved := Array.replicate 257 none
  statics := none }

def pool3 : Array CpInfo := pool [(1, u "java/lang/Cloneable"), (0, .class_ 1), (0, u "java/lang/Object"), (0, .class_ 3)] 3

/-- java/lang/Cloneable -/
def k3 : Class := { plain "java/lang/Cloneable" (some 0) with
  accessFlags := 1537
  interfaces := #[]
  cf := some (fileOf pool3 2 #[] #[] 1537 4 #[] #[])
  fields := #[]
  methods := #[]
  instanceTypes := #[]
  staticTypes := #[]
  resolved := Array.replicate 8 none
  statics := none }

def pool4 : Array CpInfo := pool [(1, u "java/io/Serializable"), (0, .class_ 1), (0, u "java/lang/Object"), (0, .class_ 3)] 3

/-- java/io/Serializable -/
def k4 : Class := { plain "java/io/Serializable" (some 0) with
  accessFlags := 1537
  interfaces := #[]
  cf := some (fileOf pool4 2 #[] #[] 1537 4 #[] #[])
  fields := #[]
  methods := #[]
  instanceTypes := #[]
  staticTypes := #[]
  resolved := Array.replicate 8 none
  statics := none }

/-- the primitive byte -/
def k5 : Class := { plain "byte" none with kind := .primitive 'B', accessFlags := 0x411 }
/-- [B -/
def k6 : Class := { plain "[B" (some 0) with kind := .array 5 .byte, interfaces := #[3, 4], accessFlags := 1041 }

/-- the primitive int -/
def k7 : Class := { plain "int" none with kind := .primitive 'I', accessFlags := 0x411 }
/-- [I -/
def k8 : Class := { plain "[I" (some 0) with kind := .array 7 .int, interfaces := #[3, 4], accessFlags := 1041 }

/-- the primitive long -/
def k9 : Class := { plain "long" none with kind := .primitive 'J', accessFlags := 0x411 }
/-- [J -/
def k10 : Class := { plain "[J" (some 0) with kind := .array 9 .long, interfaces := #[3, 4], accessFlags := 1041 }

/-- the primitive double -/
def k11 : Class := { plain "double" none with kind := .primitive 'D', accessFlags := 0x411 }
/-- [D -/
def k12 : Class := { plain "[D" (some 0) with kind := .array 11 .double, interfaces := #[3, 4], accessFlags := 1041 }

def heap : Heap := #[]
def classes : Array Class := #[k0, k1, k2, k3, k4, k5, k6, k7, k8, k9, k10, k11, k12]
def interned : List (Array UInt16 × Addr) := []
def slotsUsed : Nat := 0
def theMethod : MethodId := ⟨1, 2⟩
def args0 : Array Value := #[.long 5, .long 7, .int 100, .int 3]
def aboutOver (below : List Frame) : State where
  vm := { classes := classes, interned := interned.toArray }
  heap := heap
  slotsUsed := slotsUsed
  threads := #[{ frames := .invoking theMethod args0 :: below }]
def below0 : List Frame := [.native { method := ⟨0, 0⟩, args := #[] }]
def about1 : State := aboutOver below0
def p0 : Program := .bare "" "" ""
def e0 : Env := launch0.env 0 0 0
theorem w_frames : about1.frames = Frame.invoking theMethod args0 :: below0 := rfl
set_option maxRecDepth 65536 in
theorem w_args : argsFit about1.vm theMethod args0 = true := by decide +kernel
set_option maxRecDepth 65536 in
theorem w_heap : heapFits about1 = true := by decide +kernel
set_option maxRecDepth 65536 in
theorem w_runnable : about1.curStatus? = some .runnable := by decide +kernel
set_option maxRecDepth 65536 in
theorem w_alone : about1.alone = true := by decide +kernel
set_option maxRecDepth 65536 in
theorem w_named : about1.methodNamed? x = some theMethod := by decide +kernel
set_option maxRecDepth 65536 in
theorem w_hears : about1.hears theMethod below0 = true := by decide +kernel
set_option maxRecDepth 65536 in
theorem w_ripe : about1.ripe theMethod args0 below0 = true := by decide +kernel
theorem w_running : about1.status = .running := rfl
set_option maxRecDepth 65536 in
theorem w_room : about1.hasRoom e0.platform room_1 = true :=
  launch0.hasRoom_least _ room_1 (by decide +kernel) (by decide +kernel) (by decide +kernel) (by decide +kernel) (by decide +kernel) (by decide +kernel)
theorem allAtoms_all (ts : List Jvm.Cond) (a : Array Jvm.Value) (st : Jvm.State) : (allAtoms ts).before a st = ts.all (fun c => c.before a st) := by
  induction ts with
  | nil => rfl
  | cons c t ih =>
    show (Jvm.Cond.and c (allAtoms t)).before a st = _
    rw [Jvm.Cond.before_and, ih, List.all_cons]
def words1 : List Jvm.Cond := Jvm.Cond.code x code maxLocals ret :: tables_1
/-- a 'code' word, met by the world's own term for the bytes: nothing is compared byte by byte -/
theorem code_word {y : MethodName} {bytes : ByteArray} {mx : Nat} {rt : Option FieldType} {a : Array Value} {s : State} {m : MethodId} {meth : Method} {c : Code} (h1 : s.methodNamed? y = some m) (h2 : s.vm.method? m = some meth) (h3 : meth.code = some c) (h4 : c.code = bytes)
    (h5 : (c.maxLocals == mx && c.exceptionTable.isEmpty && decide (c.maxStack ≤ mostOperands) && decide (meth.sig.returnType = rt) && !meth.locks && decide (parseMethodDescriptor y.desc = some meth.sig)) = true) : (Jvm.Cond.code y bytes mx rt).before a s = true := by
  simp only [Bool.and_eq_true, beq_iff_eq, Bool.not_eq_true', decide_eq_true_eq] at h5
  obtain ⟨⟨⟨⟨⟨g1, g2⟩, g3⟩, g4⟩, g5⟩, g6⟩ := h5
  simp [Cond.before, Cond.holds, Cond.value, h1, h2, h3, h4, g1, g2, g3, g4, g5, g6]
def isCode : Jvm.Cond → Bool
  | .code _ _ _ _ => true
  | _ => false
theorem all_split {L : List Jvm.Cond} {P : Jvm.Cond → Bool} (h1 : L.all (fun c => isCode c || P c) = true) (h2 : ∀ c ∈ L.filter isCode, P c = true) : L.all P = true := by
  refine List.all_eq_true.mpr fun c hc => ?_
  have h := List.all_eq_true.mp h1 c hc
  rcases Bool.eq_false_or_eq_true (isCode c) with hi | hi
  · exact h2 c (List.mem_filter.mpr ⟨hc, hi⟩)
  · simpa [hi] using h
set_option maxRecDepth 65536 in
theorem w_c0 : (Jvm.Cond.code x code maxLocals ret).before args0 about1 = true := code_word (m := ⟨1, 2⟩) (meth := k1m2) (c := k1c2) (by decide +kernel) rfl rfl rfl (by decide +kernel)
set_option maxRecDepth 65536 in
theorem w_c1 : (Jvm.Cond.code ({ cls := "com/example/tallyrank/tallyrank/search/ScoreWindows", name := "<init>", desc := "()V" } : Jvm.MethodName) prog_174_method_1_code (1 : Nat) (Option.none : Option Jvm.ClassFile.FieldType)).before args0 about1 = true := code_word (m := ⟨2, 0⟩) (meth := k2m0) (c := k2c0) (by decide +kernel) rfl rfl rfl (by decide +kernel)
set_option maxRecDepth 65536 in
theorem w_c2 : (Jvm.Cond.code ({ cls := "java/lang/Object", name := "<init>", desc := "()V" } : Jvm.MethodName) object_method_1_code (1 : Nat) (Option.none : Option Jvm.ClassFile.FieldType)).before args0 about1 = true := code_word (m := ⟨0, 0⟩) (meth := k0m0) (c := k0c0) (by decide +kernel) rfl rfl rfl (by decide +kernel)
set_option maxRecDepth 65536 in
theorem w_c3 : (Jvm.Cond.code ({ cls := "com/example/tallyrank/tallyrank/search/ScoreWindows", name := "markScored", desc := "([IIIII)I" } : Jvm.MethodName) prog_174_method_22_code (8 : Nat) (Option.some Jvm.ClassFile.FieldType.int)).before args0 about1 = true := code_word (m := ⟨2, 1⟩) (meth := k2m1) (c := k2c1) (by decide +kernel) rfl rfl rfl (by decide +kernel)
set_option maxRecDepth 65536 in
theorem w_c4 : (Jvm.Cond.code ({ cls := "com/example/tallyrank/tallyrank/search/ScoreWindows", name := "addKept", desc := "([I[DIII)V" } : Jvm.MethodName) prog_174_method_27_code (8 : Nat) (Option.none : Option Jvm.ClassFile.FieldType)).before args0 about1 = true := code_word (m := ⟨2, 2⟩) (meth := k2m2) (c := k2c2) (by decide +kernel) rfl rfl rfl (by decide +kernel)
set_option maxRecDepth 65536 in
theorem w_c5 : (Jvm.Cond.code ({ cls := "com/example/tallyrank/tallyrank/search/ScoreWindows", name := "score", desc := "(I)D" } : Jvm.MethodName) prog_174_method_32_code (2 : Nat) (Option.some Jvm.ClassFile.FieldType.double)).before args0 about1 = true := code_word (m := ⟨2, 4⟩) (meth := k2m4) (c := k2c4) (by decide +kernel) rfl rfl rfl (by decide +kernel)
set_option maxRecDepth 65536 in
theorem w_c6 : (Jvm.Cond.code ({ cls := "com/example/tallyrank/tallyrank/search/ScoreWindowsAddKeptPinLaw", name := "expected", desc := "(I[I[DIIII)D" } : Jvm.MethodName) method_2_code (9 : Nat) (Option.some Jvm.ClassFile.FieldType.double)).before args0 about1 = true := code_word (m := ⟨1, 1⟩) (meth := k1m1) (c := k1c1) (by decide +kernel) rfl rfl rfl (by decide +kernel)
set_option maxRecDepth 65536 in
theorem w_c7 : (Jvm.Cond.code ({ cls := "com/example/tallyrank/tallyrank/search/ScoreWindows", name := "isScored", desc := "(I)Z" } : Jvm.MethodName) prog_174_method_31_code (2 : Nat) (Option.some Jvm.ClassFile.FieldType.boolean)).before args0 about1 = true := code_word (m := ⟨2, 3⟩) (meth := k2m3) (c := k2c3) (by decide +kernel) rfl rfl rfl (by decide +kernel)
def codes1 : List Jvm.Cond := [Jvm.Cond.code x code maxLocals ret, Jvm.Cond.code ({ cls := "com/example/tallyrank/tallyrank/search/ScoreWindows", name := "<init>", desc := "()V" } : Jvm.MethodName) prog_174_method_1_code (1 : Nat) (Option.none : Option Jvm.ClassFile.FieldType), Jvm.Cond.code ({ cls := "java/lang/Object", name := "<init>", desc := "()V" } : Jvm.MethodName) object_method_1_code (1 : Nat) (Option.none : Option Jvm.ClassFile.FieldType), Jvm.Cond.code ({ cls := "com/example/tallyrank/tallyrank/search/ScoreWindows", name := "markScored", desc := "([IIIII)I" } : Jvm.MethodName) prog_174_method_22_code (8 : Nat) (Option.some Jvm.ClassFile.FieldType.int), Jvm.Cond.code ({ cls := "com/example/tallyrank/tallyrank/search/ScoreWindows", name := "addKept", desc := "([I[DIII)V" } : Jvm.MethodName) prog_174_method_27_code (8 : Nat) (Option.none : Option Jvm.ClassFile.FieldType), Jvm.Cond.code ({ cls := "com/example/tallyrank/tallyrank/search/ScoreWindows", name := "score", desc := "(I)D" } : Jvm.MethodName) prog_174_method_32_code (2 : Nat) (Option.some Jvm.ClassFile.FieldType.double), Jvm.Cond.code ({ cls := "com/example/tallyrank/tallyrank/search/ScoreWindowsAddKeptPinLaw", name := "expected", desc := "(I[I[DIIII)D" } : Jvm.MethodName) method_2_code (9 : Nat) (Option.some Jvm.ClassFile.FieldType.double), Jvm.Cond.code ({ cls := "com/example/tallyrank/tallyrank/search/ScoreWindows", name := "isScored", desc := "(I)Z" } : Jvm.MethodName) prog_174_method_31_code (2 : Nat) (Option.some Jvm.ClassFile.FieldType.boolean)]
set_option maxRecDepth 65536 in
theorem codes_eq : words1.filter isCode = codes1 := rfl
theorem w_codes : ∀ c ∈ words1.filter isCode, c.before args0 about1 = true := by
  rw [codes_eq]
  intro c hc
  simp only [codes1, List.mem_cons, List.not_mem_nil, or_false] at hc
  rcases hc with rfl | rfl | rfl | rfl | rfl | rfl | rfl | rfl
  · exact w_c0
  · exact w_c1
  · exact w_c2
  · exact w_c3
  · exact w_c4
  · exact w_c5
  · exact w_c6
  · exact w_c7
set_option maxRecDepth 65536 in
theorem w_t1 : (words1.take 24).all (fun c => isCode c || c.before args0 about1) = true := by decide +kernel
set_option maxRecDepth 65536 in
theorem w_t2 : (words1.drop 24).all (fun c => isCode c || c.before args0 about1) = true := by decide +kernel
theorem w_tables : (allAtoms (Jvm.Cond.code x code maxLocals ret :: tables_1)).before args0 about1 = true := by
  rw [allAtoms_all]
  show words1.all (fun c => c.before args0 about1) = true
  refine all_split ?_ w_codes
  rw [← List.take_append_drop 24 words1, List.all_append, w_t1, w_t2]
  rfl
set_option maxRecDepth 65536 in
theorem w_case : (Jvm.Cond.and given_1 narrow_1).before args0 about1 = true := by decide +kernel
theorem w_applies : (headSpec (Jvm.Cond.code x code maxLocals ret :: tables_1) room_1).applies x e0.platform about1 = true :=
  (Spec.applies_iff w_frames).mpr ⟨w_running, w_runnable, w_alone, w_named, w_hears, w_ripe, w_room, w_tables⟩
theorem atStart : AtStart classFile x code maxLocals ret World_1 tables_1 room_1 Calls_1 rest_1 Pre_1 launch0 p0 e0 about1 theMethod args0 below0 :=
  ⟨lists_1, trivial, launch0.admits_env _ _ _, launch0.least_env, fairChoices_fair.cas, fairChoices_fair.clock, w_frames, w_args, w_heap, w_applies, trivial, trivial, w_case⟩
end start1
theorem witness_1 : WitnessClaimed_1 := ⟨start1.p0, start1.e0, start1.about1, start1.theMethod, start1.args0, start1.below0, start1.atStart⟩
end Jvm.Pilot.@@N@@
