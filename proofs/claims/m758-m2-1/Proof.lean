import JvmDerived
import JvmDerived.Pilot.@@N@@Statement
import JvmDerived.Pilot.@@N@@Code
set_option linter.unusedVariables false
set_option linter.unusedSimpArgs false
namespace Jvm.Pilot.@@N@@
open Jvm Jvm.ClassFile Sem Op Lib Jvm.Free Jvm.Stand Jvm.LawKit Jvm.RoadKit Bundle Jvm.Pilot.@@N@@.Jvm.D
section OwnKit
variable {p : Program} {l : Launch} {e : Env} {R : Room} {s : State} {m : MethodId} {args : Array Value} {below : List Frame} {meth : Method} {c : Code} {T : State} {locs : List Loc} {cells slots : Nat} {P : State → Outcome → Prop} {Z : State} {a0 : Array Value} {h : Heap} {pc : Nat} {Ls : Array Slot} {st : List Value}
def Goes (p : Program) (e : Env) (below : List Frame) (S : State) (P : State → Outcome → Prop) : Prop := ∃ (U : State) (o : Outcome), Steps p.tables e below S U ∧ U.status = .running ∧ Ended U below o ∧ P U o
def Endz (s : State) (kc ks : Nat) (Q : Option Value → Heap → List Loc → Prop) (U : State) (o : Outcome) : Prop := ∃ v L, o = .returned v ∧ Q v U.heap L ∧ FrameEnd s o U L kc ks
theorem go {S S' : State} (hs : ∀ t, Steps p.tables e below S' t → Steps p.tables e below S t) (k : Goes p e below S' P) : Goes p e below S P := by
  obtain ⟨U, o, k1, k2⟩ := k
  exact ⟨U, o, hs U k1, k2⟩
theorem goT {S S' : State} (hs : Steps p.tables e below S S') (k : Goes p e below S' P) : Goes p e below S P := by
  obtain ⟨U, o, k1, k2⟩ := k
  exact ⟨U, o, hs.trans k1, k2⟩
theorem own_cast {g g' : JFrame} (q : g = g') (k : Goes p e below (T.setTop g') P) : Goes p e below (T.setTop g) P := q ▸ k
abbrev OwnMet (l : Launch) (Z : State) (y : MethodName) (bytes : ByteArray) (maxL : Nat) (ret : Option FieldType) (ws : List Jvm.Cond) (rm : Room) (as' : Array Value) (h : Heap) (Q : Option Value → Heap → List Loc → Prop) : Prop := MetFree l y (head1 (Jvm.Cond.code y bytes maxL ret :: ws) rm) (fun a U => a = as' ∧ Z.Warmed39 U.vm ∧ U.heap = h) (fun _ _ _ _ _ => True) (fun _ U o U' => ∃ v L, o = .returned v ∧ Q v U'.heap L ∧ FrameEnd U o U' L rm.cells rm.slots)
theorem own_body {y : MethodName} {bytes : ByteArray} {maxL : Nat} {ret : Option FieldType} {ws : List Jvm.Cond} {rm : Room} {as' : Array Value} {Q : Option Value → Heap → List Loc → Prop} (hpn : plainFor y = true)
    (B : ∀ (p : Program) (e : Env) (s : State) (m : MethodId) (below : List Frame) (meth : Method) (c : Code) (s₁ : State), p.tables.exec = Jvm.exec → c.code = bytes → c.maxLocals = maxL → s.vm.findClass y.cls = some m.cls → meth.name = y.name → meth.sig.returnType = ret → meth.locks = false → Z.Warmed39 s.vm → Stand p l e rm s m as' below meth c s₁ [] 0 0 → s₁.heap = h → Goes p e below (s₁.setTop (entryFrame m as' maxL)) (Endz s rm.cells rm.slots Q)) : OwnMet l Z y bytes maxL ret ws rm as' h Q := by
  refine MetFree.of_bodySF hpn hisR ?_
  intro p e s m args below meth c s₁ Bd hml0 hP hK
  obtain ⟨rfl, hZ, hh⟩ := hP
  exact B p e s m below meth c s₁ Bd.exec Bd.bytes hml0 (findClass_of_methodNamed Bd.named) (name_of_methodNamed Bd.named Bd.method).1 Bd.returns (BodyLoose.notSynchronized Bd) hZ (Stand.of_body Bd) (by rw [← hh, Bd.state]; rfl)
theorem g_ret {w : Value} {t : FieldType} {i : Instr} {kc ks : Nat} {Q : Option Value → Heap → List Loc → Prop} (X : Stand p l e R s m args below meth c T locs cells slots) (hx : p.tables.exec = Jvm.exec) (hret : meth.sig.returnType = some t) (hlk : meth.locks = false) (hn : narrow t w = w)
    (hi : (i = .ireturn ∧ (t = .int ∨ t = .boolean ∨ t = .byte ∨ t = .char ∨ t = .short) ∧ ∃ z, w = .int z) ∨ (i = .lreturn ∧ t = .long ∧ ∃ z, w = .long z) ∨ (i = .dreturn ∧ t = .double ∧ ∃ z, w = .double z) ∨ (i = .freturn ∧ t = .float ∧ ∃ z, w = .float z) ∨ (i = .areturn ∧ t.isReference = true ∧ w.isRef = true))
    (hd : decode c.code pc = .ok (i, 1)) (hQ : Q (some w) T.heap locs) (hc : cells ≤ kc) (hs : slots ≤ ks) : Goes p e below (T.setTop (mkF m pc Ls (w :: st))) (Endz s kc ks Q) := by
  obtain ⟨fs, hr, hrun, hended, hW, hsame⟩ := X.leave (v := some w) (fun h => by rw [hret] at h; cases h) hlk
  exact ⟨_, _, retOut X hx hret hn hi hd hr, hrun, hended, _, _, rfl, hQ, ⟨_, rfl⟩, hW, hsame.mono hc hs⟩
theorem g_retI {z : Int32} {kc ks : Nat} {Q : Option Value → Heap → List Loc → Prop} (X : Stand p l e R s m args below meth c T locs cells slots) (hx : p.tables.exec = Jvm.exec) (hret : meth.sig.returnType = some .int) (hlk : meth.locks = false) (hd : decode c.code pc = .ok (.ireturn, 1)) (hQ : Q (some (.int z)) T.heap locs) (hc : cells ≤ kc) (hs : slots ≤ ks) : Goes p e below (T.setTop (mkF m pc Ls (.int z :: st))) (Endz s kc ks Q) :=
  g_ret X hx hret hlk rfl (Or.inl ⟨rfl, Or.inl rfl, z, rfl⟩) hd hQ hc hs
theorem g_retZ {z : Int32} {kc ks : Nat} {Q : Option Value → Heap → List Loc → Prop} (X : Stand p l e R s m args below meth c T locs cells slots) (hx : p.tables.exec = Jvm.exec) (hret : meth.sig.returnType = some .boolean) (hlk : meth.locks = false) (hn : narrow .boolean (.int z) = .int z) (hd : decode c.code pc = .ok (.ireturn, 1)) (hQ : Q (some (.int z)) T.heap locs) (hc : cells ≤ kc) (hs : slots ≤ ks) : Goes p e below (T.setTop (mkF m pc Ls (.int z :: st))) (Endz s kc ks Q) :=
  g_ret X hx hret hlk hn (Or.inl ⟨rfl, Or.inr (Or.inl rfl), z, rfl⟩) hd hQ hc hs
theorem g_retJ {z : Int64} {kc ks : Nat} {Q : Option Value → Heap → List Loc → Prop} (X : Stand p l e R s m args below meth c T locs cells slots) (hx : p.tables.exec = Jvm.exec) (hret : meth.sig.returnType = some .long) (hlk : meth.locks = false) (hd : decode c.code pc = .ok (.lreturn, 1)) (hQ : Q (some (.long z)) T.heap locs) (hc : cells ≤ kc) (hs : slots ≤ ks) : Goes p e below (T.setTop (mkF m pc Ls (.long z :: st))) (Endz s kc ks Q) :=
  g_ret X hx hret hlk rfl (Or.inr (Or.inl ⟨rfl, rfl, z, rfl⟩)) hd hQ hc hs
theorem g_retA {w : Value} {t : FieldType} {kc ks : Nat} {Q : Option Value → Heap → List Loc → Prop} (X : Stand p l e R s m args below meth c T locs cells slots) (hx : p.tables.exec = Jvm.exec) (hret : meth.sig.returnType = some t) (hlk : meth.locks = false) (hn : narrow t w = w) (ht : t.isReference = true) (hw : w.isRef = true) (hd : decode c.code pc = .ok (.areturn, 1)) (hQ : Q (some w) T.heap locs) (hc : cells ≤ kc) (hs : slots ≤ ks) : Goes p e below (T.setTop (mkF m pc Ls (w :: st))) (Endz s kc ks Q) :=
  g_ret X hx hret hlk hn (Or.inr (Or.inr (Or.inr (Or.inr ⟨rfl, ht, hw⟩)))) hd hQ hc hs
theorem g_ret0 {kc ks : Nat} {Q : Option Value → Heap → List Loc → Prop} (X : Stand p l e R s m args below meth c T locs cells slots) (hx : p.tables.exec = Jvm.exec) (hret : meth.sig.returnType = none) (hlk : meth.locks = false) (hd : decode c.code pc = .ok (.return_, 1)) (hQ : Q none T.heap locs) (hc : cells ≤ kc) (hs : slots ≤ ks) : Goes p e below (T.setTop (mkF m pc Ls [])) (Endz s kc ks Q) := by
  obtain ⟨fs, hr, hrun, hended, hW, hsame⟩ := X.leave (v := none) (fun _ => rfl) hlk
  exact ⟨_, _, X.returnOut hx hret hd hr, hrun, hended, _, _, rfl, hQ, ⟨_, rfl⟩, hW, hsame.mono hc hs⟩
theorem g_iadd (X : Stand p l e R s m args below meth c T locs cells slots) (hx : p.tables.exec = Jvm.exec) (pc' : Nat) (hpc : pc + 1 = pc') {x y : Int32} (hd : decode c.code pc = .ok (.iadd, 1))  (K : Goes p e below (T.setTop (mkF m pc' Ls (.int (x + y) :: st))) P) : Goes p e below (T.setTop (mkF m pc Ls (.int y :: .int x :: st))) P := by
  subst hpc; exact go (fun _ q => XS.iadd X.here hx rfl hd rfl q) K
theorem g_isub (X : Stand p l e R s m args below meth c T locs cells slots) (hx : p.tables.exec = Jvm.exec) (pc' : Nat) (hpc : pc + 1 = pc') {x y : Int32} (hd : decode c.code pc = .ok (.isub, 1))  (K : Goes p e below (T.setTop (mkF m pc' Ls (.int (x - y) :: st))) P) : Goes p e below (T.setTop (mkF m pc Ls (.int y :: .int x :: st))) P := by
  subst hpc; exact go (fun _ q => XS.isub X.here hx rfl hd rfl q) K
theorem g_imul (X : Stand p l e R s m args below meth c T locs cells slots) (hx : p.tables.exec = Jvm.exec) (pc' : Nat) (hpc : pc + 1 = pc') {x y : Int32} (hd : decode c.code pc = .ok (.imul, 1))  (K : Goes p e below (T.setTop (mkF m pc' Ls (.int (x * y) :: st))) P) : Goes p e below (T.setTop (mkF m pc Ls (.int y :: .int x :: st))) P := by
  subst hpc; exact go (fun _ q => XS.imul X.here hx rfl hd rfl q) K
theorem g_iand (X : Stand p l e R s m args below meth c T locs cells slots) (hx : p.tables.exec = Jvm.exec) (pc' : Nat) (hpc : pc + 1 = pc') {x y : Int32} (hd : decode c.code pc = .ok (.iand, 1))  (K : Goes p e below (T.setTop (mkF m pc' Ls (.int (x &&& y) :: st))) P) : Goes p e below (T.setTop (mkF m pc Ls (.int y :: .int x :: st))) P := by
  subst hpc; exact go (fun _ q => XS.iand X.here hx rfl hd rfl q) K
theorem g_ior (X : Stand p l e R s m args below meth c T locs cells slots) (hx : p.tables.exec = Jvm.exec) (pc' : Nat) (hpc : pc + 1 = pc') {x y : Int32} (hd : decode c.code pc = .ok (.ior, 1))  (K : Goes p e below (T.setTop (mkF m pc' Ls (.int (x ||| y) :: st))) P) : Goes p e below (T.setTop (mkF m pc Ls (.int y :: .int x :: st))) P := by
  subst hpc; exact go (fun _ q => XT.ior X.here hx rfl hd rfl q) K
theorem g_ixor (X : Stand p l e R s m args below meth c T locs cells slots) (hx : p.tables.exec = Jvm.exec) (pc' : Nat) (hpc : pc + 1 = pc') {x y : Int32} (hd : decode c.code pc = .ok (.ixor, 1))  (K : Goes p e below (T.setTop (mkF m pc' Ls (.int (x ^^^ y) :: st))) P) : Goes p e below (T.setTop (mkF m pc Ls (.int y :: .int x :: st))) P := by
  subst hpc; exact go (fun _ q => XT.ixor X.here hx rfl hd rfl q) K
theorem g_ishl (X : Stand p l e R s m args below meth c T locs cells slots) (hx : p.tables.exec = Jvm.exec) (pc' : Nat) (hpc : pc + 1 = pc') {x y : Int32} (hd : decode c.code pc = .ok (.ishl, 1))  (K : Goes p e below (T.setTop (mkF m pc' Ls (.int (x <<< (y &&& 31)) :: st))) P) : Goes p e below (T.setTop (mkF m pc Ls (.int y :: .int x :: st))) P := by
  subst hpc; exact go (fun _ q => XT.ishl X.here hx rfl hd rfl q) K
theorem g_ishr (X : Stand p l e R s m args below meth c T locs cells slots) (hx : p.tables.exec = Jvm.exec) (pc' : Nat) (hpc : pc + 1 = pc') {x y : Int32} (hd : decode c.code pc = .ok (.ishr, 1))  (K : Goes p e below (T.setTop (mkF m pc' Ls (.int (x >>> (y &&& 31)) :: st))) P) : Goes p e below (T.setTop (mkF m pc Ls (.int y :: .int x :: st))) P := by
  subst hpc; exact go (fun _ q => XT.ishr X.here hx rfl hd rfl q) K
theorem g_iushr (X : Stand p l e R s m args below meth c T locs cells slots) (hx : p.tables.exec = Jvm.exec) (pc' : Nat) (hpc : pc + 1 = pc') {x y : Int32} (hd : decode c.code pc = .ok (.iushr, 1))  (K : Goes p e below (T.setTop (mkF m pc' Ls (.int (XT.ushr x y) :: st))) P) : Goes p e below (T.setTop (mkF m pc Ls (.int y :: .int x :: st))) P := by
  subst hpc; exact go (fun _ q => XT.iushr X.here hx rfl hd rfl q) K
theorem g_idiv (X : Stand p l e R s m args below meth c T locs cells slots) (hx : p.tables.exec = Jvm.exec) (pc' : Nat) (hpc : pc + 1 = pc') {x y : Int32} (hd : decode c.code pc = .ok (.idiv, 1)) (hy : y ≠ 0) (K : Goes p e below (T.setTop (mkF m pc' Ls (.int (x / y) :: st))) P) : Goes p e below (T.setTop (mkF m pc Ls (.int y :: .int x :: st))) P := by
  subst hpc; exact go (fun _ q => XS.idiv X.here hx rfl hd rfl hy q) K
theorem g_irem (X : Stand p l e R s m args below meth c T locs cells slots) (hx : p.tables.exec = Jvm.exec) (pc' : Nat) (hpc : pc + 1 = pc') {x y : Int32} (hd : decode c.code pc = .ok (.irem, 1)) (hy : y ≠ 0) (K : Goes p e below (T.setTop (mkF m pc' Ls (.int (x % y) :: st))) P) : Goes p e below (T.setTop (mkF m pc Ls (.int y :: .int x :: st))) P := by
  subst hpc; exact go (fun _ q => iremM X hx rfl hd rfl hy q) K
theorem g_ineg (X : Stand p l e R s m args below meth c T locs cells slots) (hx : p.tables.exec = Jvm.exec) (pc' : Nat) (hpc : pc + 1 = pc') {x : Int32} (hd : decode c.code pc = .ok (.ineg, 1))  (K : Goes p e below (T.setTop (mkF m pc' Ls (.int (-x) :: st))) P) : Goes p e below (T.setTop (mkF m pc Ls (.int x :: st))) P := by
  subst hpc; exact go (fun _ q => XS.ineg X.here hx rfl hd rfl q) K
theorem g_ladd (X : Stand p l e R s m args below meth c T locs cells slots) (hx : p.tables.exec = Jvm.exec) (pc' : Nat) (hpc : pc + 1 = pc') {x y : Int64} (hd : decode c.code pc = .ok (.ladd, 1))  (K : Goes p e below (T.setTop (mkF m pc' Ls (.long (x + y) :: st))) P) : Goes p e below (T.setTop (mkF m pc Ls (.long y :: .long x :: st))) P := by
  subst hpc; exact go (fun _ q => XT.ladd X.here hx rfl hd rfl q) K
theorem g_lsub (X : Stand p l e R s m args below meth c T locs cells slots) (hx : p.tables.exec = Jvm.exec) (pc' : Nat) (hpc : pc + 1 = pc') {x y : Int64} (hd : decode c.code pc = .ok (.lsub, 1))  (K : Goes p e below (T.setTop (mkF m pc' Ls (.long (x - y) :: st))) P) : Goes p e below (T.setTop (mkF m pc Ls (.long y :: .long x :: st))) P := by
  subst hpc; exact go (fun _ q => XT.lsub X.here hx rfl hd rfl q) K
theorem g_lmul (X : Stand p l e R s m args below meth c T locs cells slots) (hx : p.tables.exec = Jvm.exec) (pc' : Nat) (hpc : pc + 1 = pc') {x y : Int64} (hd : decode c.code pc = .ok (.lmul, 1))  (K : Goes p e below (T.setTop (mkF m pc' Ls (.long (x * y) :: st))) P) : Goes p e below (T.setTop (mkF m pc Ls (.long y :: .long x :: st))) P := by
  subst hpc; exact go (fun _ q => XT.lmul X.here hx rfl hd rfl q) K
theorem g_land (X : Stand p l e R s m args below meth c T locs cells slots) (hx : p.tables.exec = Jvm.exec) (pc' : Nat) (hpc : pc + 1 = pc') {x y : Int64} (hd : decode c.code pc = .ok (.land, 1))  (K : Goes p e below (T.setTop (mkF m pc' Ls (.long (x &&& y) :: st))) P) : Goes p e below (T.setTop (mkF m pc Ls (.long y :: .long x :: st))) P := by
  subst hpc; exact go (fun _ q => XT.land X.here hx rfl hd rfl q) K
theorem g_lor (X : Stand p l e R s m args below meth c T locs cells slots) (hx : p.tables.exec = Jvm.exec) (pc' : Nat) (hpc : pc + 1 = pc') {x y : Int64} (hd : decode c.code pc = .ok (.lor, 1))  (K : Goes p e below (T.setTop (mkF m pc' Ls (.long (x ||| y) :: st))) P) : Goes p e below (T.setTop (mkF m pc Ls (.long y :: .long x :: st))) P := by
  subst hpc; exact go (fun _ q => XT.lor X.here hx rfl hd rfl q) K
theorem g_lxor (X : Stand p l e R s m args below meth c T locs cells slots) (hx : p.tables.exec = Jvm.exec) (pc' : Nat) (hpc : pc + 1 = pc') {x y : Int64} (hd : decode c.code pc = .ok (.lxor, 1))  (K : Goes p e below (T.setTop (mkF m pc' Ls (.long (x ^^^ y) :: st))) P) : Goes p e below (T.setTop (mkF m pc Ls (.long y :: .long x :: st))) P := by
  subst hpc; exact go (fun _ q => XT.lxor X.here hx rfl hd rfl q) K
theorem g_lshl (X : Stand p l e R s m args below meth c T locs cells slots) (hx : p.tables.exec = Jvm.exec) (pc' : Nat) (hpc : pc + 1 = pc') {x : Int64} {y : Int32} (hd : decode c.code pc = .ok (.lshl, 1))  (K : Goes p e below (T.setTop (mkF m pc' Ls (.long (x <<< (y.toInt64 &&& 63)) :: st))) P) : Goes p e below (T.setTop (mkF m pc Ls (.int y :: .long x :: st))) P := by
  subst hpc; exact go (fun _ q => XT.lshl X.here hx rfl hd rfl q) K
theorem g_lshr (X : Stand p l e R s m args below meth c T locs cells slots) (hx : p.tables.exec = Jvm.exec) (pc' : Nat) (hpc : pc + 1 = pc') {x : Int64} {y : Int32} (hd : decode c.code pc = .ok (.lshr, 1))  (K : Goes p e below (T.setTop (mkF m pc' Ls (.long (x >>> (y.toInt64 &&& 63)) :: st))) P) : Goes p e below (T.setTop (mkF m pc Ls (.int y :: .long x :: st))) P := by
  subst hpc; exact go (fun _ q => XT.lshr X.here hx rfl hd rfl q) K
theorem g_lushr (X : Stand p l e R s m args below meth c T locs cells slots) (hx : p.tables.exec = Jvm.exec) (pc' : Nat) (hpc : pc + 1 = pc') {x : Int64} {y : Int32} (hd : decode c.code pc = .ok (.lushr, 1))  (K : Goes p e below (T.setTop (mkF m pc' Ls (.long (XT.ushrL x y) :: st))) P) : Goes p e below (T.setTop (mkF m pc Ls (.int y :: .long x :: st))) P := by
  subst hpc; exact go (fun _ q => XT.lushr X.here hx rfl hd rfl q) K
theorem g_ldiv (X : Stand p l e R s m args below meth c T locs cells slots) (hx : p.tables.exec = Jvm.exec) (pc' : Nat) (hpc : pc + 1 = pc') {x y : Int64} (hd : decode c.code pc = .ok (.ldiv, 1)) (hy : y ≠ 0) (K : Goes p e below (T.setTop (mkF m pc' Ls (.long (x / y) :: st))) P) : Goes p e below (T.setTop (mkF m pc Ls (.long y :: .long x :: st))) P := by
  subst hpc; exact go (fun _ q => XT.ldiv X.here hx rfl hd rfl hy q) K
theorem g_lrem (X : Stand p l e R s m args below meth c T locs cells slots) (hx : p.tables.exec = Jvm.exec) (pc' : Nat) (hpc : pc + 1 = pc') {x y : Int64} (hd : decode c.code pc = .ok (.lrem, 1)) (hy : y ≠ 0) (K : Goes p e below (T.setTop (mkF m pc' Ls (.long (x % y) :: st))) P) : Goes p e below (T.setTop (mkF m pc Ls (.long y :: .long x :: st))) P := by
  subst hpc; exact go (fun _ q => XT.lrem X.here hx rfl hd rfl hy (by rw [lrem_mod]; exact q)) K
theorem g_lneg (X : Stand p l e R s m args below meth c T locs cells slots) (hx : p.tables.exec = Jvm.exec) (pc' : Nat) (hpc : pc + 1 = pc') {x : Int64} (hd : decode c.code pc = .ok (.lneg, 1))  (K : Goes p e below (T.setTop (mkF m pc' Ls (.long (-x) :: st))) P) : Goes p e below (T.setTop (mkF m pc Ls (.long x :: st))) P := by
  subst hpc; exact go (fun _ q => XT.lneg X.here hx rfl hd rfl q) K
theorem g_i2l (X : Stand p l e R s m args below meth c T locs cells slots) (hx : p.tables.exec = Jvm.exec) (pc' : Nat) (hpc : pc + 1 = pc') {x : Int32} (hd : decode c.code pc = .ok (.i2l, 1))  (K : Goes p e below (T.setTop (mkF m pc' Ls (.long x.toInt64 :: st))) P) : Goes p e below (T.setTop (mkF m pc Ls (.int x :: st))) P := by
  subst hpc; exact go (fun _ q => XT.i2l X.here hx rfl hd rfl q) K
theorem g_l2i (X : Stand p l e R s m args below meth c T locs cells slots) (hx : p.tables.exec = Jvm.exec) (pc' : Nat) (hpc : pc + 1 = pc') {x : Int64} (hd : decode c.code pc = .ok (.l2i, 1))  (K : Goes p e below (T.setTop (mkF m pc' Ls (.int x.toInt32 :: st))) P) : Goes p e below (T.setTop (mkF m pc Ls (.long x :: st))) P := by
  subst hpc; exact go (fun _ q => XT.l2i X.here hx rfl hd rfl q) K
theorem g_i2b (X : Stand p l e R s m args below meth c T locs cells slots) (hx : p.tables.exec = Jvm.exec) (pc' : Nat) (hpc : pc + 1 = pc') {x : Int32} (hd : decode c.code pc = .ok (.i2b, 1))  (K : Goes p e below (T.setTop (mkF m pc' Ls (.int x.toInt8.toInt32 :: st))) P) : Goes p e below (T.setTop (mkF m pc Ls (.int x :: st))) P := by
  subst hpc; exact go (fun _ q => XT.i2b X.here hx rfl hd rfl q) K
theorem g_i2c (X : Stand p l e R s m args below meth c T locs cells slots) (hx : p.tables.exec = Jvm.exec) (pc' : Nat) (hpc : pc + 1 = pc') {x : Int32} (hd : decode c.code pc = .ok (.i2c, 1))  (K : Goes p e below (T.setTop (mkF m pc' Ls (.int x.toUInt32.toUInt16.toUInt32.toInt32 :: st))) P) : Goes p e below (T.setTop (mkF m pc Ls (.int x :: st))) P := by
  subst hpc; exact go (fun _ q => XT.i2c X.here hx rfl hd rfl q) K
theorem g_i2s (X : Stand p l e R s m args below meth c T locs cells slots) (hx : p.tables.exec = Jvm.exec) (pc' : Nat) (hpc : pc + 1 = pc') {x : Int32} (hd : decode c.code pc = .ok (.i2s, 1))  (K : Goes p e below (T.setTop (mkF m pc' Ls (.int x.toInt16.toInt32 :: st))) P) : Goes p e below (T.setTop (mkF m pc Ls (.int x :: st))) P := by
  subst hpc; exact go (fun _ q => XT.i2s X.here hx rfl hd rfl q) K
theorem g_lcmp (X : Stand p l e R s m args below meth c T locs cells slots) (hx : p.tables.exec = Jvm.exec) (pc' : Nat) (hpc : pc + 1 = pc') {x y : Int64} (hd : decode c.code pc = .ok (.lcmp, 1))  (K : Goes p e below (T.setTop (mkF m pc' Ls (.int (XT.cmpL x y) :: st))) P) : Goes p e below (T.setTop (mkF m pc Ls (.long y :: .long x :: st))) P := by
  subst hpc; exact go (fun _ q => XT.lcmp X.here hx rfl hd rfl q) K
theorem g_dup (X : Stand p l e R s m args below meth c T locs cells slots) (hx : p.tables.exec = Jvm.exec) (pc' : Nat) (hpc : pc + 1 = pc') {x : Value} (hd : decode c.code pc = .ok (.dup, 1)) (hc : x.category = 1) (K : Goes p e below (T.setTop (mkF m pc' Ls (x :: x :: st))) P) : Goes p e below (T.setTop (mkF m pc Ls (x :: st))) P := by
  subst hpc; exact go (fun _ q => XS.dup X.here hx rfl hd rfl hc q) K
theorem g_pop (X : Stand p l e R s m args below meth c T locs cells slots) (hx : p.tables.exec = Jvm.exec) (pc' : Nat) (hpc : pc + 1 = pc') {x : Value} (hd : decode c.code pc = .ok (.pop, 1)) (hc : x.category = 1) (K : Goes p e below (T.setTop (mkF m pc' Ls (st))) P) : Goes p e below (T.setTop (mkF m pc Ls (x :: st))) P := by
  subst hpc; exact go (fun _ q => XT.pop X.here hx rfl hd rfl hc q) K
theorem g_dup_x1 (X : Stand p l e R s m args below meth c T locs cells slots) (hx : p.tables.exec = Jvm.exec) (pc' : Nat) (hpc : pc + 1 = pc') {x y : Value} (hd : decode c.code pc = .ok (.dup_x1, 1)) (hc : x.category = 1) (hc' : y.category = 1) (K : Goes p e below (T.setTop (mkF m pc' Ls (x :: y :: x :: st))) P) : Goes p e below (T.setTop (mkF m pc Ls (x :: y :: st))) P := by
  subst hpc; exact go (fun _ q => XT.dupX1 X.here hx rfl hd rfl hc hc' q) K
theorem g_dup2 (X : Stand p l e R s m args below meth c T locs cells slots) (hx : p.tables.exec = Jvm.exec) (pc' : Nat) (hpc : pc + 1 = pc') {x y : Value} (hd : decode c.code pc = .ok (.dup2, 1)) (hc : x.category = 1) (hc' : y.category = 1) (K : Goes p e below (T.setTop (mkF m pc' Ls (x :: y :: x :: y :: st))) P) : Goes p e below (T.setTop (mkF m pc Ls (x :: y :: st))) P := by
  subst hpc; exact go (fun _ q => XT.dup2 X.here hx rfl hd rfl hc hc' q) K
theorem g_dup2L (X : Stand p l e R s m args below meth c T locs cells slots) (hx : p.tables.exec = Jvm.exec) (pc' : Nat) (hpc : pc + 1 = pc') {x : Int64} (hd : decode c.code pc = .ok (.dup2, 1))  (K : Goes p e below (T.setTop (mkF m pc' Ls (.long x :: .long x :: st))) P) : Goes p e below (T.setTop (mkF m pc Ls (.long x :: st))) P := by
  subst hpc; exact go (fun _ q => XT.dup2L X.here hx rfl hd rfl q) K
theorem g_iconst (X : Stand p l e R s m args below meth c T locs cells slots) (hx : p.tables.exec = Jvm.exec) (pc' : Nat) (hpc : pc + 1 = pc') {i : Int} (v : Int32) (hv : Int32.ofInt i = v) (hd : decode c.code pc = .ok (.iconst i, 1))  (K : Goes p e below (T.setTop (mkF m pc' Ls (.int v :: st))) P) : Goes p e below (T.setTop (mkF m pc Ls (st))) P := by
  subst hpc; exact go (fun _ q => XS.iconst X.here hx rfl hd (by rw [hv]; exact q)) K
theorem g_bipush (X : Stand p l e R s m args below meth c T locs cells slots) (hx : p.tables.exec = Jvm.exec) (pc' : Nat) (hpc : pc + 2 = pc') {i : Int} (v : Int32) (hv : (Int8.ofInt i).toInt32 = v) (hd : decode c.code pc = .ok (.bipush i, 2))  (K : Goes p e below (T.setTop (mkF m pc' Ls (.int v :: st))) P) : Goes p e below (T.setTop (mkF m pc Ls (st))) P := by
  subst hpc; exact go (fun _ q => XS.bipush X.here hx rfl hd (by rw [hv]; exact q)) K
theorem g_sipush (X : Stand p l e R s m args below meth c T locs cells slots) (hx : p.tables.exec = Jvm.exec) (pc' : Nat) (hpc : pc + 3 = pc') {i : Int} (v : Int32) (hv : (Int16.ofInt i).toInt32 = v) (hd : decode c.code pc = .ok (.sipush i, 3))  (K : Goes p e below (T.setTop (mkF m pc' Ls (.int v :: st))) P) : Goes p e below (T.setTop (mkF m pc Ls (st))) P := by
  subst hpc; exact go (fun _ q => XS.sipush X.here hx rfl hd (by rw [hv]; exact q)) K
theorem g_lconst (X : Stand p l e R s m args below meth c T locs cells slots) (hx : p.tables.exec = Jvm.exec) (pc' : Nat) (hpc : pc + 1 = pc') {k : Fin 2} (v : Int64) (hv : Int64.ofNat k = v) (hd : decode c.code pc = .ok (.lconst k, 1))  (K : Goes p e below (T.setTop (mkF m pc' Ls (.long v :: st))) P) : Goes p e below (T.setTop (mkF m pc Ls (st))) P := by
  subst hpc; exact go (fun _ q => XT.lconst X.here hx rfl hd (by rw [hv]; exact q)) K
theorem g_aconst_null (X : Stand p l e R s m args below meth c T locs cells slots) (hx : p.tables.exec = Jvm.exec) (pc' : Nat) (hpc : pc + 1 = pc')  (hd : decode c.code pc = .ok (.aconst_null, 1))  (K : Goes p e below (T.setTop (mkF m pc' Ls (.null :: st))) P) : Goes p e below (T.setTop (mkF m pc Ls (st))) P := by
  subst hpc; exact go (fun _ q => XS.aconstNull X.here hx rfl hd q) K
theorem g_ldcI (X : Stand p l e R s m args below meth c T locs cells slots) (hx : p.tables.exec = Jvm.exec) (pc' : Nat) (hpc : pc + 2 = pc') {own : String} {index : Nat} {v : Int32} (hown : s.vm.findClass own = some m.cls) (hZ : Z.Warmed39 s.vm) (w : (Jvm.Cond.constant own index v).before a0 Z = true) (hd : decode c.code pc = .ok (.ldc index, 2))  (K : Goes p e below (T.setTop (mkF m pc' Ls (.int v :: st))) P) : Goes p e below (T.setTop (mkF m pc Ls (st))) P := by
  subst hpc; exact go (fun _ q => X.ldcInt hx hown (mvT hZ w) (g := mkF m pc Ls st) rfl hd _ q) K
theorem g_ldcJ (X : Stand p l e R s m args below meth c T locs cells slots) (hx : p.tables.exec = Jvm.exec) (pc' : Nat) (hpc : pc + 3 = pc') {own : String} {index : Nat} {v : Int64} (hown : s.vm.findClass own = some m.cls) (hZ : Z.Warmed39 s.vm) (w : (Jvm.Cond.constantLong own index v).before a0 Z = true) (hd : decode c.code pc = .ok (.ldc2_w index, 3))  (K : Goes p e below (T.setTop (mkF m pc' Ls (.long v :: st))) P) : Goes p e below (T.setTop (mkF m pc Ls (st))) P := by
  subst hpc; exact go (fun _ q => X.ldc2Long hx hown (mvT hZ w) (g := mkF m pc Ls st) rfl hd _ q) K
theorem g_iload_n (X : Stand p l e R s m args below meth c T locs cells slots) (hx : p.tables.exec = Jvm.exec) (pc' : Nat) (hpc : pc + 1 = pc') {k : Fin 4} {v : Int32} (hd : decode c.code pc = .ok (.iload_n k, 1)) (hl : Ls[k.val]? = some (.val (.int v))) (K : Goes p e below (T.setTop (mkF m pc' Ls (.int v :: st))) P) : Goes p e below (T.setTop (mkF m pc Ls (st))) P := by
  subst hpc; exact go (fun _ q => XS.iloadN X.here hx rfl hd hl q) K
theorem g_iload (X : Stand p l e R s m args below meth c T locs cells slots) (hx : p.tables.exec = Jvm.exec) (pc' : Nat) (hpc : pc + 2 = pc') {k : Nat} {v : Int32} (hd : decode c.code pc = .ok (.iload k, 2)) (hl : Ls[k]? = some (.val (.int v))) (K : Goes p e below (T.setTop (mkF m pc' Ls (.int v :: st))) P) : Goes p e below (T.setTop (mkF m pc Ls (st))) P := by
  subst hpc; exact go (fun _ q => XS.iload X.here hx rfl hd hl q) K
theorem g_lload_n (X : Stand p l e R s m args below meth c T locs cells slots) (hx : p.tables.exec = Jvm.exec) (pc' : Nat) (hpc : pc + 1 = pc') {k : Fin 4} {v : Int64} (hd : decode c.code pc = .ok (.lload_n k, 1)) (hl : Ls[k.val]? = some (.val (.long v))) (K : Goes p e below (T.setTop (mkF m pc' Ls (.long v :: st))) P) : Goes p e below (T.setTop (mkF m pc Ls (st))) P := by
  subst hpc; exact go (fun _ q => XT.lloadN X.here hx rfl hd hl q) K
theorem g_lload (X : Stand p l e R s m args below meth c T locs cells slots) (hx : p.tables.exec = Jvm.exec) (pc' : Nat) (hpc : pc + 2 = pc') {k : Nat} {v : Int64} (hd : decode c.code pc = .ok (.lload k, 2)) (hl : Ls[k]? = some (.val (.long v))) (K : Goes p e below (T.setTop (mkF m pc' Ls (.long v :: st))) P) : Goes p e below (T.setTop (mkF m pc Ls (st))) P := by
  subst hpc; exact go (fun _ q => XT.lload X.here hx rfl hd hl q) K
theorem g_aload_n (X : Stand p l e R s m args below meth c T locs cells slots) (hx : p.tables.exec = Jvm.exec) (pc' : Nat) (hpc : pc + 1 = pc') {k : Fin 4} {v : Value} (hd : decode c.code pc = .ok (.aload_n k, 1)) (hl : Ls[k.val]? = some (.val v)) (hv : v.isRef = true) (K : Goes p e below (T.setTop (mkF m pc' Ls (v :: st))) P) : Goes p e below (T.setTop (mkF m pc Ls (st))) P := by
  subst hpc; exact go (fun _ q => XS.aloadN X.here hx rfl hd hl hv q) K
theorem g_aload (X : Stand p l e R s m args below meth c T locs cells slots) (hx : p.tables.exec = Jvm.exec) (pc' : Nat) (hpc : pc + 2 = pc') {k : Nat} {v : Value} (hd : decode c.code pc = .ok (.aload k, 2)) (hl : Ls[k]? = some (.val v)) (hv : v.isRef = true) (K : Goes p e below (T.setTop (mkF m pc' Ls (v :: st))) P) : Goes p e below (T.setTop (mkF m pc Ls (st))) P := by
  subst hpc; exact go (fun _ q => XS.aload X.here hx rfl hd hl hv q) K
theorem g_istore_n (X : Stand p l e R s m args below meth c T locs cells slots) (hx : p.tables.exec = Jvm.exec) (pc' : Nat) (hpc : pc + 1 = pc') {k : Fin 4} {x : Int32} (hd : decode c.code pc = .ok (.istore_n k, 1))  (l' : Array Slot) (hl : storeLocals Ls k.val (.int x) = some l') (K : Goes p e below (T.setTop (mkF m pc' l' st)) P) : Goes p e below (T.setTop (mkF m pc Ls (.int x :: st))) P := by
  subst hpc; exact go (fun _ q => XS.istoreN X.here hx rfl hd rfl hl q) K
theorem g_istore (X : Stand p l e R s m args below meth c T locs cells slots) (hx : p.tables.exec = Jvm.exec) (pc' : Nat) (hpc : pc + 2 = pc') {k : Nat} {x : Int32} (hd : decode c.code pc = .ok (.istore k, 2))  (l' : Array Slot) (hl : storeLocals Ls k (.int x) = some l') (K : Goes p e below (T.setTop (mkF m pc' l' st)) P) : Goes p e below (T.setTop (mkF m pc Ls (.int x :: st))) P := by
  subst hpc; exact go (fun _ q => XS.istore X.here hx rfl hd rfl hl q) K
theorem g_lstore_n (X : Stand p l e R s m args below meth c T locs cells slots) (hx : p.tables.exec = Jvm.exec) (pc' : Nat) (hpc : pc + 1 = pc') {k : Fin 4} {x : Int64} (hd : decode c.code pc = .ok (.lstore_n k, 1))  (l' : Array Slot) (hl : storeLocals Ls k.val (.long x) = some l') (K : Goes p e below (T.setTop (mkF m pc' l' st)) P) : Goes p e below (T.setTop (mkF m pc Ls (.long x :: st))) P := by
  subst hpc; exact go (fun _ q => XT.lstoreN X.here hx rfl hd rfl hl q) K
theorem g_lstore (X : Stand p l e R s m args below meth c T locs cells slots) (hx : p.tables.exec = Jvm.exec) (pc' : Nat) (hpc : pc + 2 = pc') {k : Nat} {x : Int64} (hd : decode c.code pc = .ok (.lstore k, 2))  (l' : Array Slot) (hl : storeLocals Ls k (.long x) = some l') (K : Goes p e below (T.setTop (mkF m pc' l' st)) P) : Goes p e below (T.setTop (mkF m pc Ls (.long x :: st))) P := by
  subst hpc; exact go (fun _ q => XT.lstore X.here hx rfl hd rfl hl q) K
theorem g_astore_n (X : Stand p l e R s m args below meth c T locs cells slots) (hx : p.tables.exec = Jvm.exec) (pc' : Nat) (hpc : pc + 1 = pc') {k : Fin 4} {x : Value} (hd : decode c.code pc = .ok (.astore_n k, 1)) (hv : x.isRef = true) (l' : Array Slot) (hl : storeLocals Ls k.val x = some l') (K : Goes p e below (T.setTop (mkF m pc' l' st)) P) : Goes p e below (T.setTop (mkF m pc Ls (x :: st))) P := by
  subst hpc; exact go (fun _ q => XS.astoreN X.here hx rfl hd rfl hv hl q) K
theorem g_astore (X : Stand p l e R s m args below meth c T locs cells slots) (hx : p.tables.exec = Jvm.exec) (pc' : Nat) (hpc : pc + 2 = pc') {k : Nat} {x : Value} (hd : decode c.code pc = .ok (.astore k, 2)) (hv : x.isRef = true) (l' : Array Slot) (hl : storeLocals Ls k x = some l') (K : Goes p e below (T.setTop (mkF m pc' l' st)) P) : Goes p e below (T.setTop (mkF m pc Ls (x :: st))) P := by
  subst hpc; exact go (fun _ q => XS.astore X.here hx rfl hd rfl hv hl q) K
theorem g_iinc (X : Stand p l e R s m args below meth c T locs cells slots) (hx : p.tables.exec = Jvm.exec) (pc' : Nat) (hpc : pc + 3 = pc') {k : Nat} {cst : Int} {x : Int32} (hd : decode c.code pc = .ok (.iinc k cst, 3)) (v : Int32) (hv : x + Int32.ofInt cst = v) (hl : Ls[k]? = some (.val (.int x))) (l' : Array Slot) (hl' : storeLocals Ls k (.int v) = some l') (K : Goes p e below (T.setTop (mkF m pc' l' st)) P) : Goes p e below (T.setTop (mkF m pc Ls st)) P := by
  subst hpc; subst hv; exact go (fun _ q => XS.iinc X.here hx rfl hd hl hl' q) K
theorem g_goto (X : Stand p l e R s m args below meth c T locs cells slots) (hx : p.tables.exec = Jvm.exec) (pc' : Nat) {o : Int} (hd : decode c.code pc = .ok (.goto o, 3)) (ho : 0 ≤ (pc : Int) + o) (hp : ((pc : Int) + o).toNat = pc') (K : Goes p e below (T.setTop (mkF m pc' Ls st)) P) : Goes p e below (T.setTop (mkF m pc Ls st)) P :=
  go (fun _ q => XS.goto X.here hx rfl rfl hd ho hp q) K
theorem g_ifY (X : Stand p l e R s m args below meth c T locs cells slots) (hx : p.tables.exec = Jvm.exec) (pc' : Nat) {o : Int} {cd : ClassFile.Cond} {x : Int32} (hd : decode c.code pc = .ok (.ifCond cd o, 3)) (hc : ifCond.holds cd x = true) (ho : 0 ≤ (pc : Int) + o) (hp : ((pc : Int) + o).toNat = pc') (K : Goes p e below (T.setTop (mkF m pc' Ls st)) P) : Goes p e below (T.setTop (mkF m pc Ls (.int x :: st))) P :=
  go (fun _ q => XS.ifYes X.here hx rfl rfl hd rfl hc ho hp q) K
theorem g_ifN (X : Stand p l e R s m args below meth c T locs cells slots) (hx : p.tables.exec = Jvm.exec) (pc' : Nat) (hpc : pc + 3 = pc') {o : Int} {cd : ClassFile.Cond} {x : Int32} (hd : decode c.code pc = .ok (.ifCond cd o, 3)) (hc : ifCond.holds cd x = false) (K : Goes p e below (T.setTop (mkF m pc' Ls st)) P) : Goes p e below (T.setTop (mkF m pc Ls (.int x :: st))) P := by
  subst hpc; exact go (fun _ q => XS.ifNo X.here hx rfl hd rfl hc q) K
theorem g_icmpY (X : Stand p l e R s m args below meth c T locs cells slots) (hx : p.tables.exec = Jvm.exec) (pc' : Nat) {o : Int} {cd : ClassFile.Cond} {x y : Int32} (hd : decode c.code pc = .ok (.if_icmp cd o, 3)) (hc : if_icmp.holds cd x y = true) (ho : 0 ≤ (pc : Int) + o) (hp : ((pc : Int) + o).toNat = pc') (K : Goes p e below (T.setTop (mkF m pc' Ls st)) P) : Goes p e below (T.setTop (mkF m pc Ls (.int y :: .int x :: st))) P :=
  go (fun _ q => XS.icmpYes X.here hx rfl rfl hd rfl hc ho hp q) K
theorem g_icmpN (X : Stand p l e R s m args below meth c T locs cells slots) (hx : p.tables.exec = Jvm.exec) (pc' : Nat) (hpc : pc + 3 = pc') {o : Int} {cd : ClassFile.Cond} {x y : Int32} (hd : decode c.code pc = .ok (.if_icmp cd o, 3)) (hc : if_icmp.holds cd x y = false) (K : Goes p e below (T.setTop (mkF m pc' Ls st)) P) : Goes p e below (T.setTop (mkF m pc Ls (.int y :: .int x :: st))) P := by
  subst hpc; exact go (fun _ q => XS.icmpNo X.here hx rfl hd rfl hc q) K
theorem g_acmpY (X : Stand p l e R s m args below meth c T locs cells slots) (hx : p.tables.exec = Jvm.exec) (pc' : Nat) {o : Int} {cd : ClassFile.ACond} {x y : Value} (hd : decode c.code pc = .ok (.if_acmp cd o, 3)) (h1 : x.isRef = true) (h2 : y.isRef = true) (hc : XT.acmp cd x y = true) (ho : 0 ≤ (pc : Int) + o) (hp : ((pc : Int) + o).toNat = pc') (K : Goes p e below (T.setTop (mkF m pc' Ls st)) P) : Goes p e below (T.setTop (mkF m pc Ls (y :: x :: st))) P :=
  go (fun _ q => XT.acmpYes X.here hx rfl rfl hd rfl h1 h2 hc ho hp q) K
theorem g_acmpN (X : Stand p l e R s m args below meth c T locs cells slots) (hx : p.tables.exec = Jvm.exec) (pc' : Nat) (hpc : pc + 3 = pc') {o : Int} {cd : ClassFile.ACond} {x y : Value} (hd : decode c.code pc = .ok (.if_acmp cd o, 3)) (h1 : x.isRef = true) (h2 : y.isRef = true) (hc : XT.acmp cd x y = false) (K : Goes p e below (T.setTop (mkF m pc' Ls st)) P) : Goes p e below (T.setTop (mkF m pc Ls (y :: x :: st))) P := by
  subst hpc; exact go (fun _ q => XT.acmpNo X.here hx rfl hd rfl h1 h2 hc q) K
theorem g_ifnonnullY (X : Stand p l e R s m args below meth c T locs cells slots) (hx : p.tables.exec = Jvm.exec) (pc' : Nat) {o : Int} {b : Addr} (hd : decode c.code pc = .ok (.ifnonnull o, 3)) (ho : 0 ≤ (pc : Int) + o) (hp : ((pc : Int) + o).toNat = pc') (K : Goes p e below (T.setTop (mkF m pc' Ls st)) P) : Goes p e below (T.setTop (mkF m pc Ls (.ref b :: st))) P :=
  go (fun _ q => XT.ifnonnullYes X.here hx rfl rfl hd rfl ho hp q) K
theorem g_ifnonnullN (X : Stand p l e R s m args below meth c T locs cells slots) (hx : p.tables.exec = Jvm.exec) (pc' : Nat) (hpc : pc + 3 = pc') {o : Int} (hd : decode c.code pc = .ok (.ifnonnull o, 3)) (K : Goes p e below (T.setTop (mkF m pc' Ls st)) P) : Goes p e below (T.setTop (mkF m pc Ls (.null :: st))) P := by
  subst hpc; exact go (fun _ q => XT.ifnonnullNo X.here hx rfl hd rfl q) K
def b2i (b : Bool) : Int32 := if b then 1 else 0
theorem b2i_nar (b : Bool) : narrow .boolean (.int (b2i b)) = .int (b2i b) := by cases b <;> rfl
theorem bb_eq_t {b : Bool} (q : ¬ b = true) : ifCond.holds .eq (b2i b) = true := by cases b <;> first | rfl | exact absurd rfl q
theorem bb_eq_f {b : Bool} (q : b = true) : ifCond.holds .eq (b2i b) = false := by subst q; rfl
theorem bb_ne_t {b : Bool} (q : b = true) : ifCond.holds .ne (b2i b) = true := by subst q; rfl
theorem bb_ne_f {b : Bool} (q : ¬ b = true) : ifCond.holds .ne (b2i b) = false := by cases b <;> first | rfl | exact absurd rfl q
theorem b2_eq_t {a b : Bool} (q : a = b) : if_icmp.holds .eq (b2i a) (b2i b) = true := by subst q; cases a <;> rfl
theorem b2_eq_f {a b : Bool} (q : ¬ a = b) : if_icmp.holds .eq (b2i a) (b2i b) = false := by cases a <;> cases b <;> first | rfl | exact absurd rfl q
theorem b2_ne_t {a b : Bool} (q : ¬ a = b) : if_icmp.holds .ne (b2i a) (b2i b) = true := by cases a <;> cases b <;> first | rfl | exact absurd rfl q
theorem b2_ne_f {a b : Bool} (q : a = b) : if_icmp.holds .ne (b2i a) (b2i b) = false := by subst q; cases a <;> rfl
theorem g_getF (X : Stand p l e R s m args below meth c T locs cells slots) (hx : p.tables.exec = Jvm.exec) (hZ : Z.Warmed39 s.vm) (pc' : Nat) (hpc : pc + 3 = pc') {own O n d : String} {index : Nat} (hown : s.vm.findClass own = some m.cls) (w : (Jvm.Cond.fieldLink own index O n d).before a0 Z = true) (eT : T.heap = h) {a : Addr} {v : Value} (F : Fld Z h a O n d v) (hd : decode c.code pc = .ok (.getfield index, 3)) (K : ∀ T', Stand p l e R s m args below meth c T' locs cells slots → T'.heap = h → Goes p e below (T'.setTop (mkF m pc' Ls (v :: st))) P) : Goes p e below (T.setTop (mkF m pc Ls (.ref a :: st))) P := by
  subst hpc
  obtain ⟨T', X', e', st'⟩ := getF X hx hZ hown (host := "") (Or.inl w) Via.refl eT F (g := mkF m pc Ls (.ref a :: st)) rfl rfl hd
  exact go st' (K T' X' e')
theorem g_putF (X : Stand p l e R s m args below meth c T locs cells slots) (hx : p.tables.exec = Jvm.exec) (hZ : Z.Warmed39 s.vm) (pc' : Nat) (hpc : pc + 3 = pc') {own O n d C : String} {index kk : Nat} {ty : FieldType} (hown : s.vm.findClass own = some m.cls) (w : (Jvm.Cond.fieldLink own index O n d).before a0 Z = true) (eT : T.heap = h) {a : Addr} {v old : Value} (F : Fld Z h a O n d old) (E : Exa Z h a C) (L : (Jvm.Cond.lays C O n d).before a0 Z = true ∨ ((Jvm.Cond.laysFinal C O n d).before a0 Z = true ∧ own = O ∧ meth.name = "<init>")) (wi : (Jvm.Cond.instantiable C kk).before a0 Z = true) (hty : parseFieldDescriptor d = some ty) (hn : narrow ty v = v) (hf : fits ty v = true) (hd : decode c.code pc = .ok (.putfield index, 3)) (K : ∀ T' h', Stand p l e R s m args below meth c T' (locs ++ [⟨a, Jvm.RoadKit.slotOf Z O n d⟩]) cells slots → T'.heap = h' → Wr h h' a (Jvm.RoadKit.slotOf Z O n d) v → Goes p e below (T'.setTop (mkF m pc' Ls st)) P) : Goes p e below (T.setTop (mkF m pc Ls (v :: .ref a :: st))) P := by
  subst hpc
  obtain ⟨T', h', X', e', W', st'⟩ := putF X hx hZ hown (host := "") (Or.inl w) Via.refl eT F E L wi hty hn hf (g := mkF m pc Ls (v :: .ref a :: st)) rfl rfl hd
  exact go st' (K T' h' X' e' W')
theorem g_getS (X : Stand p l e R s m args below meth c T locs cells slots) (hx : p.tables.exec = Jvm.exec) (hZ : Z.Warmed39 s.vm) (pc' : Nat) (hpc : pc + 3 = pc') {own O n d : String} {index : Nat} (hown : s.vm.findClass own = some m.cls) (w : (Jvm.Cond.fieldLink own index O n d).before a0 Z = true) (eT : T.heap = h) {v : Value} (F : Sta Z h O n d v) (hd : decode c.code pc = .ok (.getstatic index, 3)) (K : ∀ T', Stand p l e R s m args below meth c T' locs cells slots → T'.heap = h → Goes p e below (T'.setTop (mkF m pc' Ls (v :: st))) P) : Goes p e below (T.setTop (mkF m pc Ls st)) P := by
  subst hpc
  obtain ⟨T', X', e', st'⟩ := getS (host := "") X hx hZ hown w Via.refl eT F (g := mkF m pc Ls st) rfl hd
  exact go st' (K T' X' e')
theorem g_new (X : Stand p l e R s m args below meth c T locs cells slots) (hx : p.tables.exec = Jvm.exec) (hZ : Z.Warmed39 s.vm) (pc' : Nat) (hpc : pc + 3 = pc') {own C : String} {index n : Nat} (hown : s.vm.findClass own = some m.cls) (w : (Jvm.Cond.classLink own index C).before a0 Z = true) (wi : (Jvm.Cond.instantiable C n).before a0 Z = true) (wz : (Jvm.Cond.initialized C).before a0 Z = true) (eT : T.heap = h) (hd : decode c.code pc = .ok (.new index, 3)) (hc : cells + 1 ≤ R.cells) (hl : slots + n ≤ R.slots) (K : ∀ T' h' a, a = h.size → Stand p l e R s m args below meth c T' locs (cells + 1) (slots + n) → T'.heap = h' → Ext h h' → Exa Z h' a C → (∀ {O nm d : String} {ty : FieldType}, Laid Z a0 C O nm d → parseFieldDescriptor d = some ty → Fld Z h' a O nm d (defaultValue ty)) → Goes p e below (T'.setTop (mkF m pc' Ls (.ref a :: st))) P) : Goes p e below (T.setTop (mkF m pc Ls st)) P := by
  subst hpc
  obtain ⟨T', h', X', e', E', A', D', -, st'⟩ := newO X hx hZ hown w wi wz eT (g := mkF m pc Ls st) rfl hd hc hl
  exact go st' (K T' h' _ rfl X' e' E' A' D')
theorem g_initO (X : Stand p l e R s m args below meth c T locs cells slots) (hx : p.tables.exec = Jvm.exec) (hZ : Z.Warmed39 s.vm) (pc' : Nat) (hpc : pc + 3 = pc') {own : String} {idx : Nat} (hown : s.vm.findClass own = some m.cls) (w1 : (Jvm.Cond.methodLink own idx Lib.objectInit).before a0 Z = true) (w2 : (Jvm.Cond.instanceMethod Lib.objectInit).before a0 Z = true) (w3 : (Jvm.Cond.code Lib.objectInit ⟨#[0xb1]⟩ 1 none).before a0 Z = true) (eT : T.heap = h) (hsize : Ls.size = c.maxLocals) {a : Addr} (hd : decode c.code pc = .ok (.invokespecial idx, 3)) (hf : 1 ≤ R.frames) (W : Nat) (hW : 2 * 0 + (st.map fun v => v.category).sum ≤ W) (hl : W + 12 ≤ R.locals) (K : ∀ T', Stand p l e R s m args below meth c T' locs cells slots → T'.heap = h → Goes p e below (T'.setTop (mkF m pc' Ls st)) P) : Goes p e below (T.setTop (mkF m pc Ls (.ref a :: st))) P := by
  subst hpc
  obtain ⟨T', X', e', st'⟩ := initO X hx hZ hown w1 w2 w3 eT (g := mkF m pc Ls (.ref a :: st)) rfl hsize rfl hd hf hW hl
  exact go st' (K T' X' e')
theorem g_callS (X : Stand p l e R s m args below meth c T locs cells slots) (hx : p.tables.exec = Jvm.exec) (hZ : Z.Warmed39 s.vm) (pc' : Nat) (hpc : pc + 3 = pc') {own : String} {index : Nat} {y : MethodName} {bytes : ByteArray} {maxL : Nat} {ret : Option FieldType} {rm : Room} {Q : Option Value → Heap → List Loc → Prop} (hown : s.vm.findClass own = some m.cls) (w1 : (Jvm.Cond.methodLink own index y).before a0 Z = true) (w2 : (Jvm.Cond.static y).before a0 Z = true) (w3 : (Jvm.Cond.initialized y.cls).before a0 Z = true) (w4 : (Jvm.Cond.code y bytes maxL ret).before a0 Z = true) (hy : y.cls ≠ "java/lang/invoke/MethodHandle" ∧ y.cls ≠ "java/lang/invoke/VarHandle") (argsL rest : List Value) (hM : OwnMet l Z y bytes maxL ret [] rm argsL.toArray h Q) (eT : T.heap = h) (hlen : ∀ sig, parseMethodDescriptor y.desc = some sig → argsL.length = sig.parameters.length) (hst : st = argsL.reverse ++ rest) (hsize : Ls.size = c.maxLocals) (hd : decode c.code pc = .ok (.invokestatic index, 3)) (hf : rm.frames + 1 ≤ R.frames) (W : Nat) (hW : 2 * 0 + (rest.map fun v => v.category).sum ≤ W) (hl : W + (maxL + 11) + rm.locals ≤ R.locals) (hc : cells + rm.cells ≤ R.cells) (hs : slots + rm.slots ≤ R.slots) (K : ∀ v T' L', Stand p l e R s m args below meth c T' (locs ++ L') (cells + rm.cells) (slots + rm.slots) → Q v T'.heap L' → Goes p e below (T'.setTop (mkF m pc' Ls (v.toList ++ rest))) P) : Goes p e below (T.setTop (mkF m pc Ls st)) P := by
  subst hpc; subst hst
  obtain ⟨v, _, ⟨T', L', k', n'⟩, -, X', ⟨Lc, hQ, e1, e2, e3⟩, st'⟩ := Jvm.LawKit.callS X hx (y := y) hown (mvT hZ w1) (mvT hZ w2) (mvT hZ w3) (mvT hZ w4) hy (backOf (W := W) hM hZ w4 w3 hf hl) (g := mkF m pc Ls (argsL.reverse ++ rest)) rfl hsize (argsL := argsL) (rest := rest) hlen rfl hW hd (fun _ _ => ⟨rfl, eT, hc, hs⟩)
  dsimp only [Pt.U, Pt.locs, Pt.cells, Pt.slots] at X' e1 e2 e3 st' hQ
  subst e1 e2 e3
  exact go st' (K v T' Lc X' hQ)
theorem g_callI (X : Stand p l e R s m args below meth c T locs cells slots) (hx : p.tables.exec = Jvm.exec) (hZ : Z.Warmed39 s.vm) (pc' : Nat) (hpc : pc + 3 = pc') {own : String} {index : Nat} {y : MethodName} {bytes : ByteArray} {maxL : Nat} {rm : Room} {Q : Option Value → Heap → List Loc → Prop} (hy1 : y.name = "<init>") (hown : s.vm.findClass own = some m.cls) (w1 : (Jvm.Cond.methodLink own index y).before a0 Z = true) (w2 : (Jvm.Cond.instanceMethod y).before a0 Z = true) (w3 : (Jvm.Cond.initialized y.cls).before a0 Z = true) (w4 : (Jvm.Cond.code y bytes maxL none).before a0 Z = true) (hy : y.cls ≠ "java/lang/invoke/MethodHandle" ∧ y.cls ≠ "java/lang/invoke/VarHandle") (a : Addr) (argsL rest : List Value) (hM : OwnMet l Z y bytes maxL none [] rm (.ref a :: argsL).toArray h Q) (eT : T.heap = h) (hlen : ∀ sig, parseMethodDescriptor y.desc = some sig → argsL.length = sig.parameters.length) (hst : st = argsL.reverse ++ .ref a :: rest) (hsize : Ls.size = c.maxLocals) (hd : decode c.code pc = .ok (.invokespecial index, 3)) (hf : rm.frames + 1 ≤ R.frames) (W : Nat) (hW : 2 * 0 + (rest.map fun v => v.category).sum ≤ W) (hl : W + (maxL + 11) + rm.locals ≤ R.locals) (hc : cells + rm.cells ≤ R.cells) (hs : slots + rm.slots ≤ R.slots) (K : ∀ v T' L', Stand p l e R s m args below meth c T' (locs ++ L') (cells + rm.cells) (slots + rm.slots) → Q v T'.heap L' → Goes p e below (T'.setTop (mkF m pc' Ls (v.toList ++ rest))) P) : Goes p e below (T.setTop (mkF m pc Ls st)) P := by
  subst hpc; subst hst
  obtain ⟨v, _, ⟨T', L', k', n'⟩, -, X', ⟨Lc, hQ, e1, e2, e3⟩, st'⟩ := X.specialBack hx (y := y) hy1 hown (mvT hZ w1) (mvT hZ w2) (mvT hZ w4) hy (backOf (W := W) hM hZ w4 w3 hf hl) (g := mkF m pc Ls (argsL.reverse ++ .ref a :: rest)) rfl hsize (Steps.refl _) (a := a) (argsL := argsL) (rest := rest) hlen rfl hW hd (fun _ _ => ⟨rfl, eT, hc, hs⟩)
  dsimp only [Pt.U, Pt.locs, Pt.cells, Pt.slots] at X' e1 e2 e3 st' hQ
  subst e1 e2 e3
  exact goT st' (K v T' Lc X' hQ)
theorem g_callV (X : Stand p l e R s m args below meth c T locs cells slots) (hx : p.tables.exec = Jvm.exec) (hZ : Z.Warmed39 s.vm) (pc' : Nat) (hpc : pc + 3 = pc') {own C : String} {index : Nat} {y : MethodName} {bytes : ByteArray} {maxL : Nat} {ret : Option FieldType} {rm : Room} {Q : Option Value → Heap → List Loc → Prop} (hown : s.vm.findClass own = some m.cls) (w1 : (Jvm.Cond.methodLink own index y).before a0 Z = true) (w2 : (Jvm.Cond.declares y).before a0 Z = true) (w5 : (Jvm.Cond.selects C y y).before a0 Z = true) (w6 : (Jvm.Cond.instanceMethod y).before a0 Z = true) (w3 : (Jvm.Cond.initialized y.cls).before a0 Z = true) (w4 : (Jvm.Cond.code y bytes maxL ret).before a0 Z = true) (hy : y.cls ≠ "java/lang/invoke/MethodHandle" ∧ y.cls ≠ "java/lang/invoke/VarHandle") (a : Addr) (argsL rest : List Value) (hM : OwnMet l Z y bytes maxL ret [] rm (.ref a :: argsL).toArray h Q) (eT : T.heap = h) (Ex : Exa Z h a C) (hlen : ∀ sig, parseMethodDescriptor y.desc = some sig → argsL.length = sig.parameters.length) (hst : st = argsL.reverse ++ .ref a :: rest) (hsize : Ls.size = c.maxLocals) (hd : decode c.code pc = .ok (.invokevirtual index, 3)) (hf : rm.frames + 1 ≤ R.frames) (W : Nat) (hW : 2 * 0 + (rest.map fun v => v.category).sum ≤ W) (hl : W + (maxL + 11) + rm.locals ≤ R.locals) (hc : cells + rm.cells ≤ R.cells) (hs : slots + rm.slots ≤ R.slots) (K : ∀ v T' L', Stand p l e R s m args below meth c T' (locs ++ L') (cells + rm.cells) (slots + rm.slots) → Q v T'.heap L' → Goes p e below (T'.setTop (mkF m pc' Ls (v.toList ++ rest))) P) : Goes p e below (T.setTop (mkF m pc Ls st)) P := by
  subst hpc; subst hst
  obtain ⟨cq, kq, qa, qb, qc⟩ := isOf hZ eT Ex
  obtain ⟨v, _, ⟨T', L', k', n'⟩, -, X', ⟨Lc, hQ, e1, e2, e3⟩, st'⟩ := X.virtualBack hx (y := y) (z := y) hown (mvT hZ w1) (mvT hZ w2) (notFace_of_selects (args := #[]) (mvT hZ w5)) (mvT hZ w5) (mvT hZ w6) hy (backOf (W := W) hM hZ w4 w3 hf hl) qa qc (g := mkF m pc Ls (argsL.reverse ++ .ref a :: rest)) rfl hsize (Steps.refl _) (argsL := argsL) (rest := rest) hlen rfl hW hd (fun _ _ => ⟨rfl, eT, hc, hs⟩)
  dsimp only [Pt.U, Pt.locs, Pt.cells, Pt.slots] at X' e1 e2 e3 st' hQ
  subst e1 e2 e3
  exact goT st' (K v T' Lc X' hQ)
theorem g_callP (X : Stand p l e R s m args below meth c T locs cells slots) (hx : p.tables.exec = Jvm.exec) (hZ : Z.Warmed39 s.vm) (pc' : Nat) (hpc : pc + 3 = pc') {own : String} {index : Nat} {y : MethodName} {bytes : ByteArray} {maxL : Nat} {ret : Option FieldType} {rm : Room} {Q : Option Value → Heap → List Loc → Prop} {kk : Nat} {C : String} (hown : s.vm.findClass own = some m.cls) (w1 : (Jvm.Cond.methodLink own index y).before a0 Z = true) (w2 : (Jvm.Cond.instanceMethod y).before a0 Z = true) (w5 : (Jvm.Cond.privateMethod y).before a0 Z = true) (wi : (Jvm.Cond.instantiable y.cls kk).before a0 Z = true) (w3 : (Jvm.Cond.initialized y.cls).before a0 Z = true) (w4 : (Jvm.Cond.code y bytes maxL ret).before a0 Z = true) (hy : y.cls ≠ "java/lang/invoke/MethodHandle" ∧ y.cls ≠ "java/lang/invoke/VarHandle") (a : Addr) (argsL rest : List Value) (hM : OwnMet l Z y bytes maxL ret [] rm (.ref a :: argsL).toArray h Q) (eT : T.heap = h) (Ex : Exa Z h a C) (hlen : ∀ sig, parseMethodDescriptor y.desc = some sig → argsL.length = sig.parameters.length) (hst : st = argsL.reverse ++ .ref a :: rest) (hsize : Ls.size = c.maxLocals) (hd : decode c.code pc = .ok (.invokevirtual index, 3)) (hf : rm.frames + 1 ≤ R.frames) (W : Nat) (hW : 2 * 0 + (rest.map fun v => v.category).sum ≤ W) (hl : W + (maxL + 11) + rm.locals ≤ R.locals) (hc : cells + rm.cells ≤ R.cells) (hs : slots + rm.slots ≤ R.slots) (K : ∀ v T' L', Stand p l e R s m args below meth c T' (locs ++ L') (cells + rm.cells) (slots + rm.slots) → Q v T'.heap L' → Goes p e below (T'.setTop (mkF m pc' Ls (v.toList ++ rest))) P) : Goes p e below (T.setTop (mkF m pc Ls st)) P := by
  subst hpc; subst hst
  obtain ⟨cl, hcl, hob⟩ := Ex.cell
  have hpriv : s.PrivateAt y := Cond.privateMethod_at (mvP hZ w5 (args := #[]))
  have hin : (Jvm.Cond.instanceMethod y).before args s = true := mvT hZ w2
  obtain ⟨c1, k1, i1, i2, -, i4, -⟩ := Cond.instantiable_spec (mvT hZ wi (args := args) : (Jvm.Cond.instantiable y.cls kk).before args s = true)
  have hsel : (Jvm.Cond.selects y.cls y y).before args s = true := selects_self_of_private i1 i2 (by cases q : k1.isInterface <;> simp [q] at i4 ⊢) hpriv hin hy
  obtain ⟨v, _, ⟨T', L', k', n'⟩, -, X', ⟨Lc, hQ, e1, e2, e3⟩, st'⟩ := X.privateBack hx (y := y) hown (mvT hZ w1) hin hsel hpriv (mvT hZ w4) hy (backOf (W := W) hM hZ w4 w3 hf hl) (g := mkF m pc Ls (argsL.reverse ++ .ref a :: rest)) rfl hsize (Steps.refl _) (a := a) (cell := cl) (by rw [eT]; exact hcl) hob (argsL := argsL) (rest := rest) hlen rfl hW hd (fun _ _ => ⟨rfl, eT, hc, hs⟩)
  dsimp only [Pt.U, Pt.locs, Pt.cells, Pt.slots] at X' e1 e2 e3 st' hQ
  subst e1 e2 e3
  exact goT st' (K v T' Lc X' hQ)
def Al (Z : State) (h : Heap) (a : Addr) (ty : FieldType) (vs : List Value) : Prop := ∃ c : Cell, Arr Z h a c ty ∧ c.slots.toList = vs ∧ vs.length < 2147483648
theorem Al.lt {a : Addr} {ty : FieldType} {vs : List Value} (F : Al Z h a ty vs) : a < h.size := by obtain ⟨c, A, -⟩ := F; exact A.lt
theorem Al.ext {h' : Heap} {a : Addr} {ty : FieldType} {vs : List Value} (F : Al Z h a ty vs) (E : Ext h h') : Al Z h' a ty vs := by obtain ⟨c, A, r⟩ := F; exact ⟨c, A.ext E, r⟩
theorem Al.other {h' : Heap} {a b : Addr} {sl : Nat} {v : Value} {ty : FieldType} {vs : List Value} (F : Al Z h b ty vs) (W : Wr h h' a sl v) (q : b ≠ a) : Al Z h' b ty vs := by obtain ⟨c, A, r⟩ := F; exact ⟨c, A.other W q, r⟩
theorem Al.keep {h' : Heap} {a : Addr} {ws : List Addr} {ty : FieldType} {vs : List Value} (F : Al Z h a ty vs) (K : Keep h h' ws) (q : a ∉ ws) : Al Z h' a ty vs := by obtain ⟨c, A, r⟩ := F; exact ⟨c, ⟨K.2.1 a c A.1 q, A.2⟩, r⟩
theorem Al.same {h' : Heap} {a : Addr} {i : Nat} {v : Value} {ty : FieldType} {vs : List Value} (F : Al Z h a ty vs) (W : Wr h h' a i v) : Al Z h' a ty (vs.set i v) := by
  obtain ⟨c, A, r1, r2⟩ := F
  exact ⟨_, A.same W, by rw [← r1]; simp [Cell.setSlot], by rw [List.length_set]; exact r2⟩
theorem own_ix {j : Int32} {i : Nat} (hj : j.toInt = (i : Int)) : j.toNatClampNeg = i ∧ ¬ j < 0 := by
  refine ⟨by simp only [Int32.toNatClampNeg]; omega, fun q => ?_⟩
  rw [Int32.lt_iff_toInt_lt] at q; simp only [Int32.reduceToInt] at q; omega
theorem Al.cell {a : Addr} {ty : FieldType} {vs : List Value} (F : Al Z h a ty vs) {j : Int32} {i : Nat} (hj : j.toInt = (i : Int)) (hi : i < vs.length) : ∃ c : Cell, Arr Z h a c ty ∧ c.slots.toList = vs ∧ ¬ (j < 0 ∨ c.slots.size ≤ j.toNatClampNeg) ∧ c.slots[j.toNatClampNeg]? = vs[i]? := by
  obtain ⟨c, A, r1, r2⟩ := F
  obtain ⟨q1, q2⟩ := own_ix hj
  have hs : c.slots.size = vs.length := by rw [← r1]; simp
  exact ⟨c, A, r1, fun q => q.elim q2 (by rw [q1, hs]; omega), by rw [q1, ← r1, Array.getElem?_toList]⟩
theorem g_alen (X : Stand p l e R s m args below meth c T locs cells slots) (hx : p.tables.exec = Jvm.exec) (hZ : Z.Warmed39 s.vm) (pc' : Nat) (hpc : pc + 1 = pc') (hd : decode c.code pc = .ok (.arraylength, 1)) (eT : T.heap = h) {a : Addr} {ty : FieldType} {vs : List Value} (A : Al Z h a ty vs) (n : Int32) (hn : Int32.ofNat vs.length = n) (K : Goes p e below (T.setTop (mkF m pc' Ls (.int n :: st))) P) : Goes p e below (T.setTop (mkF m pc Ls (.ref a :: st))) P := by
  subst hpc
  obtain ⟨c, A, r1, r2⟩ := A
  have hs : c.slots.size.toInt32 = n := by rw [← hn, ← r1]; simp
  exact go (fun _ q => X.arraylength hx (by rw [eT]; exact A.1) (State.isArrayOf_alike hZ.alike A.2.1) (g := mkF m pc Ls (.ref a :: st)) rfl rfl hd _ (by rw [hs]; exact q)) K
theorem g_iaload (X : Stand p l e R s m args below meth c T locs cells slots) (hx : p.tables.exec = Jvm.exec) (hZ : Z.Warmed39 s.vm) (pc' : Nat) (hpc : pc + 1 = pc') (hd : decode c.code pc = .ok (.iaload, 1)) (eT : T.heap = h) {a : Addr} {vs : List Value} (A : Al Z h a .int vs) {j : Int32} (i : Nat) (hj : j.toInt = (i : Int)) (v : Value) (hv : vs[i]? = some v) (K : Goes p e below (T.setTop (mkF m pc' Ls (v :: st))) P) : Goes p e below (T.setTop (mkF m pc Ls (.int j :: .ref a :: st))) P := by
  subst hpc
  obtain ⟨c, A, r1, r2, r3⟩ := A.cell hj (List.getElem?_eq_some_iff.mp hv).1
  exact go (fun _ q => X.iaload hx (by rw [eT]; exact A.1) (State.isArrayOf_alike hZ.alike A.2.1) A.2.2 r2 (r3.trans hv) (g := mkF m pc Ls (.int j :: .ref a :: st)) rfl rfl hd _ q) K
theorem g_laload (X : Stand p l e R s m args below meth c T locs cells slots) (hx : p.tables.exec = Jvm.exec) (hZ : Z.Warmed39 s.vm) (pc' : Nat) (hpc : pc + 1 = pc') (hd : decode c.code pc = .ok (.laload, 1)) (eT : T.heap = h) {a : Addr} {vs : List Value} (A : Al Z h a .long vs) {j : Int32} (i : Nat) (hj : j.toInt = (i : Int)) (v : Value) (hv : vs[i]? = some v) (K : Goes p e below (T.setTop (mkF m pc' Ls (v :: st))) P) : Goes p e below (T.setTop (mkF m pc Ls (.int j :: .ref a :: st))) P := by
  subst hpc
  obtain ⟨c, A, r1, r2, r3⟩ := A.cell hj (List.getElem?_eq_some_iff.mp hv).1
  exact go (fun _ q => X.laload hx (by rw [eT]; exact A.1) (State.isArrayOf_alike hZ.alike A.2.1) A.2.2 r2 (r3.trans hv) (g := mkF m pc Ls (.int j :: .ref a :: st)) rfl rfl hd _ q) K
theorem g_baload (X : Stand p l e R s m args below meth c T locs cells slots) (hx : p.tables.exec = Jvm.exec) (hZ : Z.Warmed39 s.vm) (pc' : Nat) (hpc : pc + 1 = pc') (hd : decode c.code pc = .ok (.baload, 1)) (eT : T.heap = h) {a : Addr} {vs : List Value} (A : Al Z h a .byte vs) {j : Int32} (i : Nat) (hj : j.toInt = (i : Int)) (v : Value) (hv : vs[i]? = some v) (K : Goes p e below (T.setTop (mkF m pc' Ls (v :: st))) P) : Goes p e below (T.setTop (mkF m pc Ls (.int j :: .ref a :: st))) P := by
  subst hpc
  obtain ⟨c, A, r1, r2, r3⟩ := A.cell hj (List.getElem?_eq_some_iff.mp hv).1
  exact go (fun _ q => X.baloadBytes hx (by rw [eT]; exact A.1) (State.isArrayOf_alike hZ.alike A.2.1) A.2.2 r2 (r3.trans hv) (g := mkF m pc Ls (.int j :: .ref a :: st)) rfl rfl hd _ q) K
theorem g_caload (X : Stand p l e R s m args below meth c T locs cells slots) (hx : p.tables.exec = Jvm.exec) (hZ : Z.Warmed39 s.vm) (pc' : Nat) (hpc : pc + 1 = pc') (hd : decode c.code pc = .ok (.caload, 1)) (eT : T.heap = h) {a : Addr} {vs : List Value} (A : Al Z h a .char vs) {j : Int32} (i : Nat) (hj : j.toInt = (i : Int)) (v : Value) (hv : vs[i]? = some v) (K : Goes p e below (T.setTop (mkF m pc' Ls (v :: st))) P) : Goes p e below (T.setTop (mkF m pc Ls (.int j :: .ref a :: st))) P := by
  subst hpc
  obtain ⟨c, A, r1, r2, r3⟩ := A.cell hj (List.getElem?_eq_some_iff.mp hv).1
  exact go (fun _ q => X.caload hx (by rw [eT]; exact A.1) (State.isArrayOf_alike hZ.alike A.2.1) A.2.2 r2 (r3.trans hv) (g := mkF m pc Ls (.int j :: .ref a :: st)) rfl rfl hd _ q) K
theorem g_iastore (X : Stand p l e R s m args below meth c T locs cells slots) (hx : p.tables.exec = Jvm.exec) (hZ : Z.Warmed39 s.vm) (pc' : Nat) (hpc : pc + 1 = pc') (hd : decode c.code pc = .ok (.iastore, 1)) (eT : T.heap = h) {a : Addr} {vs : List Value} (A : Al Z h a .int vs) {j : Int32} {x : Int32} (i : Nat) (hj : j.toInt = (i : Int)) (hi : i < vs.length) (K : ∀ T' h', Stand p l e R s m args below meth c T' (locs ++ [⟨a, i⟩]) cells slots → T'.heap = h' → Wr h h' a i (.int x) → Al Z h' a .int (vs.set i (.int x)) → Goes p e below (T'.setTop (mkF m pc' Ls st)) P) : Goes p e below (T.setTop (mkF m pc Ls (.int x :: .int j :: .ref a :: st))) P := by
  subst hpc
  obtain ⟨c, Ar, r1, r2, r3⟩ := A.cell hj hi
  obtain ⟨T', h', X', e', W', st'⟩ := stI X hx hZ eT Ar r2 (g := mkF m pc Ls (.int x :: .int j :: .ref a :: st)) rfl rfl hd
  rw [(own_ix hj).1] at X' W'
  exact go st' (K T' h' X' e' W' (A.same W'))
theorem g_lastore (X : Stand p l e R s m args below meth c T locs cells slots) (hx : p.tables.exec = Jvm.exec) (hZ : Z.Warmed39 s.vm) (pc' : Nat) (hpc : pc + 1 = pc') (hd : decode c.code pc = .ok (.lastore, 1)) (eT : T.heap = h) {a : Addr} {vs : List Value} (A : Al Z h a .long vs) {j : Int32} {x : Int64} (i : Nat) (hj : j.toInt = (i : Int)) (hi : i < vs.length) (K : ∀ T' h', Stand p l e R s m args below meth c T' (locs ++ [⟨a, i⟩]) cells slots → T'.heap = h' → Wr h h' a i (.long x) → Al Z h' a .long (vs.set i (.long x)) → Goes p e below (T'.setTop (mkF m pc' Ls st)) P) : Goes p e below (T.setTop (mkF m pc Ls (.long x :: .int j :: .ref a :: st))) P := by
  subst hpc
  obtain ⟨c, Ar, r1, r2, r3⟩ := A.cell hj hi
  obtain ⟨T', h', X', e', W', st'⟩ := stJ X hx hZ eT Ar r2 (g := mkF m pc Ls (.long x :: .int j :: .ref a :: st)) rfl rfl hd
  rw [(own_ix hj).1] at X' W'
  exact go st' (K T' h' X' e' W' (A.same W'))
theorem g_bastore (X : Stand p l e R s m args below meth c T locs cells slots) (hx : p.tables.exec = Jvm.exec) (hZ : Z.Warmed39 s.vm) (pc' : Nat) (hpc : pc + 1 = pc') (hd : decode c.code pc = .ok (.bastore, 1)) (eT : T.heap = h) {a : Addr} {vs : List Value} (A : Al Z h a .byte vs) {j : Int32} {x : Int32} (i : Nat) (hj : j.toInt = (i : Int)) (hi : i < vs.length) (K : ∀ T' h', Stand p l e R s m args below meth c T' (locs ++ [⟨a, i⟩]) cells slots → T'.heap = h' → Wr h h' a i (.int (nar .byte x)) → Al Z h' a .byte (vs.set i (.int (nar .byte x))) → Goes p e below (T'.setTop (mkF m pc' Ls st)) P) : Goes p e below (T.setTop (mkF m pc Ls (.int x :: .int j :: .ref a :: st))) P := by
  subst hpc
  obtain ⟨c, Ar, r1, r2, r3⟩ := A.cell hj hi
  obtain ⟨T', h', X', e', W', st'⟩ := stB X hx hZ eT Ar r2 (g := mkF m pc Ls (.int x :: .int j :: .ref a :: st)) rfl rfl hd
  rw [(own_ix hj).1] at X' W'
  exact go st' (K T' h' X' e' W' (A.same W'))
theorem g_castore (X : Stand p l e R s m args below meth c T locs cells slots) (hx : p.tables.exec = Jvm.exec) (hZ : Z.Warmed39 s.vm) (pc' : Nat) (hpc : pc + 1 = pc') (hd : decode c.code pc = .ok (.castore, 1)) (eT : T.heap = h) {a : Addr} {vs : List Value} (A : Al Z h a .char vs) {j : Int32} {x : Int32} (i : Nat) (hj : j.toInt = (i : Int)) (hi : i < vs.length) (K : ∀ T' h', Stand p l e R s m args below meth c T' (locs ++ [⟨a, i⟩]) cells slots → T'.heap = h' → Wr h h' a i (.int (nar .char x)) → Al Z h' a .char (vs.set i (.int (nar .char x))) → Goes p e below (T'.setTop (mkF m pc' Ls st)) P) : Goes p e below (T.setTop (mkF m pc Ls (.int x :: .int j :: .ref a :: st))) P := by
  subst hpc
  obtain ⟨c, Ar, r1, r2, r3⟩ := A.cell hj hi
  obtain ⟨T', h', X', e', W', st'⟩ := stC X hx hZ eT Ar r2 (g := mkF m pc Ls (.int x :: .int j :: .ref a :: st)) rfl rfl hd
  rw [(own_ix hj).1] at X' W'
  exact go st' (K T' h' X' e' W' (A.same W'))
theorem g_newarr (X : Stand p l e R s m args below meth c T locs cells slots) (hx : p.tables.exec = Jvm.exec) (hZ : Z.Warmed39 s.vm) (pc' : Nat) (hpc : pc + 2 = pc') {aty : ArrayType} (w : (Jvm.Cond.arrayClass (newarray.typeOf aty)).before a0 Z = true) (eT : T.heap = h) (hd : decode c.code pc = .ok (.newarray aty, 2)) {n : Int32} (k : Nat) (hn : n.toInt = (k : Int)) (cap : Nat) (hcap : k ≤ cap) (hb : cap * 8 ≤ 536870912) (hc : cells + 1 ≤ R.cells) (hl : slots + cap ≤ R.slots) (ad : String) (had : "[" ++ (newarray.typeOf aty).toString = ad) (K : ∀ T' h' a, a = h.size → Stand p l e R s m args below meth c T' locs (cells + 1) (slots + cap) → T'.heap = h' → Ext h h' → Al Z h' a (newarray.typeOf aty) (List.replicate k (defaultValue (newarray.typeOf aty))) → Exa Z h' a ad → Goes p e below (T'.setTop (mkF m pc' Ls (.ref a :: st))) P) : Goes p e below (T.setTop (mkF m pc Ls (.int n :: st))) P := by
  subst hpc
  obtain ⟨q1, q2⟩ := own_ix hn
  obtain ⟨T', h', cA, X', e', E', A', Ex', st'⟩ := newPE X hx hZ w eT (g := mkF m pc Ls (.int n :: st)) rfl hd rfl q2 (cap := cap) (by rw [q1]; exact hcap) hb hc hl had
  refine go st' (K T' h' _ rfl X' e' E' ⟨_, A', by simp [newA, q1], ?_⟩ Ex')
  rw [List.length_replicate]
  have := Int32.toInt_lt n
  omega
theorem own_narb (x : Int32) : nar .byte x.toInt8.toInt32 = x.toInt8.toInt32 := by show x.toInt8.toInt32.toInt8.toInt32 = _; simp
theorem g_cast (X : Stand p l e R s m args below meth c T locs cells slots) (hx : p.tables.exec = Jvm.exec) (hZ : Z.Warmed39 s.vm) (pc' : Nat) (hpc : pc + 3 = pc') {own K : String} {index : Nat} (hown : s.vm.findClass own = some m.cls) (w : (Jvm.Cond.classLink own index K).before a0 Z = true) (eT : T.heap = h) {a : Addr} (F : Ins Z h a K true) (hd : decode c.code pc = .ok (.checkcast index, 3)) (K2 : ∀ T', Stand p l e R s m args below meth c T' locs cells slots → T'.heap = h → Goes p e below (T'.setTop (mkF m pc' Ls (.ref a :: st))) P) : Goes p e below (T.setTop (mkF m pc Ls (.ref a :: st))) P := by
  subst hpc
  obtain ⟨T', X', e', st'⟩ := castY X hx hZ hown w eT F (g := mkF m pc Ls (.ref a :: st)) rfl rfl hd
  exact go st' (K2 T' X' e')
theorem own_fitc {a : Addr} {ty : FieldType} {vs : List Value} {c : Cell} (A : Arr Z h a c ty) (r : c.slots.toList = vs) (hfit : ∀ v ∈ vs, fits ty v = true) : FitC Z c := fitC_of A fun i hi v hv => hfit v (by rw [← r]; rw [← Array.getElem?_toList] at hv; exact List.mem_of_getElem? hv)
theorem g_clone (X : Stand p l e R s m args below meth c T locs cells slots) (hx : p.tables.exec = Jvm.exec) (hZ : Z.Warmed39 s.vm) (pc' : Nat) (hpc : pc + 3 = pc') {own ad : String} {index : Nat} (hown : s.vm.findClass own = some m.cls) (w1 : (Jvm.Cond.methodLink own index ⟨ad, "clone", "()Ljava/lang/Object;"⟩).before a0 Z = true) (w2 : (Jvm.Cond.sameMethod ad "java/lang/Object" "clone" "()Ljava/lang/Object;").before a0 Z = true) (w3 : (Jvm.Cond.native ⟨"java/lang/Object", "clone", "()Ljava/lang/Object;"⟩).before a0 Z = true) (w4 : (Jvm.Cond.instanceMethod ⟨"java/lang/Object", "clone", "()Ljava/lang/Object;"⟩).before a0 Z = true) (w5 : (Jvm.Cond.selects ad ⟨ad, "clone", "()Ljava/lang/Object;"⟩ ⟨"java/lang/Object", "clone", "()Ljava/lang/Object;"⟩).before a0 Z = true) (w6 : (Jvm.Cond.castable ad "java/lang/Cloneable").before a0 Z = true) (eT : T.heap = h) {a : Addr} {ty : FieldType} {vs : List Value} (A : Al Z h a ty vs) (Ex : Exa Z h a ad) (hfit : ∀ v ∈ vs, fits ty v = true) (hd : decode c.code pc = .ok (.invokevirtual index, 3)) (hsize : Ls.size = c.maxLocals) (hf : 1 ≤ R.frames) (W : Nat) (hW : 2 * 0 + (st.map fun v => v.category).sum ≤ W) (hl : W + 14 ≤ R.locals) (cap : Nat) (hcap : vs.length ≤ cap) (hc : cells + 1 ≤ R.cells) (hs : slots + cap ≤ R.slots) (K : ∀ T' h' b, b = h.size → Stand p l e R s m args below meth c T' locs (cells + 1) (slots + cap) → T'.heap = h' → Ext h h' → Al Z h' b ty vs → Exa Z h' b ad → Goes p e below (T'.setTop (mkF m pc' Ls (.ref b :: st))) P) : Goes p e below (T.setTop (mkF m pc Ls (.ref a :: st))) P := by
  subst hpc
  obtain ⟨c, Ar, r1, r2⟩ := A
  obtain ⟨T', h', X', e', E', A', Ex', st'⟩ := cloneA X hx hZ hown w1 w2 w3 w4 w5 w6 eT Ar Ex (own_fitc Ar r1 hfit) (g := mkF m pc Ls (.ref a :: st)) rfl hsize rfl hd hf hW hl (by rw [← r1] at hcap; simpa using hcap) hc hs
  exact go st' (K T' h' _ rfl X' e' E' ⟨_, A', r1, r2⟩ Ex')
theorem own_arv {a : Addr} {ty : FieldType} {vs : List Value} (d : Value) (A : Al Z h a ty vs) (hfit : ∀ v ∈ vs, fits ty v = true) : ∃ k, Arv Z h a k ty (Int32.ofNat vs.length) vs d := by
  obtain ⟨c, Ar, r1, r2⟩ := A
  have hs : c.slots.size = vs.length := by rw [← r1]; simp
  have h1 : (Int32.ofNat vs.length).toInt = (vs.length : Int) := Int32.toInt_ofNat_of_lt r2
  obtain ⟨q1, q2⟩ := own_ix h1
  have hv : ∀ i, i < c.slots.size → c.slots[i]? = some (vs.getD i d) := fun i hi => by
    rw [← Array.getElem?_toList, r1, List.getD_eq_getElem?_getD, List.getElem?_eq_getElem (by omega)]; rfl
  refine ⟨c.cls, c, Ar, rfl, by rw [hs, q1], q2, hv, fun i hi => hfit _ ?_⟩
  have := hv i hi
  rw [← Array.getElem?_toList, r1] at this
  exact List.mem_of_getElem? this
theorem own_al {a : Addr} {k : ClassId} {ty : FieldType} {z : Int32} {vs : List Value} {d : Value} (A : Arv Z h a k ty z vs d) (hl : vs.length = z.toNatClampNeg) : Al Z h a ty vs := by
  obtain ⟨c, Ar, -, S, M, H, -⟩ := A
  refine ⟨c, Ar, ?_, ?_⟩
  · apply List.ext_getElem?
    intro i
    rw [Array.getElem?_toList]
    by_cases hi : i < c.slots.size
    · rw [H i hi, List.getD_eq_getElem?_getD, List.getElem?_eq_getElem (by omega)]; rfl
    · rw [Array.getElem?_eq_none (by omega), List.getElem?_eq_none (by omega)]
  · have := (back32 M).2; omega
theorem g_acopy (X : Stand p l e R s m args below meth c T locs cells slots) (hx : p.tables.exec = Jvm.exec) (hZ : Z.Warmed39 s.vm) (pc' : Nat) (hpc : pc + 3 = pc') {own : String} {index : Nat} (hown : s.vm.findClass own = some m.cls) (w1 : (Jvm.Cond.methodLink own index Jvm.Stand.acN).before a0 Z = true) (w2 : (Jvm.Cond.native Jvm.Stand.acN).before a0 Z = true) (w3 : (Jvm.Cond.static Jvm.Stand.acN).before a0 Z = true) (w4 : (Jvm.Cond.initialized "java/lang/System").before a0 Z = true) (eT : T.heap = h) {a b : Addr} {ty : FieldType} {vs vd : List Value} (A : Al Z h a ty vs) (B : Al Z h b ty vd) (hp : refKind ty = false) (hfit : ∀ v ∈ vs, fits ty v = true) (hfit2 : ∀ v ∈ vd, fits ty v = true) {nn : Int32} (n : Nat) (hn : nn.toInt = (n : Int)) (h1 : n ≤ vs.length) (h2 : n ≤ vd.length) {n0 : Nat} (N : Fr n0 locs) (ge : n0 ≤ b) (hd : decode c.code pc = .ok (.invokestatic index, 3)) (hsize : Ls.size = c.maxLocals) (hf : 1 ≤ R.frames) (W : Nat) (hW : 2 * 0 + (st.map fun v => v.category).sum ≤ W) (hlo : W + (nativeFrameWords "java/lang/System" "arraycopy" 5 + 11) ≤ R.locals) (K : ∀ T' h' L, Stand p l e R s m args below meth c T' L cells slots → T'.heap = h' → Fr n0 L → Keep h h' [b] → Al Z h' b ty (vs.take n ++ vd.drop n) → Goes p e below (T'.setTop (mkF m pc' Ls st)) P) : Goes p e below (T.setTop (mkF m pc Ls (.int nn :: .int 0 :: .ref b :: .int 0 :: .ref a :: st))) P := by
  subst hpc
  obtain ⟨ka, Aa⟩ := own_arv (.int 0) A hfit
  obtain ⟨kb, Ab⟩ := own_arv (.int 0) B hfit2
  obtain ⟨q1, q2⟩ := own_ix hn
  have l1 : (Int32.ofNat vs.length).toNatClampNeg = vs.length := (own_ix (Int32.toInt_ofNat_of_lt A.choose_spec.2.2)).1
  have l2 : (Int32.ofNat vd.length).toNatClampNeg = vd.length := (own_ix (Int32.toInt_ofNat_of_lt B.choose_spec.2.2)).1
  have z0 : (0 : Int32).toNatClampNeg = 0 := rfl
  obtain ⟨T', h', L, X', e', N', K', A', st'⟩ := cpA X hx hZ hown w1 w2 w3 w4 eT Aa Ab (us := (List.range nn.toNatClampNeg).map fun i => vs.getD ((0 : Int32).toNatClampNeg + i) (.int 0)) (Or.inl ⟨rfl, hp⟩) (sp := 0) (dp := 0) (nn := nn) (by decide) (by decide) q2 (by rw [q1, l1, z0]; omega) (by rw [q1, l2, z0]; omega) rfl (by rw [q1, z0]; omega) N ge (g := mkF m pc Ls (.int nn :: .int 0 :: .ref b :: .int 0 :: .ref a :: st)) rfl hsize rfl hd hf hW hlo
  have hu : vd.take (0 : Int32).toNatClampNeg ++ ((List.range nn.toNatClampNeg).map fun i => vs.getD ((0 : Int32).toNatClampNeg + i) (.int 0)) ++ vd.drop ((0 : Int32).toNatClampNeg + nn.toNatClampNeg) = vs.take n ++ vd.drop n := by
    rw [z0, q1, List.take_zero, List.nil_append, Nat.zero_add]
    congr 1
    apply List.ext_getElem?
    intro i
    by_cases hi : i < n
    · rw [List.getElem?_take_of_lt hi, List.getElem?_map, List.getElem?_range hi, Option.map_some, Nat.zero_add, List.getD_eq_getElem?_getD, List.getElem?_eq_getElem (by omega)]; rfl
    · rw [List.getElem?_eq_none (by simp; omega), List.getElem?_eq_none (by simp; omega)]
  rw [hu] at A'
  exact go st' (K T' h' L X' e' N' K' (own_al A' (by rw [l2]; simp; omega)))
theorem own_eqI {args : Array Value} {first s : State} {o : Option Outcome} {idx : List Nat} {a : Term} {k : Int32} (q : (Jvm.Cond.eq a (Jvm.Term.int k)).value args first o s idx = some true) : a.eval args first o idx s = some (.int k) := by
  obtain ⟨x, y, h1, h2, h3, h4⟩ := cmp_v (Or.inl q)
  have h5 : y = .int k := (Option.some.inj ((Term.int_eval k).symm.trans h2)).symm
  subst h5
  obtain ⟨z, rfl⟩ := h4
  have h6 : z = k := gotT (Cond.eq_ints h1 h2) q
  rw [h1, h6]
theorem own_nar_ref {v : Value} {C : String} (q : v.isRef = true) : narrow (.object C) v = v := by cases v <;> simp [Value.isRef] at q <;> rfl
theorem own_fit_ref {v : Value} {C : String} (q : v.isRef = true) : fits (.object C) v = true := by cases v <;> simp [Value.isRef] at q <;> rfl
theorem own_sixteen (x : Int32) : (x.toBitVec.toNat < 2147483648 ∧ x.toInt = (x.toBitVec.toNat : Int)) ∨ (2147483648 ≤ x.toBitVec.toNat ∧ x.toInt = (x.toBitVec.toNat : Int) - 4294967296) := by
  have h1 : x.toInt = x.toBitVec.toInt := rfl
  have h2 := x.toBitVec.isLt
  rw [h1, BitVec.toInt_eq_toNat_cond]; split <;> omega
end OwnKit
section OwnWide
variable {p : Program} {l : Launch} {e : Env} {R : Room} {s : State} {m : MethodId} {args : Array Value} {below : List Frame} {meth : Method} {c : Code} {T : State} {locs : List Loc} {cells slots : Nat} {P : State → Outcome → Prop} {Z : State} {a0 : Array Value} {h : Heap} {pc : Nat} {Ls : Array Slot} {st : List Value}
def EndzW (s : State) (kc ks : Nat) (Q : Option Value → Heap → List Loc → Prop) (U : State) (o : Outcome) : Prop := ∃ v L, o = .returned v ∧ Q v U.heap L ∧ ReturnedEndW s o U L kc ks
abbrev OwnMetW (l : Launch) (Z : State) (y : MethodName) (bytes : ByteArray) (maxL : Nat) (ret : Option FieldType) (ws : List Jvm.Cond) (rm : Room) (as' : Array Value) (h : Heap) (Q : Option Value → Heap → List Loc → Prop) : Prop := MetFree l y (head1 (Jvm.Cond.code y bytes maxL ret :: ws) rm) (fun a U => a = as' ∧ Z.Warmed39 U.vm ∧ U.heap = h) (fun _ _ _ _ _ => True) (fun _ U o U' => ∃ v L, o = .returned v ∧ Q v U'.heap L ∧ ReturnedEndW U o U' L rm.cells rm.slots)
theorem own_bodyW {y : MethodName} {bytes : ByteArray} {maxL : Nat} {ret : Option FieldType} {ws : List Jvm.Cond} {rm : Room} {as' : Array Value} {Q : Option Value → Heap → List Loc → Prop} (hpn : plainFor y = true)
    (B : ∀ (p : Program) (e : Env) (s : State) (m : MethodId) (below : List Frame) (meth : Method) (c : Code) (s₁ : State), p.tables.exec = Jvm.exec → c.code = bytes → c.maxLocals = maxL → s.vm.findClass y.cls = some m.cls → meth.name = y.name → meth.sig.returnType = ret → meth.locks = false → Z.Warmed39 s.vm → Stand p l e rm s m as' below meth c s₁ [] 0 0 → s₁.heap = h → Goes p e below (s₁.setTop (entryFrame m as' maxL)) (EndzW s rm.cells rm.slots Q)) : OwnMetW l Z y bytes maxL ret ws rm as' h Q := by
  refine MetFree.of_bodySF hpn hisR ?_
  intro p e s m args below meth c s₁ Bd hml0 hP hK
  obtain ⟨rfl, hZ, hh⟩ := hP
  exact B p e s m below meth c s₁ Bd.exec Bd.bytes hml0 (findClass_of_methodNamed Bd.named) (name_of_methodNamed Bd.named Bd.method).1 Bd.returns (BodyLoose.notSynchronized Bd) hZ (Stand.of_body Bd) (by rw [← hh, Bd.state]; rfl)
theorem g_retZW {vm₁ : Vm} {n z' : Nat} {z : Int32} {kc ks : Nat} {Q : Option Value → Heap → List Loc → Prop} (X : Stand p l e R (s.setVm vm₁) m args below meth c T locs cells slots) (hx : p.tables.exec = Jvm.exec) (hS : s.Since vm₁ n) (hn : n ≤ T.heap.size) (hret : meth.sig.returnType = some .boolean) (hlk : meth.locks = false) (hnz : narrow .boolean (.int z) = .int z) (hd : decode c.code pc = .ok (.ireturn, 1)) (hQ : Q (some (.int z)) T.heap locs) (hc : cells ≤ kc) (hs : slots ≤ ks) : Goes p e below (T.setTop (mkF m pc Ls (.int z :: st))) (EndzW s kc ks Q) := by
  obtain ⟨fs, hr, hrun, hended, h1, h2, h3, h4⟩ := X.leaveW hS hn (v := some (.int z)) (fun h => by rw [hret] at h; cases h) hlk
  exact ⟨_, _, retOut X hx hret hnz (Or.inl ⟨rfl, Or.inr (Or.inl rfl), z, rfl⟩) hd hr, hrun, hended, _, _, rfl, hQ, h1, h2, h3, h4.mono hc hs⟩
theorem own_since (s : State) (n : Nat) : s.Since s.vm n := (State.WarmedH.refl s).since n
theorem g_ldcS {vm0 : Vm} (X : Stand p l e R (s.setVm vm0) m args below meth c T locs cells slots) (hx : p.tables.exec = Jvm.exec) (pc' : Nat) (hpc : pc + 2 = pc') (hZ : Z.Warmed39 vm0) {own text : String} {index : Nat} (hown : vm0.findClass own = some m.cls) (w : (Jvm.Cond.stringLink own index text).before a0 Z = true) (wS : ∀ a ∈ Bundle.stringAtoms, a.before a0 Z = true) (eT : T.heap = h) {k0 : Nat} (hS : s.Since vm0 k0) (hk : k0 ≤ h.size) (hd : decode c.code pc = .ok (.ldc index, 2)) (n : Nat) (hn : 4 * text.toList.length ≤ n) (hbig : n ≤ 536870912) (hc : cells + 2 ≤ R.cells) (hl : slots + (n + 4) ≤ R.slots) (K : ∀ a T' h' k1, Stand p l e R (s.setVm T'.vm) m args below meth c T' locs (cells + 2) (slots + (n + 4)) → T'.heap = h' → Ext h h' → s.Since T'.vm k1 → k1 ≤ h'.size → Z.Warmed39 (s.setVm T'.vm).vm → (s.setVm T'.vm).vm.findClass own = some m.cls → Goes p e below (T'.setTop (mkF m pc' Ls (.ref a :: st))) P) : Goes p e below (T.setTop (mkF m pc Ls st)) P := by
  subst hpc
  obtain ⟨a, T', h', k1, X', e', E', hS', hk', hZ', ho', st'⟩ := ldcS X hx hZ hown w wS eT hS hk (g := mkF m pc Ls st) rfl hd hn hbig hc hl
  exact go st' (K a T' h' k1 X' e' E' hS' hk' hZ' ho')
end OwnWide

theorem own_mask8 (p : Int32) (m : Int32) (b : Nat) (hb : b ≤ 8) (hm : m.toBitVec.toNat = 2 ^ b - 1) : (p &&& m).toInt8.toInt32 &&& (255 : Int32) = p &&& m ∧ 0 ≤ (p &&& m).toInt ∧ (p &&& m).toInt < 2 ^ b := by
  have h1 := c_mask p m b (by omega) hm
  have hp : 0 < 2 ^ b := Nat.two_pow_pos b
  have hq : (2 : Nat) ^ b ≤ 2 ^ 8 := Nat.pow_le_pow_right (by decide) hb
  have h4 := Int.emod_nonneg p.toInt (b := ((2 ^ b : Nat) : Int)) (by omega)
  have h5 := Int.emod_lt_of_pos p.toInt (b := ((2 ^ b : Nat) : Int)) (by omega)
  have h6 : (p &&& m).toInt < ((2 ^ b : Nat) : Int) := by omega
  generalize p &&& m = x at *
  have h2 := c_i2b x
  have h3 := c_mask x.toInt8.toInt32 255 8 (by decide) (by decide)
  refine ⟨Int32.toInt_inj.mp ?_, by omega, by rw [show ((2 : Int) ^ b) = ((2 ^ b : Nat) : Int) by simp]; exact h6⟩
  omega
theorem own_rem9 (x : Int32) : 0 ≤ ((x &&& (2147483647 : Int32)) % (9 : Int32)).toInt ∧ ((x &&& (2147483647 : Int32)) % (9 : Int32)).toInt < 9 := by
  have h1 := c_mask x 2147483647 31 (by decide) (by decide)
  have h2 := (c_iremV (x &&& (2147483647 : Int32)) 9).1 (by omega) (by decide)
  have e9 : (9 : Int32).toInt = 9 := rfl
  omega
theorem own_i2l2i (x : Int32) : x.toInt64.toInt32 = x := by simp

theorem d1_0 : decode prog_30_method_1_code 0 = .ok (.aload_n 0, 1) := by decide +kernel
theorem d1_1 : decode prog_30_method_1_code 1 = .ok (.invokespecial 1, 3) := by decide +kernel
theorem d1_4 : decode prog_30_method_1_code 4 = .ok (.aload_n 0, 1) := by decide +kernel
theorem d1_5 : decode prog_30_method_1_code 5 = .ok (.aload_n 1, 1) := by decide +kernel
theorem d1_6 : decode prog_30_method_1_code 6 = .ok (.putfield 7, 3) := by decide +kernel
theorem d1_9 : decode prog_30_method_1_code 9 = .ok (.aload_n 0, 1) := by decide +kernel
theorem d1_10 : decode prog_30_method_1_code 10 = .ok (.iload_n 2, 1) := by decide +kernel
theorem d1_11 : decode prog_30_method_1_code 11 = .ok (.putfield 13, 3) := by decide +kernel
theorem d1_14 : decode prog_30_method_1_code 14 = .ok (.aload_n 0, 1) := by decide +kernel
theorem d1_15 : decode prog_30_method_1_code 15 = .ok (.iload_n 3, 1) := by decide +kernel
theorem d1_16 : decode prog_30_method_1_code 16 = .ok (.putfield 17, 3) := by decide +kernel
theorem d1_19 : decode prog_30_method_1_code 19 = .ok (.return_, 1) := by decide +kernel
theorem pf_0 : plainFor (⟨"com/example/stowline/stowline/Der", "<init>", "([BII)V"⟩ : MethodName) = true := by first | exact plainFor_of_name (by first | (simp [plainName, overriddenIn]; done) | decide +kernel) | decide +kernel
theorem pd_0 : parseMethodDescriptor "()V" = some ⟨[], none⟩ := by decide +kernel
theorem ef_1_rmI (m : MethodId) (a1 : Addr) (ba : Addr) (p2 : Int32) (p3 : Int32) (u1 : Value) (u2 : Value) (u3 : Value)  : entryFrame m #[(.ref a1), (.ref ba), (.int p2), (.int p3)] 4 = mkF m 0 #[.val (.ref a1), .val (.ref ba), .val (.int p2), .val (.int p3)] [] := by first | (simp [entryFrame, mkF, argsToLocals, Value.category, maxLocals]; done) | rfl
def Q_rmI (Z : State) (a1 : Addr) (ba : Addr) (p2 : Int32) (p3 : Int32) (u1 : Value) (u2 : Value) (u3 : Value) (h0 : Heap) (n0 : Nat) (v : Option Value) (h : Heap) (L : List Loc) : Prop := v = none ∧ Fr n0 L ∧ Keep h0 h [a1] ∧ Exa Z h a1 "com/example/stowline/stowline/Der" ∧ Fld Z h a1 "com/example/stowline/stowline/Der" "bytes" "[B" (.ref ba) ∧ Fld Z h a1 "com/example/stowline/stowline/Der" "position" "I" (.int p2) ∧ Fld Z h a1 "com/example/stowline/stowline/Der" "end" "I" (.int p3)
set_option maxRecDepth 65536 in
set_option maxHeartbeats 40000000 in
theorem rmI (l : Launch) (Z : State) (a0 : Array Value) (hw : ∀ d ∈ tables_1, d.before a0 Z = true) (ws : List Jvm.Cond) (a1 : Addr) (ba : Addr) (p2 : Int32) (p3 : Int32) (u1 : Value) (u2 : Value) (u3 : Value) (h0 : Heap) (n0 : Nat) (Z0 : n0 ≤ h0.size) (E1 : Exa Z h0 a1 "com/example/stowline/stowline/Der") (g1 : n0 ≤ a1) (Fb : Fld Z h0 a1 "com/example/stowline/stowline/Der" "bytes" "[B" u1) (Fp : Fld Z h0 a1 "com/example/stowline/stowline/Der" "position" "I" u2) (Fe : Fld Z h0 a1 "com/example/stowline/stowline/Der" "end" "I" u3) :
    OwnMet l Z (⟨"com/example/stowline/stowline/Der", "<init>", "([BII)V"⟩ : MethodName) prog_30_method_1_code 4 none ws ({ frames := 1, cells := 0, slots := 0, locals := 12 } : Room) #[(.ref a1), (.ref ba), (.int p2), (.int p3)] h0 (Q_rmI Z a1 ba p2 p3 u1 u2 u3 h0 n0) := by
  refine own_body pf_0 ?_
  intro p e s m below meth c s₁ hx hby hml hown hnm hret hlk hZ X0 e0
  have N0 := Fr.nil n0
  refine own_cast (ef_1_rmI m a1 ba p2 p3 u1 u2 u3 ) ?_
  refine g_aload_n X0 hx 1 rfl (hb hby d1_0) rfl rfl ?_
  refine g_initO X0 hx hZ 4 rfl hown (hw _ (List.mem_of_getElem? (i := 7) rfl)) (hw _ (List.mem_of_getElem? (i := 8) rfl)) (hw _ (List.mem_of_getElem? (i := 9) rfl)) e0 (by rw [hml]; rfl) (hb hby d1_1) (by decide) 0 (Nat.le_of_eq rfl) (by decide) ?_
  intro T1 X1 e1
  refine g_aload_n X1 hx 5 rfl (hb hby d1_4) rfl rfl ?_
  refine g_aload_n X1 hx 6 rfl (hb hby d1_5) rfl rfl ?_
  refine g_putF X1 hx hZ 9 rfl hown (hw _ (List.mem_of_getElem? (i := 10) rfl)) e1 Fb E1 (Or.inr ⟨(hw _ (List.mem_of_getElem? (i := 11) rfl)), rfl, hnm⟩) (hw _ (List.mem_of_getElem? (i := 2) rfl)) (ty := .array .byte) (by decide) rfl rfl (hb hby d1_6) ?_
  intro T2 h2 X2 e2 W2
  have Fw2 := Fb.same W2
  have N2 := Fr.snoc X2 N0 g1
  refine g_aload_n X2 hx 10 rfl (hb hby d1_9) rfl rfl ?_
  refine g_iload_n X2 hx 11 rfl (hb hby d1_10) rfl ?_
  have Fld3 := (Fp.other W2 (Or.inr (slot_ne (Or.inl (hw _ (List.mem_of_getElem? (i := 13) rfl))) (Or.inr (hw _ (List.mem_of_getElem? (i := 11) rfl))) (by decide) (t := .int) (t' := .array .byte) (by decide) (by decide))))
  have Exa4 := (E1.wr W2)
  refine g_putF X2 hx hZ 14 rfl hown (hw _ (List.mem_of_getElem? (i := 12) rfl)) e2 Fld3 Exa4 (Or.inl (hw _ (List.mem_of_getElem? (i := 13) rfl))) (hw _ (List.mem_of_getElem? (i := 2) rfl)) (ty := .int) (by decide) rfl rfl (hb hby d1_11) ?_
  intro T5 h5 X5 e5 W5
  have Fw5 := Fld3.same W5
  have N5 := Fr.snoc X5 N2 g1
  refine g_aload_n X5 hx 15 rfl (hb hby d1_14) rfl rfl ?_
  refine g_iload_n X5 hx 16 rfl (hb hby d1_15) rfl ?_
  have Fld6 := ((Fe.other W2 (Or.inr (slot_ne (Or.inr (hw _ (List.mem_of_getElem? (i := 15) rfl))) (Or.inr (hw _ (List.mem_of_getElem? (i := 11) rfl))) (by decide) (t := .int) (t' := .array .byte) (by decide) (by decide)))).other W5 (Or.inr (slot_ne (Or.inr (hw _ (List.mem_of_getElem? (i := 15) rfl))) (Or.inl (hw _ (List.mem_of_getElem? (i := 13) rfl))) (by decide) (t := .int) (t' := .int) (by decide) (by decide))))
  have Exa7 := (Exa4.wr W5)
  refine g_putF X5 hx hZ 19 rfl hown (hw _ (List.mem_of_getElem? (i := 14) rfl)) e5 Fld6 Exa7 (Or.inr ⟨(hw _ (List.mem_of_getElem? (i := 15) rfl)), rfl, hnm⟩) (hw _ (List.mem_of_getElem? (i := 2) rfl)) (ty := .int) (by decide) rfl rfl (hb hby d1_16) ?_
  intro T8 h8 X8 e8 W8
  have Fw8 := Fld6.same W8
  have N8 := Fr.snoc X8 N5 g1
  have Exa9 := (Exa7.wr W8)
  have Fld10 := ((Fw2.other W5 (Or.inr (slot_ne (Or.inr (hw _ (List.mem_of_getElem? (i := 11) rfl))) (Or.inl (hw _ (List.mem_of_getElem? (i := 13) rfl))) (by decide) (t := .array .byte) (t' := .int) (by decide) (by decide)))).other W8 (Or.inr (slot_ne (Or.inr (hw _ (List.mem_of_getElem? (i := 11) rfl))) (Or.inr (hw _ (List.mem_of_getElem? (i := 15) rfl))) (by decide) (t := .array .byte) (t' := .int) (by decide) (by decide))))
  have Fld11 := (Fw5.other W8 (Or.inr (slot_ne (Or.inl (hw _ (List.mem_of_getElem? (i := 13) rfl))) (Or.inr (hw _ (List.mem_of_getElem? (i := 15) rfl))) (by decide) (t := .int) (t' := .int) (by decide) (by decide))))
  exact g_ret0 X8 hx hret hlk (hb hby d1_19) (by rw [e8]; exact ⟨rfl, N8, ((((Keep.refl h0 [a1]).wr W2 (Or.inl (List.mem_of_getElem? (i := 0) rfl))).wr W5 (Or.inl (List.mem_of_getElem? (i := 0) rfl))).wr W8 (Or.inl (List.mem_of_getElem? (i := 0) rfl))), Exa9, Fld10, Fld11, Fw8⟩) (by decide) (by decide)
theorem d3_0 : decode prog_30_method_3_code 0 = .ok (.aload_n 0, 1) := by decide +kernel
theorem d3_1 : decode prog_30_method_3_code 1 = .ok (.getfield 13, 3) := by decide +kernel
theorem d3_4 : decode prog_30_method_3_code 4 = .ok (.aload_n 0, 1) := by decide +kernel
theorem d3_5 : decode prog_30_method_3_code 5 = .ok (.getfield 17, 3) := by decide +kernel
theorem d3_8 : decode prog_30_method_3_code 8 = .ok (.if_icmp .ge 7, 3) := by decide +kernel
theorem d3_11 : decode prog_30_method_3_code 11 = .ok (.iconst 1, 1) := by decide +kernel
theorem d3_12 : decode prog_30_method_3_code 12 = .ok (.goto 4, 3) := by decide +kernel
theorem d3_15 : decode prog_30_method_3_code 15 = .ok (.iconst 0, 1) := by decide +kernel
theorem d3_16 : decode prog_30_method_3_code 16 = .ok (.ireturn, 1) := by decide +kernel
theorem pf_1 : plainFor (⟨"com/example/stowline/stowline/Der", "hasNext", "()Z"⟩ : MethodName) = true := by first | exact plainFor_of_name (by first | (simp [plainName, overriddenIn]; done) | decide +kernel) | decide +kernel
theorem ef_3_rmH (m : MethodId) (a1 : Addr) (p2 : Int32) (p3 : Int32)  : entryFrame m #[(.ref a1)] 1 = mkF m 0 #[.val (.ref a1)] [] := by first | (simp [entryFrame, mkF, argsToLocals, Value.category, maxLocals]; done) | rfl
def Q_rmH (Z : State) (a1 : Addr) (p2 : Int32) (p3 : Int32) (h0 : Heap) (n0 : Nat) (v : Option Value) (h : Heap) (L : List Loc) : Prop := v = some (.int (b2i (decide (p2 < p3)))) ∧ Fr n0 L ∧ h = h0
set_option maxRecDepth 65536 in
set_option maxHeartbeats 40000000 in
theorem rmH (l : Launch) (Z : State) (a0 : Array Value) (hw : ∀ d ∈ tables_1, d.before a0 Z = true) (ws : List Jvm.Cond) (a1 : Addr) (p2 : Int32) (p3 : Int32) (h0 : Heap) (n0 : Nat) (Z0 : n0 ≤ h0.size) (Fp : Fld Z h0 a1 "com/example/stowline/stowline/Der" "position" "I" (.int p2)) (Fe : Fld Z h0 a1 "com/example/stowline/stowline/Der" "end" "I" (.int p3)) :
    OwnMet l Z (⟨"com/example/stowline/stowline/Der", "hasNext", "()Z"⟩ : MethodName) prog_30_method_3_code 1 (some .boolean) ws ({ frames := 0, cells := 0, slots := 0, locals := 0 } : Room) #[(.ref a1)] h0 (Q_rmH Z a1 p2 p3 h0 n0) := by
  refine own_body pf_1 ?_
  intro p e s m below meth c s₁ hx hby hml hown hnm hret hlk hZ X0 e0
  have N0 := Fr.nil n0
  refine own_cast (ef_3_rmH m a1 p2 p3 ) ?_
  refine g_aload_n X0 hx 1 rfl (hb hby d3_0) rfl rfl ?_
  refine g_getF X0 hx hZ 4 rfl hown (hw _ (List.mem_of_getElem? (i := 12) rfl)) e0 Fp (hb hby d3_1) ?_
  intro T1 X1 e1
  refine g_aload_n X1 hx 5 rfl (hb hby d3_4) rfl rfl ?_
  refine g_getF X1 hx hZ 8 rfl hown (hw _ (List.mem_of_getElem? (i := 14) rfl)) e1 Fe (hb hby d3_5) ?_
  intro T2 X2 e2
  by_cases c8 : p2 < p3
  · refine g_icmpN X2 hx 11 rfl (hb hby d3_8) (XT.ii_ge_f c8) ?_
    refine g_iconst X2 hx 12 rfl (1 : Int32) rfl (hb hby d3_11) ?_
    refine g_goto X2 hx 16 (hb hby d3_12) (by decide) (by decide) ?_
    exact g_retZ X2 hx hret hlk rfl (hb hby d3_16) ⟨by simp [b2i, c8], N0, e2⟩ (by decide) (by decide)
  · refine g_icmpY X2 hx 15 (hb hby d3_8) (XT.ii_ge_t c8) (by decide) (by decide) ?_
    refine g_iconst X2 hx 16 rfl (0 : Int32) rfl (hb hby d3_15) ?_
    exact g_retZ X2 hx hret hlk rfl (hb hby d3_16) ⟨by simp [b2i, c8], N0, e2⟩ (by decide) (by decide)
theorem d4_0 : decode prog_30_method_5_code 0 = .ok (.aload_n 0, 1) := by decide +kernel
theorem d4_1 : decode prog_30_method_5_code 1 = .ok (.invokevirtual 27, 3) := by decide +kernel
theorem d4_4 : decode prog_30_method_5_code 4 = .ok (.ifCond .eq 19, 3) := by decide +kernel
theorem d4_7 : decode prog_30_method_5_code 7 = .ok (.aload_n 0, 1) := by decide +kernel
theorem d4_8 : decode prog_30_method_5_code 8 = .ok (.getfield 7, 3) := by decide +kernel
theorem d4_11 : decode prog_30_method_5_code 11 = .ok (.aload_n 0, 1) := by decide +kernel
theorem d4_12 : decode prog_30_method_5_code 12 = .ok (.getfield 13, 3) := by decide +kernel
theorem d4_15 : decode prog_30_method_5_code 15 = .ok (.baload, 1) := by decide +kernel
theorem d4_16 : decode prog_30_method_5_code 16 = .ok (.sipush 255, 3) := by decide +kernel
theorem d4_19 : decode prog_30_method_5_code 19 = .ok (.iand, 1) := by decide +kernel
theorem d4_20 : decode prog_30_method_5_code 20 = .ok (.goto 4, 3) := by decide +kernel
theorem d4_23 : decode prog_30_method_5_code 23 = .ok (.iconst (-1), 1) := by decide +kernel
theorem d4_24 : decode prog_30_method_5_code 24 = .ok (.ireturn, 1) := by decide +kernel
theorem pf_2 : plainFor (⟨"com/example/stowline/stowline/Der", "peekTag", "()I"⟩ : MethodName) = true := by first | exact plainFor_of_name (by first | (simp [plainName, overriddenIn]; done) | decide +kernel) | decide +kernel
theorem pd_1 : parseMethodDescriptor "()Z" = some ⟨[], some .boolean⟩ := by decide +kernel
theorem ef_4_rmK (m : MethodId) (a1 : Addr) (ba : Addr) (p3 : Int32) (x : Int32) (vs : List Value)  : entryFrame m #[(.ref a1)] 1 = mkF m 0 #[.val (.ref a1)] [] := by first | (simp [entryFrame, mkF, argsToLocals, Value.category, maxLocals]; done) | rfl
def Q_rmK (Z : State) (a1 : Addr) (ba : Addr) (p3 : Int32) (x : Int32) (vs : List Value) (h0 : Heap) (n0 : Nat) (v : Option Value) (h : Heap) (L : List Loc) : Prop := v = some (.int (if (0 : Int32) < p3 then x &&& (255 : Int32) else -1)) ∧ Fr n0 L ∧ h = h0
set_option maxRecDepth 65536 in
set_option maxHeartbeats 40000000 in
theorem rmK (l : Launch) (Z : State) (a0 : Array Value) (hw : ∀ d ∈ tables_1, d.before a0 Z = true) (ws : List Jvm.Cond) (a1 : Addr) (ba : Addr) (p3 : Int32) (x : Int32) (vs : List Value) (h0 : Heap) (n0 : Nat) (Z0 : n0 ≤ h0.size) (Fb : Fld Z h0 a1 "com/example/stowline/stowline/Der" "bytes" "[B" (.ref ba)) (Fp : Fld Z h0 a1 "com/example/stowline/stowline/Der" "position" "I" (.int (0 : Int32))) (Fe : Fld Z h0 a1 "com/example/stowline/stowline/Der" "end" "I" (.int p3)) (E1 : Exa Z h0 a1 "com/example/stowline/stowline/Der") (Ab : Al Z h0 ba .byte vs) (hv0 : vs[0]? = some (.int x)) :
    OwnMet l Z (⟨"com/example/stowline/stowline/Der", "peekTag", "()I"⟩ : MethodName) prog_30_method_5_code 1 (some .int) ws ({ frames := 1, cells := 0, slots := 0, locals := 12 } : Room) #[(.ref a1)] h0 (Q_rmK Z a1 ba p3 x vs h0 n0) := by
  refine own_body pf_2 ?_
  intro p e s m below meth c s₁ hx hby hml hown hnm hret hlk hZ X0 e0
  have N0 := Fr.nil n0
  refine own_cast (ef_4_rmK m a1 ba p3 x vs ) ?_
  refine g_aload_n X0 hx 1 rfl (hb hby d4_0) rfl rfl ?_
  refine g_callV X0 hx hZ 4 rfl (y := (⟨"com/example/stowline/stowline/Der", "hasNext", "()Z"⟩ : MethodName)) hown (hw _ (List.mem_of_getElem? (i := 27) rfl)) (hw _ (List.mem_of_getElem? (i := 17) rfl)) (hw _ (List.mem_of_getElem? (i := 19) rfl)) (hw _ (List.mem_of_getElem? (i := 18) rfl)) (hw _ (List.mem_of_getElem? (i := 3) rfl)) (hw _ (List.mem_of_getElem? (i := 20) rfl)) (by decide) a1 [] [] (rmH l Z a0 hw [] a1 (0 : Int32) p3 h0 n0 Z0 Fp Fe) e0 E1 (lenOf pd_1 rfl) rfl (by rw [hml]; rfl) (hb hby d4_1) (by decide) 0 (Nat.le_of_eq rfl) (by decide) (by decide) (by decide) ?_
  rintro _ T1 L1 X1 ⟨rfl, N1q, e1⟩
  have N1 := Fr.app N0 N1q
  show Goes p e below (T1.setTop (mkF m 4 #[.val (.ref a1)] [.int (b2i (decide ((0 : Int32) < p3)))])) _
  by_cases c4 : (decide ((0 : Int32) < p3)) = true
  · refine g_ifN X1 hx 7 rfl (hb hby d4_4) (bb_eq_f c4) ?_
    have c4' := of_decide_eq_true c4
    refine g_aload_n X1 hx 8 rfl (hb hby d4_7) rfl rfl ?_
    refine g_getF X1 hx hZ 11 rfl hown (hw _ (List.mem_of_getElem? (i := 10) rfl)) e1 Fb (hb hby d4_8) ?_
    intro T2 X2 e2
    refine g_aload_n X2 hx 12 rfl (hb hby d4_11) rfl rfl ?_
    refine g_getF X2 hx hZ 15 rfl hown (hw _ (List.mem_of_getElem? (i := 12) rfl)) e2 Fp (hb hby d4_12) ?_
    intro T3 X3 e3
    refine g_baload X3 hx hZ 16 rfl (hb hby d4_15) e3 Ab 0 rfl (.int x) hv0 ?_
    refine g_sipush X3 hx 19 rfl (255 : Int32) rfl (hb hby d4_16) ?_
    refine g_iand X3 hx 20 rfl (hb hby d4_19) ?_
    refine g_goto X3 hx 24 (hb hby d4_20) (by decide) (by decide) ?_
    exact g_retI X3 hx hret hlk (hb hby d4_24) ⟨by rw [if_pos c4'], N1, e3⟩ (by decide) (by decide)
  · refine g_ifY X1 hx 23 (hb hby d4_4) (bb_eq_t c4) (by decide) (by decide) ?_
    have c4' : ¬ (0 : Int32) < p3 := fun z => c4 (decide_eq_true z)
    refine g_iconst X1 hx 24 rfl (-1 : Int32) rfl (hb hby d4_23) ?_
    exact g_retI X1 hx hret hlk (hb hby d4_24) ⟨by rw [if_neg c4'], N1, e1⟩ (by decide) (by decide)
theorem d8_0 : decode jdk_30_method_1_code 0 = .ok (.aload_n 0, 1) := by decide +kernel
theorem d8_1 : decode jdk_30_method_1_code 1 = .ok (.invokespecial 1, 3) := by decide +kernel
theorem d8_4 : decode jdk_30_method_1_code 4 = .ok (.return_, 1) := by decide +kernel
theorem pf_3 : plainFor (⟨"java/lang/Record", "<init>", "()V"⟩ : MethodName) = true := by first | exact plainFor_of_name (by first | (simp [plainName, overriddenIn]; done) | decide +kernel) | decide +kernel
theorem ef_8_rmR (m : MethodId) (a1 : Addr)  : entryFrame m #[(.ref a1)] 1 = mkF m 0 #[.val (.ref a1)] [] := by first | (simp [entryFrame, mkF, argsToLocals, Value.category, maxLocals]; done) | rfl
def Q_rmR (Z : State) (a1 : Addr) (h0 : Heap) (n0 : Nat) (v : Option Value) (h : Heap) (L : List Loc) : Prop := v = none ∧ Fr n0 L ∧ h = h0
set_option maxRecDepth 65536 in
set_option maxHeartbeats 40000000 in
theorem rmR (l : Launch) (Z : State) (a0 : Array Value) (hw : ∀ d ∈ tables_1, d.before a0 Z = true) (ws : List Jvm.Cond) (a1 : Addr) (h0 : Heap) (n0 : Nat) (Z0 : n0 ≤ h0.size)  :
    OwnMet l Z (⟨"java/lang/Record", "<init>", "()V"⟩ : MethodName) jdk_30_method_1_code 1 none ws ({ frames := 1, cells := 0, slots := 0, locals := 12 } : Room) #[(.ref a1)] h0 (Q_rmR Z a1 h0 n0) := by
  refine own_body pf_3 ?_
  intro p e s m below meth c s₁ hx hby hml hown hnm hret hlk hZ X0 e0
  have N0 := Fr.nil n0
  refine own_cast (ef_8_rmR m a1 ) ?_
  refine g_aload_n X0 hx 1 rfl (hb hby d8_0) rfl rfl ?_
  refine g_initO X0 hx hZ 4 rfl hown (hw _ (List.mem_of_getElem? (i := 55) rfl)) (hw _ (List.mem_of_getElem? (i := 8) rfl)) (hw _ (List.mem_of_getElem? (i := 9) rfl)) e0 (by rw [hml]; rfl) (hb hby d8_1) (by decide) 0 (Nat.le_of_eq rfl) (by decide) ?_
  intro T1 X1 e1
  exact g_ret0 X1 hx hret hlk (hb hby d8_4) ⟨rfl, N0, e1⟩ (by decide) (by decide)
theorem d7_0 : decode prog_31_method_1_code 0 = .ok (.aload_n 0, 1) := by decide +kernel
theorem d7_1 : decode prog_31_method_1_code 1 = .ok (.invokespecial 1, 3) := by decide +kernel
theorem d7_4 : decode prog_31_method_1_code 4 = .ok (.aload_n 0, 1) := by decide +kernel
theorem d7_5 : decode prog_31_method_1_code 5 = .ok (.iload_n 1, 1) := by decide +kernel
theorem d7_6 : decode prog_31_method_1_code 6 = .ok (.putfield 7, 3) := by decide +kernel
theorem d7_9 : decode prog_31_method_1_code 9 = .ok (.aload_n 0, 1) := by decide +kernel
theorem d7_10 : decode prog_31_method_1_code 10 = .ok (.aload_n 2, 1) := by decide +kernel
theorem d7_11 : decode prog_31_method_1_code 11 = .ok (.putfield 13, 3) := by decide +kernel
theorem d7_14 : decode prog_31_method_1_code 14 = .ok (.aload_n 0, 1) := by decide +kernel
theorem d7_15 : decode prog_31_method_1_code 15 = .ok (.iload_n 3, 1) := by decide +kernel
theorem d7_16 : decode prog_31_method_1_code 16 = .ok (.putfield 17, 3) := by decide +kernel
theorem d7_19 : decode prog_31_method_1_code 19 = .ok (.aload_n 0, 1) := by decide +kernel
theorem d7_20 : decode prog_31_method_1_code 20 = .ok (.iload 4, 2) := by decide +kernel
theorem d7_22 : decode prog_31_method_1_code 22 = .ok (.putfield 20, 3) := by decide +kernel
theorem d7_25 : decode prog_31_method_1_code 25 = .ok (.aload_n 0, 1) := by decide +kernel
theorem d7_26 : decode prog_31_method_1_code 26 = .ok (.iload 5, 2) := by decide +kernel
theorem d7_28 : decode prog_31_method_1_code 28 = .ok (.putfield 23, 3) := by decide +kernel
theorem d7_31 : decode prog_31_method_1_code 31 = .ok (.return_, 1) := by decide +kernel
theorem pf_4 : plainFor (⟨"com/example/stowline/stowline/Der$Value", "<init>", "(I[BIII)V"⟩ : MethodName) = true := by first | exact plainFor_of_name (by first | (simp [plainName, overriddenIn]; done) | decide +kernel) | decide +kernel
theorem ef_7_rmV (m : MethodId) (a1 : Addr) (p1 : Int32) (ba : Addr) (p3 : Int32) (p4 : Int32) (p5 : Int32) (u_tag : Value) (u_bytes : Value) (u_start : Value) (u_contentStart : Value) (u_end : Value)  : entryFrame m #[(.ref a1), (.int p1), (.ref ba), (.int p3), (.int p4), (.int p5)] 6 = mkF m 0 #[.val (.ref a1), .val (.int p1), .val (.ref ba), .val (.int p3), .val (.int p4), .val (.int p5)] [] := by first | (simp [entryFrame, mkF, argsToLocals, Value.category, maxLocals]; done) | rfl
def Q_rmV (Z : State) (a1 : Addr) (p1 : Int32) (ba : Addr) (p3 : Int32) (p4 : Int32) (p5 : Int32) (u_tag : Value) (u_bytes : Value) (u_start : Value) (u_contentStart : Value) (u_end : Value) (h0 : Heap) (n0 : Nat) (v : Option Value) (h : Heap) (L : List Loc) : Prop := v = none ∧ Fr n0 L ∧ Keep h0 h [a1]
set_option maxRecDepth 65536 in
set_option maxHeartbeats 40000000 in
theorem rmV (l : Launch) (Z : State) (a0 : Array Value) (hw : ∀ d ∈ tables_1, d.before a0 Z = true) (ws : List Jvm.Cond) (a1 : Addr) (p1 : Int32) (ba : Addr) (p3 : Int32) (p4 : Int32) (p5 : Int32) (u_tag : Value) (u_bytes : Value) (u_start : Value) (u_contentStart : Value) (u_end : Value) (h0 : Heap) (n0 : Nat) (Z0 : n0 ≤ h0.size) (E1 : Exa Z h0 a1 "com/example/stowline/stowline/Der$Value") (g1 : n0 ≤ a1) (F_tag : Fld Z h0 a1 "com/example/stowline/stowline/Der$Value" "tag" "I" u_tag) (F_bytes : Fld Z h0 a1 "com/example/stowline/stowline/Der$Value" "bytes" "[B" u_bytes) (F_start : Fld Z h0 a1 "com/example/stowline/stowline/Der$Value" "start" "I" u_start) (F_contentStart : Fld Z h0 a1 "com/example/stowline/stowline/Der$Value" "contentStart" "I" u_contentStart) (F_end : Fld Z h0 a1 "com/example/stowline/stowline/Der$Value" "end" "I" u_end) :
    OwnMet l Z (⟨"com/example/stowline/stowline/Der$Value", "<init>", "(I[BIII)V"⟩ : MethodName) prog_31_method_1_code 6 none ws ({ frames := 2, cells := 0, slots := 0, locals := 24 } : Room) #[(.ref a1), (.int p1), (.ref ba), (.int p3), (.int p4), (.int p5)] h0 (Q_rmV Z a1 p1 ba p3 p4 p5 u_tag u_bytes u_start u_contentStart u_end h0 n0) := by
  refine own_body pf_4 ?_
  intro p e s m below meth c s₁ hx hby hml hown hnm hret hlk hZ X0 e0
  have N0 := Fr.nil n0
  refine own_cast (ef_7_rmV m a1 p1 ba p3 p4 p5 u_tag u_bytes u_start u_contentStart u_end ) ?_
  refine g_aload_n X0 hx 1 rfl (hb hby d7_0) rfl rfl ?_
  refine g_callI X0 hx hZ 4 rfl (y := (⟨"java/lang/Record", "<init>", "()V"⟩ : MethodName)) rfl hown (hw _ (List.mem_of_getElem? (i := 50) rfl)) (hw _ (List.mem_of_getElem? (i := 51) rfl)) (hw _ (List.mem_of_getElem? (i := 53) rfl)) (hw _ (List.mem_of_getElem? (i := 54) rfl)) (by decide) a1 [] [] (rmR l Z a0 hw [] a1 h0 n0 Z0 ) e0 (lenOf pd_0 rfl) rfl (by rw [hml]; rfl) (hb hby d7_1) (by decide) 0 (Nat.le_of_eq rfl) (by decide) (by decide) (by decide) ?_
  rintro _ T1 L1 X1 ⟨rfl, N1q, e1⟩
  have N1 := Fr.app N0 N1q
  show Goes p e below (T1.setTop (mkF m 4 #[.val (.ref a1), .val (.int p1), .val (.ref ba), .val (.int p3), .val (.int p4), .val (.int p5)] [])) _
  refine g_aload_n X1 hx 5 rfl (hb hby d7_4) rfl rfl ?_
  refine g_iload_n X1 hx 6 rfl (hb hby d7_5) rfl ?_
  refine g_putF X1 hx hZ 9 rfl hown (hw _ (List.mem_of_getElem? (i := 56) rfl)) e1 F_tag E1 (Or.inr ⟨(hw _ (List.mem_of_getElem? (i := 57) rfl)), rfl, hnm⟩) (hw _ (List.mem_of_getElem? (i := 45) rfl)) (ty := .int) (by decide) rfl rfl (hb hby d7_6) ?_
  intro T2 h2 X2 e2 W2
  have Fw2 := F_tag.same W2
  have N2 := Fr.snoc X2 N1 g1
  refine g_aload_n X2 hx 10 rfl (hb hby d7_9) rfl rfl ?_
  refine g_aload_n X2 hx 11 rfl (hb hby d7_10) rfl rfl ?_
  have Fld3 := (F_bytes.other W2 (Or.inr (slot_ne (Or.inr (hw _ (List.mem_of_getElem? (i := 59) rfl))) (Or.inr (hw _ (List.mem_of_getElem? (i := 57) rfl))) (by decide) (t := .array .byte) (t' := .int) (by decide) (by decide))))
  have Exa4 := (E1.wr W2)
  refine g_putF X2 hx hZ 14 rfl hown (hw _ (List.mem_of_getElem? (i := 58) rfl)) e2 Fld3 Exa4 (Or.inr ⟨(hw _ (List.mem_of_getElem? (i := 59) rfl)), rfl, hnm⟩) (hw _ (List.mem_of_getElem? (i := 45) rfl)) (ty := .array .byte) (by decide) rfl rfl (hb hby d7_11) ?_
  intro T5 h5 X5 e5 W5
  have Fw5 := Fld3.same W5
  have N5 := Fr.snoc X5 N2 g1
  refine g_aload_n X5 hx 15 rfl (hb hby d7_14) rfl rfl ?_
  refine g_iload_n X5 hx 16 rfl (hb hby d7_15) rfl ?_
  have Fld6 := ((F_start.other W2 (Or.inr (slot_ne (Or.inr (hw _ (List.mem_of_getElem? (i := 61) rfl))) (Or.inr (hw _ (List.mem_of_getElem? (i := 57) rfl))) (by decide) (t := .int) (t' := .int) (by decide) (by decide)))).other W5 (Or.inr (slot_ne (Or.inr (hw _ (List.mem_of_getElem? (i := 61) rfl))) (Or.inr (hw _ (List.mem_of_getElem? (i := 59) rfl))) (by decide) (t := .int) (t' := .array .byte) (by decide) (by decide))))
  have Exa7 := (Exa4.wr W5)
  refine g_putF X5 hx hZ 19 rfl hown (hw _ (List.mem_of_getElem? (i := 60) rfl)) e5 Fld6 Exa7 (Or.inr ⟨(hw _ (List.mem_of_getElem? (i := 61) rfl)), rfl, hnm⟩) (hw _ (List.mem_of_getElem? (i := 45) rfl)) (ty := .int) (by decide) rfl rfl (hb hby d7_16) ?_
  intro T8 h8 X8 e8 W8
  have Fw8 := Fld6.same W8
  have N8 := Fr.snoc X8 N5 g1
  refine g_aload_n X8 hx 20 rfl (hb hby d7_19) rfl rfl ?_
  refine g_iload X8 hx 22 rfl (hb hby d7_20) rfl ?_
  have Fld9 := (((F_contentStart.other W2 (Or.inr (slot_ne (Or.inr (hw _ (List.mem_of_getElem? (i := 63) rfl))) (Or.inr (hw _ (List.mem_of_getElem? (i := 57) rfl))) (by decide) (t := .int) (t' := .int) (by decide) (by decide)))).other W5 (Or.inr (slot_ne (Or.inr (hw _ (List.mem_of_getElem? (i := 63) rfl))) (Or.inr (hw _ (List.mem_of_getElem? (i := 59) rfl))) (by decide) (t := .int) (t' := .array .byte) (by decide) (by decide)))).other W8 (Or.inr (slot_ne (Or.inr (hw _ (List.mem_of_getElem? (i := 63) rfl))) (Or.inr (hw _ (List.mem_of_getElem? (i := 61) rfl))) (by decide) (t := .int) (t' := .int) (by decide) (by decide))))
  have Exa10 := (Exa7.wr W8)
  refine g_putF X8 hx hZ 25 rfl hown (hw _ (List.mem_of_getElem? (i := 62) rfl)) e8 Fld9 Exa10 (Or.inr ⟨(hw _ (List.mem_of_getElem? (i := 63) rfl)), rfl, hnm⟩) (hw _ (List.mem_of_getElem? (i := 45) rfl)) (ty := .int) (by decide) rfl rfl (hb hby d7_22) ?_
  intro T11 h11 X11 e11 W11
  have Fw11 := Fld9.same W11
  have N11 := Fr.snoc X11 N8 g1
  refine g_aload_n X11 hx 26 rfl (hb hby d7_25) rfl rfl ?_
  refine g_iload X11 hx 28 rfl (hb hby d7_26) rfl ?_
  have Fld12 := ((((F_end.other W2 (Or.inr (slot_ne (Or.inr (hw _ (List.mem_of_getElem? (i := 65) rfl))) (Or.inr (hw _ (List.mem_of_getElem? (i := 57) rfl))) (by decide) (t := .int) (t' := .int) (by decide) (by decide)))).other W5 (Or.inr (slot_ne (Or.inr (hw _ (List.mem_of_getElem? (i := 65) rfl))) (Or.inr (hw _ (List.mem_of_getElem? (i := 59) rfl))) (by decide) (t := .int) (t' := .array .byte) (by decide) (by decide)))).other W8 (Or.inr (slot_ne (Or.inr (hw _ (List.mem_of_getElem? (i := 65) rfl))) (Or.inr (hw _ (List.mem_of_getElem? (i := 61) rfl))) (by decide) (t := .int) (t' := .int) (by decide) (by decide)))).other W11 (Or.inr (slot_ne (Or.inr (hw _ (List.mem_of_getElem? (i := 65) rfl))) (Or.inr (hw _ (List.mem_of_getElem? (i := 63) rfl))) (by decide) (t := .int) (t' := .int) (by decide) (by decide))))
  have Exa13 := (Exa10.wr W11)
  refine g_putF X11 hx hZ 31 rfl hown (hw _ (List.mem_of_getElem? (i := 64) rfl)) e11 Fld12 Exa13 (Or.inr ⟨(hw _ (List.mem_of_getElem? (i := 65) rfl)), rfl, hnm⟩) (hw _ (List.mem_of_getElem? (i := 45) rfl)) (ty := .int) (by decide) rfl rfl (hb hby d7_28) ?_
  intro T14 h14 X14 e14 W14
  have Fw14 := Fld12.same W14
  have N14 := Fr.snoc X14 N11 g1
  exact g_ret0 X14 hx hret hlk (hb hby d7_31) (by rw [e14]; exact ⟨rfl, N14, ((((((Keep.refl h0 [a1]).wr W2 (Or.inl (List.mem_of_getElem? (i := 0) rfl))).wr W5 (Or.inl (List.mem_of_getElem? (i := 0) rfl))).wr W8 (Or.inl (List.mem_of_getElem? (i := 0) rfl))).wr W11 (Or.inl (List.mem_of_getElem? (i := 0) rfl))).wr W14 (Or.inl (List.mem_of_getElem? (i := 0) rfl)))⟩) (by decide) (by decide)
theorem d6_0 : decode prog_30_method_6_code 0 = .ok (.aload_n 0, 1) := by decide +kernel
theorem d6_1 : decode prog_30_method_6_code 1 = .ok (.getfield 13, 3) := by decide +kernel
theorem d6_4 : decode prog_30_method_6_code 4 = .ok (.istore_n 2, 1) := by decide +kernel
theorem d6_5 : decode prog_30_method_6_code 5 = .ok (.aload_n 0, 1) := by decide +kernel
theorem d6_6 : decode prog_30_method_6_code 6 = .ok (.getfield 7, 3) := by decide +kernel
theorem d6_9 : decode prog_30_method_6_code 9 = .ok (.aload_n 0, 1) := by decide +kernel
theorem d6_10 : decode prog_30_method_6_code 10 = .ok (.getfield 13, 3) := by decide +kernel
theorem d6_13 : decode prog_30_method_6_code 13 = .ok (.baload, 1) := by decide +kernel
theorem d6_14 : decode prog_30_method_6_code 14 = .ok (.sipush 255, 3) := by decide +kernel
theorem d6_17 : decode prog_30_method_6_code 17 = .ok (.iand, 1) := by decide +kernel
theorem d6_18 : decode prog_30_method_6_code 18 = .ok (.istore_n 3, 1) := by decide +kernel
theorem d6_19 : decode prog_30_method_6_code 19 = .ok (.aload_n 0, 1) := by decide +kernel
theorem d6_20 : decode prog_30_method_6_code 20 = .ok (.getfield 13, 3) := by decide +kernel
theorem d6_23 : decode prog_30_method_6_code 23 = .ok (.iconst 1, 1) := by decide +kernel
theorem d6_24 : decode prog_30_method_6_code 24 = .ok (.iadd, 1) := by decide +kernel
theorem d6_25 : decode prog_30_method_6_code 25 = .ok (.istore 4, 2) := by decide +kernel
theorem d6_27 : decode prog_30_method_6_code 27 = .ok (.iload 4, 2) := by decide +kernel
theorem d6_29 : decode prog_30_method_6_code 29 = .ok (.aload_n 0, 1) := by decide +kernel
theorem d6_30 : decode prog_30_method_6_code 30 = .ok (.getfield 17, 3) := by decide +kernel
theorem d6_33 : decode prog_30_method_6_code 33 = .ok (.if_icmp .lt 17, 3) := by decide +kernel
theorem d6_36 : decode prog_30_method_6_code 36 = .ok (.new 31, 3) := by decide +kernel
theorem d6_39 : decode prog_30_method_6_code 39 = .ok (.dup, 1) := by decide +kernel
theorem d6_40 : decode prog_30_method_6_code 40 = .ok (.aload_n 1, 1) := by decide +kernel
theorem d6_41 : decode prog_30_method_6_code 41 = .ok (.invokedynamic 65, 5) := by decide +kernel
theorem d6_46 : decode prog_30_method_6_code 46 = .ok (.invokespecial 42, 3) := by decide +kernel
theorem d6_49 : decode prog_30_method_6_code 49 = .ok (.athrow, 1) := by decide +kernel
theorem d6_50 : decode prog_30_method_6_code 50 = .ok (.aload_n 0, 1) := by decide +kernel
theorem d6_51 : decode prog_30_method_6_code 51 = .ok (.getfield 7, 3) := by decide +kernel
theorem d6_54 : decode prog_30_method_6_code 54 = .ok (.iload 4, 2) := by decide +kernel
theorem d6_56 : decode prog_30_method_6_code 56 = .ok (.iinc 4 1, 3) := by decide +kernel
theorem d6_59 : decode prog_30_method_6_code 59 = .ok (.baload, 1) := by decide +kernel
theorem d6_60 : decode prog_30_method_6_code 60 = .ok (.sipush 255, 3) := by decide +kernel
theorem d6_63 : decode prog_30_method_6_code 63 = .ok (.iand, 1) := by decide +kernel
theorem d6_64 : decode prog_30_method_6_code 64 = .ok (.istore 5, 2) := by decide +kernel
theorem d6_66 : decode prog_30_method_6_code 66 = .ok (.iload 5, 2) := by decide +kernel
theorem d6_68 : decode prog_30_method_6_code 68 = .ok (.sipush 128, 3) := by decide +kernel
theorem d6_71 : decode prog_30_method_6_code 71 = .ok (.if_icmp .ge 11, 3) := by decide +kernel
theorem d6_74 : decode prog_30_method_6_code 74 = .ok (.iload 5, 2) := by decide +kernel
theorem d6_76 : decode prog_30_method_6_code 76 = .ok (.i2l, 1) := by decide +kernel
theorem d6_77 : decode prog_30_method_6_code 77 = .ok (.lstore 6, 2) := by decide +kernel
theorem d6_79 : decode prog_30_method_6_code 79 = .ok (.goto 106, 3) := by decide +kernel
theorem d6_82 : decode prog_30_method_6_code 82 = .ok (.iload 5, 2) := by decide +kernel
theorem d6_84 : decode prog_30_method_6_code 84 = .ok (.sipush 128, 3) := by decide +kernel
theorem d6_87 : decode prog_30_method_6_code 87 = .ok (.if_icmp .ne 17, 3) := by decide +kernel
theorem d6_90 : decode prog_30_method_6_code 90 = .ok (.new 31, 3) := by decide +kernel
theorem d6_93 : decode prog_30_method_6_code 93 = .ok (.dup, 1) := by decide +kernel
theorem d6_94 : decode prog_30_method_6_code 94 = .ok (.aload_n 1, 1) := by decide +kernel
theorem d6_95 : decode prog_30_method_6_code 95 = .ok (.invokedynamic 66, 5) := by decide +kernel
theorem d6_100 : decode prog_30_method_6_code 100 = .ok (.invokespecial 42, 3) := by decide +kernel
theorem d6_103 : decode prog_30_method_6_code 103 = .ok (.athrow, 1) := by decide +kernel
theorem d6_104 : decode prog_30_method_6_code 104 = .ok (.iload 5, 2) := by decide +kernel
theorem d6_106 : decode prog_30_method_6_code 106 = .ok (.bipush 127, 2) := by decide +kernel
theorem d6_108 : decode prog_30_method_6_code 108 = .ok (.iand, 1) := by decide +kernel
theorem d6_109 : decode prog_30_method_6_code 109 = .ok (.istore 8, 2) := by decide +kernel
theorem d6_111 : decode prog_30_method_6_code 111 = .ok (.iload 8, 2) := by decide +kernel
theorem d6_113 : decode prog_30_method_6_code 113 = .ok (.iconst 4, 1) := by decide +kernel
theorem d6_114 : decode prog_30_method_6_code 114 = .ok (.if_icmp .gt 15, 3) := by decide +kernel
theorem d6_117 : decode prog_30_method_6_code 117 = .ok (.iload 4, 2) := by decide +kernel
theorem d6_119 : decode prog_30_method_6_code 119 = .ok (.iload 8, 2) := by decide +kernel
theorem d6_121 : decode prog_30_method_6_code 121 = .ok (.iadd, 1) := by decide +kernel
theorem d6_122 : decode prog_30_method_6_code 122 = .ok (.aload_n 0, 1) := by decide +kernel
theorem d6_123 : decode prog_30_method_6_code 123 = .ok (.getfield 17, 3) := by decide +kernel
theorem d6_126 : decode prog_30_method_6_code 126 = .ok (.if_icmp .le 17, 3) := by decide +kernel
theorem d6_129 : decode prog_30_method_6_code 129 = .ok (.new 31, 3) := by decide +kernel
theorem d6_132 : decode prog_30_method_6_code 132 = .ok (.dup, 1) := by decide +kernel
theorem d6_133 : decode prog_30_method_6_code 133 = .ok (.aload_n 1, 1) := by decide +kernel
theorem d6_134 : decode prog_30_method_6_code 134 = .ok (.invokedynamic 67, 5) := by decide +kernel
theorem d6_139 : decode prog_30_method_6_code 139 = .ok (.invokespecial 42, 3) := by decide +kernel
theorem d6_142 : decode prog_30_method_6_code 142 = .ok (.athrow, 1) := by decide +kernel
theorem d6_143 : decode prog_30_method_6_code 143 = .ok (.lconst 0, 1) := by decide +kernel
theorem d6_144 : decode prog_30_method_6_code 144 = .ok (.lstore 6, 2) := by decide +kernel
theorem d6_146 : decode prog_30_method_6_code 146 = .ok (.iconst 0, 1) := by decide +kernel
theorem d6_147 : decode prog_30_method_6_code 147 = .ok (.istore 9, 2) := by decide +kernel
theorem d6_149 : decode prog_30_method_6_code 149 = .ok (.iload 9, 2) := by decide +kernel
theorem d6_151 : decode prog_30_method_6_code 151 = .ok (.iload 8, 2) := by decide +kernel
theorem d6_153 : decode prog_30_method_6_code 153 = .ok (.if_icmp .ge 32, 3) := by decide +kernel
theorem d6_156 : decode prog_30_method_6_code 156 = .ok (.lload 6, 2) := by decide +kernel
theorem d6_158 : decode prog_30_method_6_code 158 = .ok (.bipush 8, 2) := by decide +kernel
theorem d6_160 : decode prog_30_method_6_code 160 = .ok (.lshl, 1) := by decide +kernel
theorem d6_161 : decode prog_30_method_6_code 161 = .ok (.aload_n 0, 1) := by decide +kernel
theorem d6_162 : decode prog_30_method_6_code 162 = .ok (.getfield 7, 3) := by decide +kernel
theorem d6_165 : decode prog_30_method_6_code 165 = .ok (.iload 4, 2) := by decide +kernel
theorem d6_167 : decode prog_30_method_6_code 167 = .ok (.iinc 4 1, 3) := by decide +kernel
theorem d6_170 : decode prog_30_method_6_code 170 = .ok (.baload, 1) := by decide +kernel
theorem d6_171 : decode prog_30_method_6_code 171 = .ok (.sipush 255, 3) := by decide +kernel
theorem d6_174 : decode prog_30_method_6_code 174 = .ok (.iand, 1) := by decide +kernel
theorem d6_175 : decode prog_30_method_6_code 175 = .ok (.i2l, 1) := by decide +kernel
theorem d6_176 : decode prog_30_method_6_code 176 = .ok (.lor, 1) := by decide +kernel
theorem d6_177 : decode prog_30_method_6_code 177 = .ok (.lstore 6, 2) := by decide +kernel
theorem d6_179 : decode prog_30_method_6_code 179 = .ok (.iinc 9 1, 3) := by decide +kernel
theorem d6_182 : decode prog_30_method_6_code 182 = .ok (.goto (-33), 3) := by decide +kernel
theorem d6_185 : decode prog_30_method_6_code 185 = .ok (.lload 6, 2) := by decide +kernel
theorem d6_187 : decode prog_30_method_6_code 187 = .ok (.aload_n 0, 1) := by decide +kernel
theorem d6_188 : decode prog_30_method_6_code 188 = .ok (.getfield 17, 3) := by decide +kernel
theorem d6_191 : decode prog_30_method_6_code 191 = .ok (.iload 4, 2) := by decide +kernel
theorem d6_193 : decode prog_30_method_6_code 193 = .ok (.isub, 1) := by decide +kernel
theorem d6_194 : decode prog_30_method_6_code 194 = .ok (.i2l, 1) := by decide +kernel
theorem d6_195 : decode prog_30_method_6_code 195 = .ok (.lcmp, 1) := by decide +kernel
theorem d6_196 : decode prog_30_method_6_code 196 = .ok (.ifCond .le 17, 3) := by decide +kernel
theorem d6_199 : decode prog_30_method_6_code 199 = .ok (.new 31, 3) := by decide +kernel
theorem d6_202 : decode prog_30_method_6_code 202 = .ok (.dup, 1) := by decide +kernel
theorem d6_203 : decode prog_30_method_6_code 203 = .ok (.aload_n 1, 1) := by decide +kernel
theorem d6_204 : decode prog_30_method_6_code 204 = .ok (.invokedynamic 68, 5) := by decide +kernel
theorem d6_209 : decode prog_30_method_6_code 209 = .ok (.invokespecial 42, 3) := by decide +kernel
theorem d6_212 : decode prog_30_method_6_code 212 = .ok (.athrow, 1) := by decide +kernel
theorem d6_213 : decode prog_30_method_6_code 213 = .ok (.aload_n 0, 1) := by decide +kernel
theorem d6_214 : decode prog_30_method_6_code 214 = .ok (.iload 4, 2) := by decide +kernel
theorem d6_216 : decode prog_30_method_6_code 216 = .ok (.lload 6, 2) := by decide +kernel
theorem d6_218 : decode prog_30_method_6_code 218 = .ok (.l2i, 1) := by decide +kernel
theorem d6_219 : decode prog_30_method_6_code 219 = .ok (.iadd, 1) := by decide +kernel
theorem d6_220 : decode prog_30_method_6_code 220 = .ok (.putfield 13, 3) := by decide +kernel
theorem d6_223 : decode prog_30_method_6_code 223 = .ok (.new 34, 3) := by decide +kernel
theorem d6_226 : decode prog_30_method_6_code 226 = .ok (.dup, 1) := by decide +kernel
theorem d6_227 : decode prog_30_method_6_code 227 = .ok (.iload_n 3, 1) := by decide +kernel
theorem d6_228 : decode prog_30_method_6_code 228 = .ok (.aload_n 0, 1) := by decide +kernel
theorem d6_229 : decode prog_30_method_6_code 229 = .ok (.getfield 7, 3) := by decide +kernel
theorem d6_232 : decode prog_30_method_6_code 232 = .ok (.iload_n 2, 1) := by decide +kernel
theorem d6_233 : decode prog_30_method_6_code 233 = .ok (.iload 4, 2) := by decide +kernel
theorem d6_235 : decode prog_30_method_6_code 235 = .ok (.aload_n 0, 1) := by decide +kernel
theorem d6_236 : decode prog_30_method_6_code 236 = .ok (.getfield 13, 3) := by decide +kernel
theorem d6_239 : decode prog_30_method_6_code 239 = .ok (.invokespecial 69, 3) := by decide +kernel
theorem d6_242 : decode prog_30_method_6_code 242 = .ok (.areturn, 1) := by decide +kernel
theorem pf_5 : plainFor (⟨"com/example/stowline/stowline/Der", "next", "(Ljava/lang/String;)Lcom/example/stowline/stowline/Der$Value;"⟩ : MethodName) = true := by first | exact plainFor_of_name (by first | (simp [plainName, overriddenIn]; done) | decide +kernel) | decide +kernel
theorem pd_2 : parseMethodDescriptor "(I[BIII)V" = some ⟨[.int, .array .byte, .int, .int, .int], none⟩ := by decide +kernel
theorem ef_6_rmN2 (m : MethodId) (a1 : Addr) (ba : Addr) (sx : Addr) (p3 : Int32) (x : Int32) (y : Int32) (n : Int32) (vs : List Value)  : entryFrame m #[(.ref a1), (.ref sx)] 10 = mkF m 0 #[.val (.ref a1), .val (.ref sx), .unset, .unset, .unset, .unset, .unset, .unset, .unset, .unset] [] := by first | (simp [entryFrame, mkF, argsToLocals, Value.category, maxLocals]; done) | rfl
def Q_rmN2 (Z : State) (a1 : Addr) (ba : Addr) (sx : Addr) (p3 : Int32) (x : Int32) (y : Int32) (n : Int32) (vs : List Value) (h0 : Heap) (n0 : Nat) (v : Option Value) (h : Heap) (L : List Loc) : Prop := ∃ b, v = some (.ref b) ∧ Fr n0 L ∧ Keep h0 h [a1] ∧ Exa Z h a1 "com/example/stowline/stowline/Der" ∧ Fld Z h a1 "com/example/stowline/stowline/Der" "position" "I" (.int ((2 : Int32) + n)) ∧ Fld Z h a1 "com/example/stowline/stowline/Der" "end" "I" (.int p3)
set_option maxRecDepth 65536 in
set_option maxHeartbeats 40000000 in
theorem rmN2 (l : Launch) (Z : State) (a0 : Array Value) (hw : ∀ d ∈ tables_1, d.before a0 Z = true) (ws : List Jvm.Cond) (a1 : Addr) (ba : Addr) (sx : Addr) (p3 : Int32) (x : Int32) (y : Int32) (n : Int32) (vs : List Value) (h0 : Heap) (n0 : Nat) (Z0 : n0 ≤ h0.size) (Fb : Fld Z h0 a1 "com/example/stowline/stowline/Der" "bytes" "[B" (.ref ba)) (Fp : Fld Z h0 a1 "com/example/stowline/stowline/Der" "position" "I" (.int (0 : Int32))) (Fe : Fld Z h0 a1 "com/example/stowline/stowline/Der" "end" "I" (.int p3)) (E1 : Exa Z h0 a1 "com/example/stowline/stowline/Der") (Ab : Al Z h0 ba .byte vs) (hv0 : vs[0]? = some (.int x)) (hv1 : vs[1]? = some (.int y)) (hyn : y &&& (255 : Int32) = n) (hn0 : 0 ≤ n.toInt ∧ n.toInt < 128) (hend : n.toInt + 2 ≤ p3.toInt) (hend2 : p3.toInt ≤ 100) (g1 : n0 ≤ a1) (nba : ba ≠ a1) :
    OwnMet l Z (⟨"com/example/stowline/stowline/Der", "next", "(Ljava/lang/String;)Lcom/example/stowline/stowline/Der$Value;"⟩ : MethodName) prog_30_method_6_code 10 (some (.object "com/example/stowline/stowline/Der$Value")) ws ({ frames := 3, cells := 1, slots := 5, locals := 42 } : Room) #[(.ref a1), (.ref sx)] h0 (Q_rmN2 Z a1 ba sx p3 x y n vs h0 n0) := by
  refine own_body pf_5 ?_
  intro p e s m below meth c s₁ hx hby hml hown hnm hret hlk hZ X0 e0
  have N0 := Fr.nil n0
  refine own_cast (ef_6_rmN2 m a1 ba sx p3 x y n vs ) ?_
  refine g_aload_n X0 hx 1 rfl (hb hby d6_0) rfl rfl ?_
  refine g_getF X0 hx hZ 4 rfl hown (hw _ (List.mem_of_getElem? (i := 12) rfl)) e0 Fp (hb hby d6_1) ?_
  intro T1 X1 e1
  refine g_istore_n X1 hx 5 rfl (hb hby d6_4) #[.val (.ref a1), .val (.ref sx), .val (.int (0 : Int32)), .unset, .unset, .unset, .unset, .unset, .unset, .unset] rfl ?_
  refine g_aload_n X1 hx 6 rfl (hb hby d6_5) rfl rfl ?_
  refine g_getF X1 hx hZ 9 rfl hown (hw _ (List.mem_of_getElem? (i := 10) rfl)) e1 Fb (hb hby d6_6) ?_
  intro T2 X2 e2
  refine g_aload_n X2 hx 10 rfl (hb hby d6_9) rfl rfl ?_
  refine g_getF X2 hx hZ 13 rfl hown (hw _ (List.mem_of_getElem? (i := 12) rfl)) e2 Fp (hb hby d6_10) ?_
  intro T3 X3 e3
  refine g_baload X3 hx hZ 14 rfl (hb hby d6_13) e3 Ab 0 rfl (.int x) hv0 ?_
  refine g_sipush X3 hx 17 rfl (255 : Int32) rfl (hb hby d6_14) ?_
  refine g_iand X3 hx 18 rfl (hb hby d6_17) ?_
  refine g_istore_n X3 hx 19 rfl (hb hby d6_18) #[.val (.ref a1), .val (.ref sx), .val (.int (0 : Int32)), .val (.int (x &&& (255 : Int32))), .unset, .unset, .unset, .unset, .unset, .unset] rfl ?_
  refine g_aload_n X3 hx 20 rfl (hb hby d6_19) rfl rfl ?_
  refine g_getF X3 hx hZ 23 rfl hown (hw _ (List.mem_of_getElem? (i := 12) rfl)) e3 Fp (hb hby d6_20) ?_
  intro T4 X4 e4
  refine g_iconst X4 hx 24 rfl (1 : Int32) rfl (hb hby d6_23) ?_
  refine g_iadd X4 hx 25 rfl (hb hby d6_24) ?_
  show Goes p e below (T4.setTop (mkF m 25 #[.val (.ref a1), .val (.ref sx), .val (.int (0 : Int32)), .val (.int (x &&& (255 : Int32))), .unset, .unset, .unset, .unset, .unset, .unset] [.int (1 : Int32)])) _
  refine g_istore X4 hx 27 rfl (hb hby d6_25) #[.val (.ref a1), .val (.ref sx), .val (.int (0 : Int32)), .val (.int (x &&& (255 : Int32))), .val (.int (1 : Int32)), .unset, .unset, .unset, .unset, .unset] rfl ?_
  refine g_iload X4 hx 29 rfl (hb hby d6_27) rfl ?_
  refine g_aload_n X4 hx 30 rfl (hb hby d6_29) rfl rfl ?_
  refine g_getF X4 hx hZ 33 rfl hown (hw _ (List.mem_of_getElem? (i := 14) rfl)) e4 Fe (hb hby d6_30) ?_
  intro T5 X5 e5
  have e1 : (1 : Int32).toInt = 1 := rfl
  have e128 : (128 : Int32).toInt = 128 := rfl
  refine g_icmpY X5 hx 50 (hb hby d6_33) (XT.ii_lt_t (by rw [Int32.lt_iff_toInt_lt]; omega)) (by decide) (by decide) ?_
  refine g_aload_n X5 hx 51 rfl (hb hby d6_50) rfl rfl ?_
  refine g_getF X5 hx hZ 54 rfl hown (hw _ (List.mem_of_getElem? (i := 10) rfl)) e5 Fb (hb hby d6_51) ?_
  intro T6 X6 e6
  refine g_iload X6 hx 56 rfl (hb hby d6_54) rfl ?_
  refine g_iinc X6 hx 59 rfl (hb hby d6_56) (2 : Int32) rfl rfl #[.val (.ref a1), .val (.ref sx), .val (.int (0 : Int32)), .val (.int (x &&& (255 : Int32))), .val (.int (2 : Int32)), .unset, .unset, .unset, .unset, .unset] rfl ?_
  refine g_baload X6 hx hZ 60 rfl (hb hby d6_59) e6 Ab 1 rfl (.int y) hv1 ?_
  refine g_sipush X6 hx 63 rfl (255 : Int32) rfl (hb hby d6_60) ?_
  refine g_iand X6 hx 64 rfl (hb hby d6_63) ?_
  rw [hyn]
  refine g_istore X6 hx 66 rfl (hb hby d6_64) #[.val (.ref a1), .val (.ref sx), .val (.int (0 : Int32)), .val (.int (x &&& (255 : Int32))), .val (.int (2 : Int32)), .val (.int n), .unset, .unset, .unset, .unset] rfl ?_
  refine g_iload X6 hx 68 rfl (hb hby d6_66) rfl ?_
  refine g_sipush X6 hx 71 rfl (128 : Int32) rfl (hb hby d6_68) ?_
  refine g_icmpN X6 hx 74 rfl (hb hby d6_71) (XT.ii_ge_f (by rw [Int32.lt_iff_toInt_lt]; omega)) ?_
  refine g_iload X6 hx 76 rfl (hb hby d6_74) rfl ?_
  refine g_i2l X6 hx 77 rfl (hb hby d6_76) ?_
  refine g_lstore X6 hx 79 rfl (hb hby d6_77) #[.val (.ref a1), .val (.ref sx), .val (.int (0 : Int32)), .val (.int (x &&& (255 : Int32))), .val (.int (2 : Int32)), .val (.int n), .val (.long n.toInt64), .second, .unset, .unset] rfl ?_
  refine g_goto X6 hx 185 (hb hby d6_79) (by decide) (by decide) ?_
  refine g_lload X6 hx 187 rfl (hb hby d6_185) rfl ?_
  refine g_aload_n X6 hx 188 rfl (hb hby d6_187) rfl rfl ?_
  refine g_getF X6 hx hZ 191 rfl hown (hw _ (List.mem_of_getElem? (i := 14) rfl)) e6 Fe (hb hby d6_188) ?_
  intro T7 X7 e7
  refine g_iload X7 hx 193 rfl (hb hby d6_191) rfl ?_
  refine g_isub X7 hx 194 rfl (hb hby d6_193) ?_
  refine g_i2l X7 hx 195 rfl (hb hby d6_194) ?_
  refine g_lcmp X7 hx 196 rfl (hb hby d6_195) ?_
  refine g_ifY X7 hx 213 (hb hby d6_196) (XT.ll_le_t (by
      have h1 := c_isub p3 2
      have h2 := rng32 (p3 - 2)
      have h3 : (2 : Int32).toInt = 2 := rfl
      rw [Int64.lt_iff_toInt_lt, Int32.toInt_toInt64, Int32.toInt_toInt64]
      omega)) (by decide) (by decide) ?_
  refine g_aload_n X7 hx 214 rfl (hb hby d6_213) rfl rfl ?_
  refine g_iload X7 hx 216 rfl (hb hby d6_214) rfl ?_
  refine g_lload X7 hx 218 rfl (hb hby d6_216) rfl ?_
  refine g_l2i X7 hx 219 rfl (hb hby d6_218) ?_
  rw [own_i2l2i]
  refine g_iadd X7 hx 220 rfl (hb hby d6_219) ?_
  refine g_putF X7 hx hZ 223 rfl hown (hw _ (List.mem_of_getElem? (i := 12) rfl)) e7 Fp E1 (Or.inl (hw _ (List.mem_of_getElem? (i := 13) rfl))) (hw _ (List.mem_of_getElem? (i := 2) rfl)) (ty := .int) (by decide) rfl rfl (hb hby d6_220) ?_
  intro T8 h8 X8 e8 W8
  have Fw8 := Fp.same W8
  have N8 := Fr.snoc X8 N0 g1
  refine g_new X8 hx hZ 226 rfl hown (hw _ (List.mem_of_getElem? (i := 44) rfl)) (hw _ (List.mem_of_getElem? (i := 45) rfl)) (hw _ (List.mem_of_getElem? (i := 46) rfl)) e8 (hb hby d6_223) (by decide) (by decide) ?_
  intro T9 h9 o9 g9 X9 e9 E9 A9 D9
  have Fld10 := (Fb.other W8 (Or.inr (slot_ne (Or.inr (hw _ (List.mem_of_getElem? (i := 11) rfl))) (Or.inl (hw _ (List.mem_of_getElem? (i := 13) rfl))) (by decide) (t := .array .byte) (t' := .int) (by decide) (by decide))))
  have ne_a1_o9 : a1 ≠ o9 := Nat.ne_of_lt (Nat.lt_of_lt_of_eq Fld10.lt g9.symm)
  have Al11 := (Ab.other W8 nba)
  have ne_ba_o9 : ba ≠ o9 := Nat.ne_of_lt (Nat.lt_of_lt_of_eq Al11.lt g9.symm)
  have Zl12 : n0 ≤ h8.size := (Nat.le_trans Z0 (Nat.le_of_eq W8.size.symm))
  have ge_o9 : n0 ≤ o9 := Nat.le_trans Zl12 (Nat.le_of_eq g9.symm)
  have hz_o9 : h0.size ≤ o9 := Nat.le_trans ((Keep.refl h0 [a1]).wr W8 (Or.inl (List.mem_of_getElem? (i := 0) rfl))).1 (Nat.le_of_eq g9.symm)
  refine g_dup X9 hx 227 rfl (hb hby d6_226) rfl ?_
  refine g_iload_n X9 hx 228 rfl (hb hby d6_227) rfl ?_
  refine g_aload_n X9 hx 229 rfl (hb hby d6_228) rfl rfl ?_
  have Fld13 := (Fld10.ext E9)
  refine g_getF X9 hx hZ 232 rfl hown (hw _ (List.mem_of_getElem? (i := 10) rfl)) e9 Fld13 (hb hby d6_229) ?_
  intro T14 X14 e14
  refine g_iload_n X14 hx 233 rfl (hb hby d6_232) rfl ?_
  refine g_iload X14 hx 235 rfl (hb hby d6_233) rfl ?_
  refine g_aload_n X14 hx 236 rfl (hb hby d6_235) rfl rfl ?_
  have Fld15 := (Fw8.ext E9)
  refine g_getF X14 hx hZ 239 rfl hown (hw _ (List.mem_of_getElem? (i := 12) rfl)) e14 Fld15 (hb hby d6_236) ?_
  intro T16 X16 e16
  have Zl18 : n0 ≤ h9.size := (Nat.le_trans Zl12 E9.1)
  refine g_callI X16 hx hZ 242 rfl (y := (⟨"com/example/stowline/stowline/Der$Value", "<init>", "(I[BIII)V"⟩ : MethodName)) rfl hown (hw _ (List.mem_of_getElem? (i := 47) rfl)) (hw _ (List.mem_of_getElem? (i := 48) rfl)) (hw _ (List.mem_of_getElem? (i := 46) rfl)) (hw _ (List.mem_of_getElem? (i := 49) rfl)) (by decide) o9 [.int (x &&& (255 : Int32)), .ref ba, .int (0 : Int32), .int (2 : Int32), .int ((2 : Int32) + n)] [.ref o9] (rmV l Z a0 hw [] o9 (x &&& (255 : Int32)) ba (0 : Int32) (2 : Int32) ((2 : Int32) + n) _ _ _ _ _ h9 n0 Zl18 A9 ge_o9 (D9 (Or.inr (hw _ (List.mem_of_getElem? (i := 57) rfl))) (ty := .int) (by decide)) (D9 (Or.inr (hw _ (List.mem_of_getElem? (i := 59) rfl))) (ty := .array .byte) (by decide)) (D9 (Or.inr (hw _ (List.mem_of_getElem? (i := 61) rfl))) (ty := .int) (by decide)) (D9 (Or.inr (hw _ (List.mem_of_getElem? (i := 63) rfl))) (ty := .int) (by decide)) (D9 (Or.inr (hw _ (List.mem_of_getElem? (i := 65) rfl))) (ty := .int) (by decide))) e16 (lenOf pd_2 rfl) rfl (by rw [hml]; rfl) (hb hby d6_239) (by decide) 1 (Nat.le_of_eq rfl) (by decide) (by decide) (by decide) ?_
  rintro _ T17 L17 X17 ⟨rfl, N17q, K17⟩
  have N17 := Fr.app N8 N17q
  show Goes p e below (T17.setTop (mkF m 242 #[.val (.ref a1), .val (.ref sx), .val (.int (0 : Int32)), .val (.int (x &&& (255 : Int32))), .val (.int (2 : Int32)), .val (.int n), .val (.long n.toInt64), .second, .unset, .unset] [.ref o9])) _
  have Exa19 := (((E1.wr W8).ext E9).keep K17)
  have Fld20 := (Fld15.keep K17 (ninS ne_a1_o9 nin0))
  have Fld21 := (((Fe.other W8 (Or.inr (slot_ne (Or.inr (hw _ (List.mem_of_getElem? (i := 15) rfl))) (Or.inl (hw _ (List.mem_of_getElem? (i := 13) rfl))) (by decide) (t := .int) (t' := .int) (by decide) (by decide)))).ext E9).keep K17 (ninS ne_a1_o9 nin0))
  exact g_retA X17 hx hret hlk rfl rfl rfl (hb hby d6_242) ⟨o9, rfl, N17, ((((Keep.refl h0 [a1]).wr W8 (Or.inl (List.mem_of_getElem? (i := 0) rfl))).ext E9).trans K17 (allS (Or.inr hz_o9) all0)), Exa19, Fld20, Fld21⟩ (by decide) (by decide)
theorem d5_0 : decode prog_30_method_4_code 0 = .ok (.aload_n 0, 1) := by decide +kernel
theorem d5_1 : decode prog_30_method_4_code 1 = .ok (.invokevirtual 27, 3) := by decide +kernel
theorem d5_4 : decode prog_30_method_4_code 4 = .ok (.ifCond .ne 17, 3) := by decide +kernel
theorem d5_7 : decode prog_30_method_4_code 7 = .ok (.new 31, 3) := by decide +kernel
theorem d5_10 : decode prog_30_method_4_code 10 = .ok (.dup, 1) := by decide +kernel
theorem d5_11 : decode prog_30_method_4_code 11 = .ok (.aload_n 2, 1) := by decide +kernel
theorem d5_12 : decode prog_30_method_4_code 12 = .ok (.invokedynamic 45, 5) := by decide +kernel
theorem d5_17 : decode prog_30_method_4_code 17 = .ok (.invokespecial 42, 3) := by decide +kernel
theorem d5_20 : decode prog_30_method_4_code 20 = .ok (.athrow, 1) := by decide +kernel
theorem d5_21 : decode prog_30_method_4_code 21 = .ok (.aload_n 0, 1) := by decide +kernel
theorem d5_22 : decode prog_30_method_4_code 22 = .ok (.getfield 7, 3) := by decide +kernel
theorem d5_25 : decode prog_30_method_4_code 25 = .ok (.aload_n 0, 1) := by decide +kernel
theorem d5_26 : decode prog_30_method_4_code 26 = .ok (.getfield 13, 3) := by decide +kernel
theorem d5_29 : decode prog_30_method_4_code 29 = .ok (.baload, 1) := by decide +kernel
theorem d5_30 : decode prog_30_method_4_code 30 = .ok (.sipush 255, 3) := by decide +kernel
theorem d5_33 : decode prog_30_method_4_code 33 = .ok (.iand, 1) := by decide +kernel
theorem d5_34 : decode prog_30_method_4_code 34 = .ok (.istore_n 3, 1) := by decide +kernel
theorem d5_35 : decode prog_30_method_4_code 35 = .ok (.iload_n 3, 1) := by decide +kernel
theorem d5_36 : decode prog_30_method_4_code 36 = .ok (.iload_n 1, 1) := by decide +kernel
theorem d5_37 : decode prog_30_method_4_code 37 = .ok (.if_icmp .eq 38, 3) := by decide +kernel
theorem d5_40 : decode prog_30_method_4_code 40 = .ok (.new 31, 3) := by decide +kernel
theorem d5_43 : decode prog_30_method_4_code 43 = .ok (.dup, 1) := by decide +kernel
theorem d5_44 : decode prog_30_method_4_code 44 = .ok (.ldc 48, 2) := by decide +kernel
theorem d5_46 : decode prog_30_method_4_code 46 = .ok (.iconst 3, 1) := by decide +kernel
theorem d5_47 : decode prog_30_method_4_code 47 = .ok (.anewarray 2, 3) := by decide +kernel
theorem d5_50 : decode prog_30_method_4_code 50 = .ok (.dup, 1) := by decide +kernel
theorem d5_51 : decode prog_30_method_4_code 51 = .ok (.iconst 0, 1) := by decide +kernel
theorem d5_52 : decode prog_30_method_4_code 52 = .ok (.iload_n 3, 1) := by decide +kernel
theorem d5_53 : decode prog_30_method_4_code 53 = .ok (.invokestatic 50, 3) := by decide +kernel
theorem d5_56 : decode prog_30_method_4_code 56 = .ok (.aastore, 1) := by decide +kernel
theorem d5_57 : decode prog_30_method_4_code 57 = .ok (.dup, 1) := by decide +kernel
theorem d5_58 : decode prog_30_method_4_code 58 = .ok (.iconst 1, 1) := by decide +kernel
theorem d5_59 : decode prog_30_method_4_code 59 = .ok (.aload_n 2, 1) := by decide +kernel
theorem d5_60 : decode prog_30_method_4_code 60 = .ok (.aastore, 1) := by decide +kernel
theorem d5_61 : decode prog_30_method_4_code 61 = .ok (.dup, 1) := by decide +kernel
theorem d5_62 : decode prog_30_method_4_code 62 = .ok (.iconst 2, 1) := by decide +kernel
theorem d5_63 : decode prog_30_method_4_code 63 = .ok (.iload_n 1, 1) := by decide +kernel
theorem d5_64 : decode prog_30_method_4_code 64 = .ok (.invokestatic 50, 3) := by decide +kernel
theorem d5_67 : decode prog_30_method_4_code 67 = .ok (.aastore, 1) := by decide +kernel
theorem d5_68 : decode prog_30_method_4_code 68 = .ok (.invokestatic 56, 3) := by decide +kernel
theorem d5_71 : decode prog_30_method_4_code 71 = .ok (.invokespecial 42, 3) := by decide +kernel
theorem d5_74 : decode prog_30_method_4_code 74 = .ok (.athrow, 1) := by decide +kernel
theorem d5_75 : decode prog_30_method_4_code 75 = .ok (.aload_n 0, 1) := by decide +kernel
theorem d5_76 : decode prog_30_method_4_code 76 = .ok (.aload_n 2, 1) := by decide +kernel
theorem d5_77 : decode prog_30_method_4_code 77 = .ok (.invokevirtual 62, 3) := by decide +kernel
theorem d5_80 : decode prog_30_method_4_code 80 = .ok (.areturn, 1) := by decide +kernel
theorem pf_6 : plainFor (⟨"com/example/stowline/stowline/Der", "next", "(ILjava/lang/String;)Lcom/example/stowline/stowline/Der$Value;"⟩ : MethodName) = true := by first | exact plainFor_of_name (by first | (simp [plainName, overriddenIn]; done) | decide +kernel) | decide +kernel
theorem pd_3 : parseMethodDescriptor "(Ljava/lang/String;)Lcom/example/stowline/stowline/Der$Value;" = some ⟨[.object "java/lang/String"], some (.object "com/example/stowline/stowline/Der$Value")⟩ := by decide +kernel
theorem ef_5_rmN1 (m : MethodId) (a1 : Addr) (ba : Addr) (sx : Addr) (p3 : Int32) (x : Int32) (y : Int32) (n : Int32) (vs : List Value)  : entryFrame m #[(.ref a1), (.int (x &&& (255 : Int32))), (.ref sx)] 4 = mkF m 0 #[.val (.ref a1), .val (.int (x &&& (255 : Int32))), .val (.ref sx), .unset] [] := by first | (simp [entryFrame, mkF, argsToLocals, Value.category, maxLocals]; done) | rfl
def Q_rmN1 (Z : State) (a1 : Addr) (ba : Addr) (sx : Addr) (p3 : Int32) (x : Int32) (y : Int32) (n : Int32) (vs : List Value) (h0 : Heap) (n0 : Nat) (v : Option Value) (h : Heap) (L : List Loc) : Prop := ∃ b, v = some (.ref b) ∧ Fr n0 L ∧ Keep h0 h [a1] ∧ Exa Z h a1 "com/example/stowline/stowline/Der" ∧ Fld Z h a1 "com/example/stowline/stowline/Der" "position" "I" (.int ((2 : Int32) + n)) ∧ Fld Z h a1 "com/example/stowline/stowline/Der" "end" "I" (.int p3)
set_option maxRecDepth 65536 in
set_option maxHeartbeats 40000000 in
theorem rmN1 (l : Launch) (Z : State) (a0 : Array Value) (hw : ∀ d ∈ tables_1, d.before a0 Z = true) (ws : List Jvm.Cond) (a1 : Addr) (ba : Addr) (sx : Addr) (p3 : Int32) (x : Int32) (y : Int32) (n : Int32) (vs : List Value) (h0 : Heap) (n0 : Nat) (Z0 : n0 ≤ h0.size) (Fb : Fld Z h0 a1 "com/example/stowline/stowline/Der" "bytes" "[B" (.ref ba)) (Fp : Fld Z h0 a1 "com/example/stowline/stowline/Der" "position" "I" (.int (0 : Int32))) (Fe : Fld Z h0 a1 "com/example/stowline/stowline/Der" "end" "I" (.int p3)) (E1 : Exa Z h0 a1 "com/example/stowline/stowline/Der") (Ab : Al Z h0 ba .byte vs) (hv0 : vs[0]? = some (.int x)) (hv1 : vs[1]? = some (.int y)) (hyn : y &&& (255 : Int32) = n) (hn0 : 0 ≤ n.toInt ∧ n.toInt < 128) (hend : n.toInt + 2 ≤ p3.toInt) (hend2 : p3.toInt ≤ 100) (g1 : n0 ≤ a1) (nba : ba ≠ a1) :
    OwnMet l Z (⟨"com/example/stowline/stowline/Der", "next", "(ILjava/lang/String;)Lcom/example/stowline/stowline/Der$Value;"⟩ : MethodName) prog_30_method_4_code 4 (some (.object "com/example/stowline/stowline/Der$Value")) ws ({ frames := 4, cells := 1, slots := 5, locals := 63 } : Room) #[(.ref a1), (.int (x &&& (255 : Int32))), (.ref sx)] h0 (Q_rmN1 Z a1 ba sx p3 x y n vs h0 n0) := by
  refine own_body pf_6 ?_
  intro p e s m below meth c s₁ hx hby hml hown hnm hret hlk hZ X0 e0
  have N0 := Fr.nil n0
  refine own_cast (ef_5_rmN1 m a1 ba sx p3 x y n vs ) ?_
  refine g_aload_n X0 hx 1 rfl (hb hby d5_0) rfl rfl ?_
  refine g_callV X0 hx hZ 4 rfl (y := (⟨"com/example/stowline/stowline/Der", "hasNext", "()Z"⟩ : MethodName)) hown (hw _ (List.mem_of_getElem? (i := 27) rfl)) (hw _ (List.mem_of_getElem? (i := 17) rfl)) (hw _ (List.mem_of_getElem? (i := 19) rfl)) (hw _ (List.mem_of_getElem? (i := 18) rfl)) (hw _ (List.mem_of_getElem? (i := 3) rfl)) (hw _ (List.mem_of_getElem? (i := 20) rfl)) (by decide) a1 [] [] (rmH l Z a0 hw [] a1 (0 : Int32) p3 h0 n0 Z0 Fp Fe) e0 E1 (lenOf pd_1 rfl) rfl (by rw [hml]; rfl) (hb hby d5_1) (by decide) 0 (Nat.le_of_eq rfl) (by decide) (by decide) (by decide) ?_
  rintro _ T1 L1 X1 ⟨rfl, N1q, e1⟩
  have N1 := Fr.app N0 N1q
  show Goes p e below (T1.setTop (mkF m 4 #[.val (.ref a1), .val (.int (x &&& (255 : Int32))), .val (.ref sx), .unset] [.int (b2i (decide ((0 : Int32) < p3)))])) _
  have e0 : (0 : Int32).toInt = 0 := rfl
  refine g_ifY X1 hx 21 (hb hby d5_4) (bb_ne_t (decide_eq_true (by rw [Int32.lt_iff_toInt_lt]; omega))) (by decide) (by decide) ?_
  refine g_aload_n X1 hx 22 rfl (hb hby d5_21) rfl rfl ?_
  refine g_getF X1 hx hZ 25 rfl hown (hw _ (List.mem_of_getElem? (i := 10) rfl)) e1 Fb (hb hby d5_22) ?_
  intro T2 X2 e2
  refine g_aload_n X2 hx 26 rfl (hb hby d5_25) rfl rfl ?_
  refine g_getF X2 hx hZ 29 rfl hown (hw _ (List.mem_of_getElem? (i := 12) rfl)) e2 Fp (hb hby d5_26) ?_
  intro T3 X3 e3
  refine g_baload X3 hx hZ 30 rfl (hb hby d5_29) e3 Ab 0 rfl (.int x) hv0 ?_
  refine g_sipush X3 hx 33 rfl (255 : Int32) rfl (hb hby d5_30) ?_
  refine g_iand X3 hx 34 rfl (hb hby d5_33) ?_
  refine g_istore_n X3 hx 35 rfl (hb hby d5_34) #[.val (.ref a1), .val (.int (x &&& (255 : Int32))), .val (.ref sx), .val (.int (x &&& (255 : Int32)))] rfl ?_
  refine g_iload_n X3 hx 36 rfl (hb hby d5_35) rfl ?_
  refine g_iload_n X3 hx 37 rfl (hb hby d5_36) rfl ?_
  refine g_icmpY X3 hx 75 (hb hby d5_37) (XT.ii_eq_t rfl) (by decide) (by decide) ?_
  refine g_aload_n X3 hx 76 rfl (hb hby d5_75) rfl rfl ?_
  refine g_aload_n X3 hx 77 rfl (hb hby d5_76) rfl rfl ?_
  refine g_callP X3 hx hZ 80 rfl (y := (⟨"com/example/stowline/stowline/Der", "next", "(Ljava/lang/String;)Lcom/example/stowline/stowline/Der$Value;"⟩ : MethodName)) hown (hw _ (List.mem_of_getElem? (i := 40) rfl)) (hw _ (List.mem_of_getElem? (i := 41) rfl)) (hw _ (List.mem_of_getElem? (i := 42) rfl)) (hw _ (List.mem_of_getElem? (i := 2) rfl)) (hw _ (List.mem_of_getElem? (i := 3) rfl)) (hw _ (List.mem_of_getElem? (i := 43) rfl)) (by decide) a1 [.ref sx] [] (rmN2 l Z a0 hw [] a1 ba sx p3 x y n vs h0 n0 Z0 Fb Fp Fe E1 Ab hv0 hv1 hyn hn0 hend hend2 g1 nba) e3 E1 (lenOf pd_3 rfl) rfl (by rw [hml]; rfl) (hb hby d5_77) (by decide) 0 (Nat.le_of_eq rfl) (by decide) (by decide) (by decide) ?_
  rintro _ T4 L4 X4 ⟨b4, rfl, N4q, K4, E4, P4, D4⟩
  have N4 := Fr.app N1 N4q
  show Goes p e below (T4.setTop (mkF m 80 #[.val (.ref a1), .val (.int (x &&& (255 : Int32))), .val (.ref sx), .val (.int (x &&& (255 : Int32)))] [.ref b4])) _
  exact g_retA X4 hx hret hlk rfl rfl rfl (hb hby d5_80) ⟨_, rfl, N4, ((Keep.refl h0 [a1]).trans K4 (allS (Or.inl (List.mem_of_getElem? (i := 0) rfl)) all0)), E4, P4, D4⟩ (by decide) (by decide)
theorem pf_7 : plainFor (⟨"com/example/stowline/stowline/DerHasNextPinLaw", "law", "(IIIII)Z"⟩ : MethodName) = true := by first | exact plainFor_of_name (by first | (simp [plainName, overriddenIn]; done) | decide +kernel) | decide +kernel
theorem pd_4 : parseMethodDescriptor "([BII)V" = some ⟨[.array .byte, .int, .int], none⟩ := by decide +kernel
theorem pd_5 : parseMethodDescriptor "()I" = some ⟨[], some .int⟩ := by decide +kernel
theorem pd_6 : parseMethodDescriptor "(ILjava/lang/String;)Lcom/example/stowline/stowline/Der$Value;" = some ⟨[.int, .object "java/lang/String"], some (.object "com/example/stowline/stowline/Der$Value")⟩ := by decide +kernel
theorem ef_0_rm0 (m : MethodId) (p1 : Int32) (p2 : Int32) (p3 : Int32) (p4 : Int32) (p5 : Int32)  : entryFrame m #[(.int p1), (.int p2), (.int p3), (.int p4), (.int p5)] maxLocals = mkF m 0 #[.val (.int p1), .val (.int p2), .val (.int p3), .val (.int p4), .val (.int p5), .unset, .unset, .unset, .unset, .unset, .unset, .unset, .unset, .unset] [] := by first | (simp [entryFrame, mkF, argsToLocals, Value.category, maxLocals]; done) | rfl
def Q_rm0 (Z : State) (p1 : Int32) (p2 : Int32) (p3 : Int32) (p4 : Int32) (p5 : Int32) (h0 : Heap) (n0 : Nat) (v : Option Value) (h : Heap) (L : List Loc) : Prop := v = some (.int 1) ∧ Fr n0 L
set_option maxRecDepth 65536 in
set_option maxHeartbeats 40000000 in
theorem rm0 (l : Launch) (Z : State) (a0 : Array Value) (hw : ∀ d ∈ tables_1, d.before a0 Z = true) (ws : List Jvm.Cond) (p1 : Int32) (p2 : Int32) (p3 : Int32) (p4 : Int32) (p5 : Int32) (h0 : Heap) (n0 : Nat) (Z0 : n0 ≤ h0.size)  :
    OwnMetW l Z x code maxLocals ret ws room_1 #[(.int p1), (.int p2), (.int p3), (.int p4), (.int p5)] h0 (Q_rm0 Z p1 p2 p3 p4 p5 h0 n0) := by
  refine own_bodyW pf_7 ?_
  intro p e s m below meth c s₁ hx hby hml hown hnm hret hlk hZ X0 e0
  have N0 := Fr.nil n0
  refine own_cast (ef_0_rm0 m p1 p2 p3 p4 p5 ) ?_
  refine g_bipush X0 hx 2 rfl (8 : Int32) rfl (hb hby at_0) ?_
  refine g_newarr X0 hx hZ 4 rfl (hw _ (List.mem_of_getElem? (i := 0) rfl)) e0 (hb hby at_2) 8 rfl 8 (Nat.le_refl _) (by decide) (by decide) (by decide) "[B" (by decide) ?_
  intro T1 h1 o1 g1 X1 e1 E1 A1 Ex1
  have ge_o1 : n0 ≤ o1 := Nat.le_trans Z0 (Nat.le_of_eq g1.symm)
  have Al1 : Al Z h1 o1 .byte [.int (0 : Int32), .int (0 : Int32), .int (0 : Int32), .int (0 : Int32), .int (0 : Int32), .int (0 : Int32), .int (0 : Int32), .int (0 : Int32)] := A1
  refine g_astore X1 hx 6 rfl (hb hby at_4) rfl #[.val (.int p1), .val (.int p2), .val (.int p3), .val (.int p4), .val (.int p5), .val (.ref o1), .unset, .unset, .unset, .unset, .unset, .unset, .unset, .unset] rfl ?_
  refine g_new X1 hx hZ 9 rfl hown (hw _ (List.mem_of_getElem? (i := 1) rfl)) (hw _ (List.mem_of_getElem? (i := 2) rfl)) (hw _ (List.mem_of_getElem? (i := 3) rfl)) e1 (hb hby at_6) (by decide) (by decide) ?_
  intro T2 h2 o2 g2 X2 e2 E2 A2 D2
  have ne_o1_o2 : o1 ≠ o2 := Nat.ne_of_lt (Nat.lt_of_lt_of_eq Ex1.lt g2.symm)
  have Zl3 : n0 ≤ h1.size := (Nat.le_trans Z0 E1.1)
  have ge_o2 : n0 ≤ o2 := Nat.le_trans Zl3 (Nat.le_of_eq g2.symm)
  refine g_dup X2 hx 10 rfl (hb hby at_9) rfl ?_
  refine g_aload X2 hx 12 rfl (hb hby at_10) rfl rfl ?_
  refine g_iload_n X2 hx 13 rfl (hb hby at_12) rfl ?_
  refine g_iload_n X2 hx 14 rfl (hb hby at_13) rfl ?_
  have Zl5 : n0 ≤ h2.size := (Nat.le_trans Zl3 E2.1)
  refine g_callI X2 hx hZ 17 rfl (y := (⟨"com/example/stowline/stowline/Der", "<init>", "([BII)V"⟩ : MethodName)) rfl hown (hw _ (List.mem_of_getElem? (i := 4) rfl)) (hw _ (List.mem_of_getElem? (i := 5) rfl)) (hw _ (List.mem_of_getElem? (i := 3) rfl)) (hw _ (List.mem_of_getElem? (i := 6) rfl)) (by decide) o2 [.ref o1, .int p1, .int p2] [.ref o2] (rmI l Z a0 hw [] o2 o1 p1 p2 _ _ _ h2 n0 Zl5 A2 ge_o2 (D2 (Or.inr (hw _ (List.mem_of_getElem? (i := 11) rfl))) (ty := .array .byte) (by decide)) (D2 (Or.inl (hw _ (List.mem_of_getElem? (i := 13) rfl))) (ty := .int) (by decide)) (D2 (Or.inr (hw _ (List.mem_of_getElem? (i := 15) rfl))) (ty := .int) (by decide))) e2 (lenOf pd_4 rfl) rfl (by rw [hml]; rfl) (hb hby at_14) (by decide) 1 (Nat.le_of_eq rfl) (by decide) (by decide) (by decide) ?_
  rintro _ T4 L4 X4 ⟨rfl, N4q, K4, E4, B4, P4, D4⟩
  have N4 := Fr.app N0 N4q
  show Goes p e below (T4.setTop (mkF m 17 #[.val (.int p1), .val (.int p2), .val (.int p3), .val (.int p4), .val (.int p5), .val (.ref o1), .unset, .unset, .unset, .unset, .unset, .unset, .unset, .unset] [.ref o2])) _
  have Zl7 : n0 ≤ T4.heap.size := (Nat.le_trans Zl5 K4.1)
  refine g_callV X4 hx hZ 20 rfl (y := (⟨"com/example/stowline/stowline/Der", "hasNext", "()Z"⟩ : MethodName)) hown (hw _ (List.mem_of_getElem? (i := 16) rfl)) (hw _ (List.mem_of_getElem? (i := 17) rfl)) (hw _ (List.mem_of_getElem? (i := 19) rfl)) (hw _ (List.mem_of_getElem? (i := 18) rfl)) (hw _ (List.mem_of_getElem? (i := 3) rfl)) (hw _ (List.mem_of_getElem? (i := 20) rfl)) (by decide) o2 [] [] (rmH l Z a0 hw [] o2 p1 p2 T4.heap n0 Zl7 P4 D4) rfl E4 (lenOf pd_1 rfl) rfl (by rw [hml]; rfl) (hb hby at_17) (by decide) 0 (Nat.le_of_eq rfl) (by decide) (by decide) (by decide) ?_
  rintro _ T6 L6 X6 ⟨rfl, N6q, e6⟩
  have N6 := Fr.app N4 N6q
  show Goes p e below (T6.setTop (mkF m 20 #[.val (.int p1), .val (.int p2), .val (.int p3), .val (.int p4), .val (.int p5), .val (.ref o1), .unset, .unset, .unset, .unset, .unset, .unset, .unset, .unset] [.int (b2i (decide (p1 < p2)))])) _
  refine g_iload_n X6 hx 21 rfl (hb hby at_20) rfl ?_
  refine g_iload_n X6 hx 22 rfl (hb hby at_21) rfl ?_
  by_cases c22 : p1 < p2
  · refine g_icmpN X6 hx 25 rfl (hb hby at_22) (XT.ii_ge_f c22) ?_
    refine g_iconst X6 hx 26 rfl (1 : Int32) rfl (hb hby at_25) ?_
    refine g_goto X6 hx 30 (hb hby at_26) (by decide) (by decide) ?_
    refine g_icmpN X6 hx 33 rfl (hb hby at_30) (XT.ii_ne_f (by simp [b2i, c22])) ?_
    refine g_iconst X6 hx 34 rfl (1 : Int32) rfl (hb hby at_33) ?_
    refine g_goto X6 hx 38 (hb hby at_34) (by decide) (by decide) ?_
    refine g_istore X6 hx 40 rfl (hb hby at_38) #[.val (.int p1), .val (.int p2), .val (.int p3), .val (.int p4), .val (.int p5), .val (.ref o1), .val (.int (1 : Int32)), .unset, .unset, .unset, .unset, .unset, .unset, .unset] rfl ?_
    refine g_iload_n X6 hx 41 rfl (hb hby at_40) rfl ?_
    refine g_sipush X6 hx 44 rfl (255 : Int32) rfl (hb hby at_41) ?_
    refine g_iand X6 hx 45 rfl (hb hby at_44) ?_
    refine g_istore X6 hx 47 rfl (hb hby at_45) #[.val (.int p1), .val (.int p2), .val (.int p3), .val (.int p4), .val (.int p5), .val (.ref o1), .val (.int (1 : Int32)), .val (.int (p3 &&& (255 : Int32))), .unset, .unset, .unset, .unset, .unset, .unset] rfl ?_
    refine g_iload_n X6 hx 48 rfl (hb hby at_47) rfl ?_
    refine g_bipush X6 hx 50 rfl (7 : Int32) rfl (hb hby at_48) ?_
    refine g_iand X6 hx 51 rfl (hb hby at_50) ?_
    refine g_istore X6 hx 53 rfl (hb hby at_51) #[.val (.int p1), .val (.int p2), .val (.int p3), .val (.int p4), .val (.int p5), .val (.ref o1), .val (.int (1 : Int32)), .val (.int (p3 &&& (255 : Int32))), .val (.int (p4 &&& (7 : Int32))), .unset, .unset, .unset, .unset, .unset] rfl ?_
    obtain ⟨t1, t2, t3⟩ := own_mask8 p3 255 8 (by decide) (by decide)
    obtain ⟨l1, l2, l3⟩ := own_mask8 p4 7 3 (by decide) (by decide)
    generalize htv : p3 &&& (255 : Int32) = tag at t1 t2 t3 ⊢
    generalize hlv : p4 &&& (7 : Int32) = len at l1 l2 l3 ⊢
    refine g_iload X6 hx 55 rfl (hb hby at_53) rfl ?_
    refine g_ldcI X6 hx 57 rfl hown hZ (hw _ (List.mem_of_getElem? (i := 21) rfl)) (hb hby at_55) ?_
    refine g_iand X6 hx 58 rfl (hb hby at_57) ?_
    refine g_bipush X6 hx 60 rfl (9 : Int32) rfl (hb hby at_58) ?_
    refine g_irem X6 hx 61 rfl (hb hby at_60) (by decide) ?_
    refine g_istore X6 hx 63 rfl (hb hby at_61) #[.val (.int p1), .val (.int p2), .val (.int p3), .val (.int p4), .val (.int p5), .val (.ref o1), .val (.int (1 : Int32)), .val (.int tag), .val (.int len), .val (.int ((p5 &&& (2147483647 : Int32)) % (9 : Int32))), .unset, .unset, .unset, .unset] rfl ?_
    have bt := own_rem9 p5
    generalize htt : (p5 &&& (2147483647 : Int32)) % (9 : Int32) = t at bt ⊢
    refine g_aload X6 hx 65 rfl (hb hby at_63) rfl rfl ?_
    refine g_iconst X6 hx 66 rfl (0 : Int32) rfl (hb hby at_65) ?_
    refine g_iload X6 hx 68 rfl (hb hby at_66) rfl ?_
    refine g_i2b X6 hx 69 rfl (hb hby at_68) ?_
    have Al8 := ((Al1.ext E2).keep K4 (ninS ne_o1_o2 nin0))
    refine g_bastore X6 hx hZ 70 rfl (hb hby at_69) e6 Al8 0 rfl (show 0 < 8 by decide) ?_
    intro T9 h9 X9 e9 W9 B9
    rw [show nar .byte tag.toInt8.toInt32 = tag.toInt8.toInt32 from (own_narb _)] at B9
    have N9 := Fr.snoc X9 N6 ge_o1
    have Al9 : Al Z h9 o1 .byte [.int tag.toInt8.toInt32, .int (0 : Int32), .int (0 : Int32), .int (0 : Int32), .int (0 : Int32), .int (0 : Int32), .int (0 : Int32), .int (0 : Int32)] := B9
    refine g_aload X9 hx 72 rfl (hb hby at_70) rfl rfl ?_
    refine g_iconst X9 hx 73 rfl (1 : Int32) rfl (hb hby at_72) ?_
    refine g_iload X9 hx 75 rfl (hb hby at_73) rfl ?_
    refine g_i2b X9 hx 76 rfl (hb hby at_75) ?_
    refine g_bastore X9 hx hZ 77 rfl (hb hby at_76) e9 Al9 1 rfl (show 1 < 8 by decide) ?_
    intro T10 h10 X10 e10 W10 B10
    rw [show nar .byte len.toInt8.toInt32 = len.toInt8.toInt32 from (own_narb _)] at B10
    have N10 := Fr.snoc X10 N9 ge_o1
    have Al10 : Al Z h10 o1 .byte [.int tag.toInt8.toInt32, .int len.toInt8.toInt32, .int (0 : Int32), .int (0 : Int32), .int (0 : Int32), .int (0 : Int32), .int (0 : Int32), .int (0 : Int32)] := B10
    refine g_new X10 hx hZ 80 rfl hown (hw _ (List.mem_of_getElem? (i := 1) rfl)) (hw _ (List.mem_of_getElem? (i := 2) rfl)) (hw _ (List.mem_of_getElem? (i := 3) rfl)) e10 (hb hby at_77) (by decide) (by decide) ?_
    intro T11 h11 o11 g11 X11 e11 E11 A11 D11
    have Exa12 := ((((Ex1.ext E2).keep K4).wr W9).wr W10)
    have ne_o1_o11 : o1 ≠ o11 := Nat.ne_of_lt (Nat.lt_of_lt_of_eq Exa12.lt g11.symm)
    have Exa13 := ((E4.wr W9).wr W10)
    have ne_o2_o11 : o2 ≠ o11 := Nat.ne_of_lt (Nat.lt_of_lt_of_eq Exa13.lt g11.symm)
    have Zl14 : n0 ≤ h10.size := (Nat.le_trans (Nat.le_trans Zl7 (Nat.le_of_eq W9.size.symm)) (Nat.le_of_eq W10.size.symm))
    have ge_o11 : n0 ≤ o11 := Nat.le_trans Zl14 (Nat.le_of_eq g11.symm)
    refine g_dup X11 hx 81 rfl (hb hby at_80) rfl ?_
    refine g_aload X11 hx 83 rfl (hb hby at_81) rfl rfl ?_
    refine g_iconst X11 hx 84 rfl (0 : Int32) rfl (hb hby at_83) ?_
    refine g_iload X11 hx 86 rfl (hb hby at_84) rfl ?_
    have Zl16 : n0 ≤ h11.size := (Nat.le_trans Zl14 E11.1)
    refine g_callI X11 hx hZ 89 rfl (y := (⟨"com/example/stowline/stowline/Der", "<init>", "([BII)V"⟩ : MethodName)) rfl hown (hw _ (List.mem_of_getElem? (i := 4) rfl)) (hw _ (List.mem_of_getElem? (i := 5) rfl)) (hw _ (List.mem_of_getElem? (i := 3) rfl)) (hw _ (List.mem_of_getElem? (i := 6) rfl)) (by decide) o11 [.ref o1, .int (0 : Int32), .int t] [.ref o11] (rmI l Z a0 hw [] o11 o1 (0 : Int32) t _ _ _ h11 n0 Zl16 A11 ge_o11 (D11 (Or.inr (hw _ (List.mem_of_getElem? (i := 11) rfl))) (ty := .array .byte) (by decide)) (D11 (Or.inl (hw _ (List.mem_of_getElem? (i := 13) rfl))) (ty := .int) (by decide)) (D11 (Or.inr (hw _ (List.mem_of_getElem? (i := 15) rfl))) (ty := .int) (by decide))) e11 (lenOf pd_4 rfl) rfl (by rw [hml]; rfl) (hb hby at_86) (by decide) 1 (Nat.le_of_eq rfl) (by decide) (by decide) (by decide) ?_
    rintro _ T15 L15 X15 ⟨rfl, N15q, K15, E15, B15, P15, D15⟩
    have N15 := Fr.app N10 N15q
    show Goes p e below (T15.setTop (mkF m 89 #[.val (.int p1), .val (.int p2), .val (.int p3), .val (.int p4), .val (.int p5), .val (.ref o1), .val (.int (1 : Int32)), .val (.int tag), .val (.int len), .val (.int t), .unset, .unset, .unset, .unset] [.ref o11])) _
    refine g_astore X15 hx 91 rfl (hb hby at_89) rfl #[.val (.int p1), .val (.int p2), .val (.int p3), .val (.int p4), .val (.int p5), .val (.ref o1), .val (.int (1 : Int32)), .val (.int tag), .val (.int len), .val (.int t), .val (.ref o11), .unset, .unset, .unset] rfl ?_
    refine g_aload X15 hx 93 rfl (hb hby at_91) rfl rfl ?_
    have Zl18 : n0 ≤ T15.heap.size := (Nat.le_trans Zl16 K15.1)
    refine g_callV X15 hx hZ 96 rfl (y := (⟨"com/example/stowline/stowline/Der", "hasNext", "()Z"⟩ : MethodName)) hown (hw _ (List.mem_of_getElem? (i := 16) rfl)) (hw _ (List.mem_of_getElem? (i := 17) rfl)) (hw _ (List.mem_of_getElem? (i := 19) rfl)) (hw _ (List.mem_of_getElem? (i := 18) rfl)) (hw _ (List.mem_of_getElem? (i := 3) rfl)) (hw _ (List.mem_of_getElem? (i := 20) rfl)) (by decide) o11 [] [] (rmH l Z a0 hw [] o11 (0 : Int32) t T15.heap n0 Zl18 P15 D15) rfl E15 (lenOf pd_1 rfl) rfl (by rw [hml]; rfl) (hb hby at_93) (by decide) 0 (Nat.le_of_eq rfl) (by decide) (by decide) (by decide) ?_
    rintro _ T17 L17 X17 ⟨rfl, N17q, e17⟩
    have N17 := Fr.app N15 N17q
    show Goes p e below (T17.setTop (mkF m 96 #[.val (.int p1), .val (.int p2), .val (.int p3), .val (.int p4), .val (.int p5), .val (.ref o1), .val (.int (1 : Int32)), .val (.int tag), .val (.int len), .val (.int t), .val (.ref o11), .unset, .unset, .unset] [.int (b2i (decide ((0 : Int32) < t)))])) _
    refine g_iload X17 hx 98 rfl (hb hby at_96) rfl ?_
    by_cases c98 : 0 < t
    · refine g_ifN X17 hx 101 rfl (hb hby at_98) (XT.i0_le_f c98) ?_
      refine g_iconst X17 hx 102 rfl (1 : Int32) rfl (hb hby at_101) ?_
      refine g_goto X17 hx 106 (hb hby at_102) (by decide) (by decide) ?_
      refine g_icmpN X17 hx 109 rfl (hb hby at_106) (XT.ii_ne_f (by simp [b2i, c98])) ?_
      refine g_iconst X17 hx 110 rfl (1 : Int32) rfl (hb hby at_109) ?_
      refine g_goto X17 hx 114 (hb hby at_110) (by decide) (by decide) ?_
      refine g_istore X17 hx 116 rfl (hb hby at_114) #[.val (.int p1), .val (.int p2), .val (.int p3), .val (.int p4), .val (.int p5), .val (.ref o1), .val (.int (1 : Int32)), .val (.int tag), .val (.int len), .val (.int t), .val (.ref o11), .val (.int (1 : Int32)), .unset, .unset] rfl ?_
      refine g_aload X17 hx 118 rfl (hb hby at_116) rfl rfl ?_
      have Al19 := ((Al10.ext E11).keep K15 (ninS ne_o1_o11 nin0))
      refine g_callV X17 hx hZ 121 rfl (y := (⟨"com/example/stowline/stowline/Der", "peekTag", "()I"⟩ : MethodName)) hown (hw _ (List.mem_of_getElem? (i := 22) rfl)) (hw _ (List.mem_of_getElem? (i := 23) rfl)) (hw _ (List.mem_of_getElem? (i := 25) rfl)) (hw _ (List.mem_of_getElem? (i := 24) rfl)) (hw _ (List.mem_of_getElem? (i := 3) rfl)) (hw _ (List.mem_of_getElem? (i := 26) rfl)) (by decide) o11 [] [] (rmK l Z a0 hw [] o11 o1 t tag.toInt8.toInt32 _ T15.heap n0 Zl18 B15 P15 D15 E15 Al19 rfl) e17 E15 (lenOf pd_5 rfl) rfl (by rw [hml]; rfl) (hb hby at_118) (by decide) 0 (Nat.le_of_eq rfl) (by decide) (by decide) (by decide) ?_
      rintro _ T20 L20 X20 ⟨rfl, N20q, e20⟩
      have N20 := Fr.app N17 N20q
      show Goes p e below (T20.setTop (mkF m 121 #[.val (.int p1), .val (.int p2), .val (.int p3), .val (.int p4), .val (.int p5), .val (.ref o1), .val (.int (1 : Int32)), .val (.int tag), .val (.int len), .val (.int t), .val (.ref o11), .val (.int (1 : Int32)), .unset, .unset] [.int (if (0 : Int32) < t then tag.toInt8.toInt32 &&& (255 : Int32) else -1)])) _
      refine g_iload X20 hx 123 rfl (hb hby at_121) rfl ?_
      refine g_ifN X20 hx 126 rfl (hb hby at_123) (XT.i0_le_f c98) ?_
      refine g_iload X20 hx 128 rfl (hb hby at_126) rfl ?_
      refine g_goto X20 hx 132 (hb hby at_128) (by decide) (by decide) ?_
      refine g_icmpN X20 hx 135 rfl (hb hby at_132) (XT.ii_ne_f (by rw [if_pos c98]; exact t1)) ?_
      refine g_iconst X20 hx 136 rfl (1 : Int32) rfl (hb hby at_135) ?_
      refine g_goto X20 hx 140 (hb hby at_136) (by decide) (by decide) ?_
      refine g_istore X20 hx 142 rfl (hb hby at_140) #[.val (.int p1), .val (.int p2), .val (.int p3), .val (.int p4), .val (.int p5), .val (.ref o1), .val (.int (1 : Int32)), .val (.int tag), .val (.int len), .val (.int t), .val (.ref o11), .val (.int (1 : Int32)), .val (.int (1 : Int32)), .unset] rfl ?_
      refine g_iconst X20 hx 143 rfl (2 : Int32) rfl (hb hby at_142) ?_
      refine g_iload X20 hx 145 rfl (hb hby at_143) rfl ?_
      refine g_iadd X20 hx 146 rfl (hb hby at_145) ?_
      refine g_iload X20 hx 148 rfl (hb hby at_146) rfl ?_
      by_cases c148 : t < ((2 : Int32) + len)
      · refine g_icmpN X20 hx 151 rfl (hb hby at_148) (XT.ii_le_f c148) ?_
        refine g_iload X20 hx 153 rfl (hb hby at_151) rfl ?_
        refine g_ifN X20 hx 156 rfl (hb hby at_153) (XT.i0_eq_f (by decide)) ?_
        refine g_iload X20 hx 158 rfl (hb hby at_156) rfl ?_
        refine g_ifN X20 hx 161 rfl (hb hby at_158) (XT.i0_eq_f (by decide)) ?_
        refine g_iload X20 hx 163 rfl (hb hby at_161) rfl ?_
        refine g_ifN X20 hx 166 rfl (hb hby at_163) (XT.i0_eq_f (by decide)) ?_
        refine g_iconst X20 hx 167 rfl (1 : Int32) rfl (hb hby at_166) ?_
        refine g_goto X20 hx 171 (hb hby at_167) (by decide) (by decide) ?_
        exact g_retZW (s := s) (vm₁ := s.vm) (z' := 0) X20 hx (own_since s 0) (Nat.zero_le _) hret hlk rfl (hb hby at_171) ⟨rfl, N20⟩ (by decide) (by decide)
      · refine g_icmpY X20 hx 172 (hb hby at_148) (XT.ii_le_t c148) (by decide) (by decide) ?_
        refine g_aload X20 hx 174 rfl (hb hby at_172) rfl rfl ?_
        refine g_iload X20 hx 176 rfl (hb hby at_174) rfl ?_
        refine g_ldcS (s := s) (vm0 := s.vm) X20 hx 178 rfl hZ hown (hw _ (List.mem_of_getElem? (i := 28) rfl)) (fun d hd => by
        simp only [Bundle.stringAtoms, List.mem_cons, List.not_mem_nil, or_false] at hd
        rcases hd with rfl | rfl | rfl | rfl | rfl | rfl | rfl
        · exact (hw _ (List.mem_of_getElem? (i := 29) rfl))
        · exact (hw _ (List.mem_of_getElem? (i := 30) rfl))
        · exact (hw _ (List.mem_of_getElem? (i := 0) rfl))
        · exact (hw _ (List.mem_of_getElem? (i := 31) rfl))
        · exact (hw _ (List.mem_of_getElem? (i := 32) rfl))
        · exact (hw _ (List.mem_of_getElem? (i := 33) rfl))
        · exact (hw _ (List.mem_of_getElem? (i := 34) rfl))) e20 (own_since s 0) (Nat.zero_le _) (hb hby at_176) 4 (by decide) (by decide) (by decide) (by decide) ?_
        intro sx T21 h21 k1 X21 e21 E21 hS hk1 hZ hown
        have hsum : ((2 : Int32) + len).toInt = 2 + len.toInt := by have h1 := c_iadd 2 len; have h2 := rng32 ((2 : Int32) + len); have h3 : (2 : Int32).toInt = 2 := rfl; omega
        have c148' : ¬ t.toInt < ((2 : Int32) + len).toInt := fun z => c148 (Int32.lt_iff_toInt_lt.mpr z)
        have Fld22 := (B15.ext E21)
        have Fld23 := (P15.ext E21)
        have Fld24 := (D15.ext E21)
        have Exa25 := (E15.ext E21)
        have Al26 := (Al19.ext E21)
        have Zl27 : n0 ≤ h21.size := (Nat.le_trans Zl18 E21.1)
        have hN1 := rmN1 l Z a0 hw [] o11 o1 sx t tag.toInt8.toInt32 len.toInt8.toInt32 len _ h21 n0 Zl27 Fld22 Fld23 Fld24 Exa25 Al26 rfl rfl l1 ⟨l2, by omega⟩ (by omega) (by omega) ge_o11 ne_o1_o11
        rw [t1] at hN1
        refine g_callV X21 hx hZ 181 rfl (y := (⟨"com/example/stowline/stowline/Der", "next", "(ILjava/lang/String;)Lcom/example/stowline/stowline/Der$Value;"⟩ : MethodName)) hown (hw _ (List.mem_of_getElem? (i := 35) rfl)) (hw _ (List.mem_of_getElem? (i := 36) rfl)) (hw _ (List.mem_of_getElem? (i := 38) rfl)) (hw _ (List.mem_of_getElem? (i := 37) rfl)) (hw _ (List.mem_of_getElem? (i := 3) rfl)) (hw _ (List.mem_of_getElem? (i := 39) rfl)) (by decide) o11 [.int tag, .ref sx] [] hN1 e21 Exa25 (lenOf pd_6 rfl) rfl (by rw [hml]; rfl) (hb hby at_178) (by decide) 0 (Nat.le_of_eq rfl) (by decide) (by decide) (by decide) ?_
        rintro _ T28 L28 X28 ⟨b28, rfl, N28q, K28, E28, P28, D28⟩
        have N28 := Fr.app N20 N28q
        show Goes p e below (T28.setTop (mkF m 181 #[.val (.int p1), .val (.int p2), .val (.int p3), .val (.int p4), .val (.int p5), .val (.ref o1), .val (.int (1 : Int32)), .val (.int tag), .val (.int len), .val (.int t), .val (.ref o11), .val (.int (1 : Int32)), .val (.int (1 : Int32)), .unset] [.ref b28])) _
        have hk2 : k1 ≤ T28.heap.size := Nat.le_trans hk1 K28.1
        refine g_pop X28 hx 182 rfl (hb hby at_181) rfl ?_
        refine g_aload X28 hx 184 rfl (hb hby at_182) rfl rfl ?_
        have Zl30 : n0 ≤ T28.heap.size := (Nat.le_trans Zl27 K28.1)
        refine g_callV X28 hx hZ 187 rfl (y := (⟨"com/example/stowline/stowline/Der", "hasNext", "()Z"⟩ : MethodName)) hown (hw _ (List.mem_of_getElem? (i := 16) rfl)) (hw _ (List.mem_of_getElem? (i := 17) rfl)) (hw _ (List.mem_of_getElem? (i := 19) rfl)) (hw _ (List.mem_of_getElem? (i := 18) rfl)) (hw _ (List.mem_of_getElem? (i := 3) rfl)) (hw _ (List.mem_of_getElem? (i := 20) rfl)) (by decide) o11 [] [] (rmH l Z a0 hw [] o11 ((2 : Int32) + len) t T28.heap n0 Zl30 P28 D28) rfl E28 (lenOf pd_1 rfl) rfl (by rw [hml]; rfl) (hb hby at_184) (by decide) 0 (Nat.le_of_eq rfl) (by decide) (by decide) (by decide) ?_
        rintro _ T29 L29 X29 ⟨rfl, N29q, e29⟩
        have N29 := Fr.app N28 N29q
        show Goes p e below (T29.setTop (mkF m 187 #[.val (.int p1), .val (.int p2), .val (.int p3), .val (.int p4), .val (.int p5), .val (.ref o1), .val (.int (1 : Int32)), .val (.int tag), .val (.int len), .val (.int t), .val (.ref o11), .val (.int (1 : Int32)), .val (.int (1 : Int32)), .unset] [.int (b2i (decide (((2 : Int32) + len) < t)))])) _
        refine g_iconst X29 hx 188 rfl (2 : Int32) rfl (hb hby at_187) ?_
        refine g_iload X29 hx 190 rfl (hb hby at_188) rfl ?_
        refine g_iadd X29 hx 191 rfl (hb hby at_190) ?_
        refine g_iload X29 hx 193 rfl (hb hby at_191) rfl ?_
        by_cases c193 : ((2 : Int32) + len) < t
        · refine g_icmpN X29 hx 196 rfl (hb hby at_193) (XT.ii_ge_f c193) ?_
          refine g_iconst X29 hx 197 rfl (1 : Int32) rfl (hb hby at_196) ?_
          refine g_goto X29 hx 201 (hb hby at_197) (by decide) (by decide) ?_
          refine g_icmpN X29 hx 204 rfl (hb hby at_201) (XT.ii_ne_f (by simp [b2i, c193])) ?_
          refine g_iconst X29 hx 205 rfl (1 : Int32) rfl (hb hby at_204) ?_
          refine g_goto X29 hx 209 (hb hby at_205) (by decide) (by decide) ?_
          refine g_istore X29 hx 211 rfl (hb hby at_209) #[.val (.int p1), .val (.int p2), .val (.int p3), .val (.int p4), .val (.int p5), .val (.ref o1), .val (.int (1 : Int32)), .val (.int tag), .val (.int len), .val (.int t), .val (.ref o11), .val (.int (1 : Int32)), .val (.int (1 : Int32)), .val (.int (1 : Int32))] rfl ?_
          refine g_iload X29 hx 213 rfl (hb hby at_211) rfl ?_
          refine g_ifN X29 hx 216 rfl (hb hby at_213) (XT.i0_eq_f (by decide)) ?_
          refine g_iload X29 hx 218 rfl (hb hby at_216) rfl ?_
          refine g_ifN X29 hx 221 rfl (hb hby at_218) (XT.i0_eq_f (by decide)) ?_
          refine g_iload X29 hx 223 rfl (hb hby at_221) rfl ?_
          refine g_ifN X29 hx 226 rfl (hb hby at_223) (XT.i0_eq_f (by decide)) ?_
          refine g_iload X29 hx 228 rfl (hb hby at_226) rfl ?_
          refine g_ifN X29 hx 231 rfl (hb hby at_228) (XT.i0_eq_f (by decide)) ?_
          refine g_iconst X29 hx 232 rfl (1 : Int32) rfl (hb hby at_231) ?_
          refine g_goto X29 hx 236 (hb hby at_232) (by decide) (by decide) ?_
          exact g_retZW (s := s) (z' := 0) X29 hx hS (by rw [e29]; exact hk2) hret hlk rfl (hb hby at_236) ⟨rfl, N29⟩ (by decide) (by decide)
        · refine g_icmpY X29 hx 200 (hb hby at_193) (XT.ii_ge_t c193) (by decide) (by decide) ?_
          refine g_iconst X29 hx 201 rfl (0 : Int32) rfl (hb hby at_200) ?_
          refine g_icmpN X29 hx 204 rfl (hb hby at_201) (XT.ii_ne_f (by simp [b2i, c193])) ?_
          refine g_iconst X29 hx 205 rfl (1 : Int32) rfl (hb hby at_204) ?_
          refine g_goto X29 hx 209 (hb hby at_205) (by decide) (by decide) ?_
          refine g_istore X29 hx 211 rfl (hb hby at_209) #[.val (.int p1), .val (.int p2), .val (.int p3), .val (.int p4), .val (.int p5), .val (.ref o1), .val (.int (1 : Int32)), .val (.int tag), .val (.int len), .val (.int t), .val (.ref o11), .val (.int (1 : Int32)), .val (.int (1 : Int32)), .val (.int (1 : Int32))] rfl ?_
          refine g_iload X29 hx 213 rfl (hb hby at_211) rfl ?_
          refine g_ifN X29 hx 216 rfl (hb hby at_213) (XT.i0_eq_f (by decide)) ?_
          refine g_iload X29 hx 218 rfl (hb hby at_216) rfl ?_
          refine g_ifN X29 hx 221 rfl (hb hby at_218) (XT.i0_eq_f (by decide)) ?_
          refine g_iload X29 hx 223 rfl (hb hby at_221) rfl ?_
          refine g_ifN X29 hx 226 rfl (hb hby at_223) (XT.i0_eq_f (by decide)) ?_
          refine g_iload X29 hx 228 rfl (hb hby at_226) rfl ?_
          refine g_ifN X29 hx 231 rfl (hb hby at_228) (XT.i0_eq_f (by decide)) ?_
          refine g_iconst X29 hx 232 rfl (1 : Int32) rfl (hb hby at_231) ?_
          refine g_goto X29 hx 236 (hb hby at_232) (by decide) (by decide) ?_
          exact g_retZW (s := s) (z' := 0) X29 hx hS (by rw [e29]; exact hk2) hret hlk rfl (hb hby at_236) ⟨rfl, N29⟩ (by decide) (by decide)
    · refine g_ifY X17 hx 105 (hb hby at_98) (XT.i0_le_t c98) (by decide) (by decide) ?_
      refine g_iconst X17 hx 106 rfl (0 : Int32) rfl (hb hby at_105) ?_
      refine g_icmpN X17 hx 109 rfl (hb hby at_106) (XT.ii_ne_f (by simp [b2i, c98])) ?_
      refine g_iconst X17 hx 110 rfl (1 : Int32) rfl (hb hby at_109) ?_
      refine g_goto X17 hx 114 (hb hby at_110) (by decide) (by decide) ?_
      refine g_istore X17 hx 116 rfl (hb hby at_114) #[.val (.int p1), .val (.int p2), .val (.int p3), .val (.int p4), .val (.int p5), .val (.ref o1), .val (.int (1 : Int32)), .val (.int tag), .val (.int len), .val (.int t), .val (.ref o11), .val (.int (1 : Int32)), .unset, .unset] rfl ?_
      refine g_aload X17 hx 118 rfl (hb hby at_116) rfl rfl ?_
      have Al31 := ((Al10.ext E11).keep K15 (ninS ne_o1_o11 nin0))
      refine g_callV X17 hx hZ 121 rfl (y := (⟨"com/example/stowline/stowline/Der", "peekTag", "()I"⟩ : MethodName)) hown (hw _ (List.mem_of_getElem? (i := 22) rfl)) (hw _ (List.mem_of_getElem? (i := 23) rfl)) (hw _ (List.mem_of_getElem? (i := 25) rfl)) (hw _ (List.mem_of_getElem? (i := 24) rfl)) (hw _ (List.mem_of_getElem? (i := 3) rfl)) (hw _ (List.mem_of_getElem? (i := 26) rfl)) (by decide) o11 [] [] (rmK l Z a0 hw [] o11 o1 t tag.toInt8.toInt32 _ T15.heap n0 Zl18 B15 P15 D15 E15 Al31 rfl) e17 E15 (lenOf pd_5 rfl) rfl (by rw [hml]; rfl) (hb hby at_118) (by decide) 0 (Nat.le_of_eq rfl) (by decide) (by decide) (by decide) ?_
      rintro _ T32 L32 X32 ⟨rfl, N32q, e32⟩
      have N32 := Fr.app N17 N32q
      show Goes p e below (T32.setTop (mkF m 121 #[.val (.int p1), .val (.int p2), .val (.int p3), .val (.int p4), .val (.int p5), .val (.ref o1), .val (.int (1 : Int32)), .val (.int tag), .val (.int len), .val (.int t), .val (.ref o11), .val (.int (1 : Int32)), .unset, .unset] [.int (if (0 : Int32) < t then tag.toInt8.toInt32 &&& (255 : Int32) else -1)])) _
      refine g_iload X32 hx 123 rfl (hb hby at_121) rfl ?_
      refine g_ifY X32 hx 131 (hb hby at_123) (XT.i0_le_t c98) (by decide) (by decide) ?_
      refine g_iconst X32 hx 132 rfl (-1 : Int32) rfl (hb hby at_131) ?_
      refine g_icmpN X32 hx 135 rfl (hb hby at_132) (XT.ii_ne_f (by rw [if_neg c98])) ?_
      refine g_iconst X32 hx 136 rfl (1 : Int32) rfl (hb hby at_135) ?_
      refine g_goto X32 hx 140 (hb hby at_136) (by decide) (by decide) ?_
      refine g_istore X32 hx 142 rfl (hb hby at_140) #[.val (.int p1), .val (.int p2), .val (.int p3), .val (.int p4), .val (.int p5), .val (.ref o1), .val (.int (1 : Int32)), .val (.int tag), .val (.int len), .val (.int t), .val (.ref o11), .val (.int (1 : Int32)), .val (.int (1 : Int32)), .unset] rfl ?_
      refine g_iconst X32 hx 143 rfl (2 : Int32) rfl (hb hby at_142) ?_
      refine g_iload X32 hx 145 rfl (hb hby at_143) rfl ?_
      refine g_iadd X32 hx 146 rfl (hb hby at_145) ?_
      refine g_iload X32 hx 148 rfl (hb hby at_146) rfl ?_
      refine g_icmpN X32 hx 151 rfl (hb hby at_148) (XT.ii_le_f (by have h1 := c_iadd 2 len; have h2 := rng32 ((2 : Int32) + len); have h3 : (2 : Int32).toInt = 2 := rfl; have h4 : (0 : Int32).toInt = 0 := rfl; rw [Int32.lt_iff_toInt_lt] at c98 ⊢; omega)) ?_
      refine g_iload X32 hx 153 rfl (hb hby at_151) rfl ?_
      refine g_ifN X32 hx 156 rfl (hb hby at_153) (XT.i0_eq_f (by decide)) ?_
      refine g_iload X32 hx 158 rfl (hb hby at_156) rfl ?_
      refine g_ifN X32 hx 161 rfl (hb hby at_158) (XT.i0_eq_f (by decide)) ?_
      refine g_iload X32 hx 163 rfl (hb hby at_161) rfl ?_
      refine g_ifN X32 hx 166 rfl (hb hby at_163) (XT.i0_eq_f (by decide)) ?_
      refine g_iconst X32 hx 167 rfl (1 : Int32) rfl (hb hby at_166) ?_
      refine g_goto X32 hx 171 (hb hby at_167) (by decide) (by decide) ?_
      exact g_retZW (s := s) (vm₁ := s.vm) (z' := 0) X32 hx (own_since s 0) (Nat.zero_le _) hret hlk rfl (hb hby at_171) ⟨rfl, N32⟩ (by decide) (by decide)
  · refine g_icmpY X6 hx 29 (hb hby at_22) (XT.ii_ge_t c22) (by decide) (by decide) ?_
    refine g_iconst X6 hx 30 rfl (0 : Int32) rfl (hb hby at_29) ?_
    refine g_icmpN X6 hx 33 rfl (hb hby at_30) (XT.ii_ne_f (by simp [b2i, c22])) ?_
    refine g_iconst X6 hx 34 rfl (1 : Int32) rfl (hb hby at_33) ?_
    refine g_goto X6 hx 38 (hb hby at_34) (by decide) (by decide) ?_
    refine g_istore X6 hx 40 rfl (hb hby at_38) #[.val (.int p1), .val (.int p2), .val (.int p3), .val (.int p4), .val (.int p5), .val (.ref o1), .val (.int (1 : Int32)), .unset, .unset, .unset, .unset, .unset, .unset, .unset] rfl ?_
    refine g_iload_n X6 hx 41 rfl (hb hby at_40) rfl ?_
    refine g_sipush X6 hx 44 rfl (255 : Int32) rfl (hb hby at_41) ?_
    refine g_iand X6 hx 45 rfl (hb hby at_44) ?_
    refine g_istore X6 hx 47 rfl (hb hby at_45) #[.val (.int p1), .val (.int p2), .val (.int p3), .val (.int p4), .val (.int p5), .val (.ref o1), .val (.int (1 : Int32)), .val (.int (p3 &&& (255 : Int32))), .unset, .unset, .unset, .unset, .unset, .unset] rfl ?_
    refine g_iload_n X6 hx 48 rfl (hb hby at_47) rfl ?_
    refine g_bipush X6 hx 50 rfl (7 : Int32) rfl (hb hby at_48) ?_
    refine g_iand X6 hx 51 rfl (hb hby at_50) ?_
    refine g_istore X6 hx 53 rfl (hb hby at_51) #[.val (.int p1), .val (.int p2), .val (.int p3), .val (.int p4), .val (.int p5), .val (.ref o1), .val (.int (1 : Int32)), .val (.int (p3 &&& (255 : Int32))), .val (.int (p4 &&& (7 : Int32))), .unset, .unset, .unset, .unset, .unset] rfl ?_
    obtain ⟨t1, t2, t3⟩ := own_mask8 p3 255 8 (by decide) (by decide)
    obtain ⟨l1, l2, l3⟩ := own_mask8 p4 7 3 (by decide) (by decide)
    generalize htv : p3 &&& (255 : Int32) = tag at t1 t2 t3 ⊢
    generalize hlv : p4 &&& (7 : Int32) = len at l1 l2 l3 ⊢
    refine g_iload X6 hx 55 rfl (hb hby at_53) rfl ?_
    refine g_ldcI X6 hx 57 rfl hown hZ (hw _ (List.mem_of_getElem? (i := 21) rfl)) (hb hby at_55) ?_
    refine g_iand X6 hx 58 rfl (hb hby at_57) ?_
    refine g_bipush X6 hx 60 rfl (9 : Int32) rfl (hb hby at_58) ?_
    refine g_irem X6 hx 61 rfl (hb hby at_60) (by decide) ?_
    refine g_istore X6 hx 63 rfl (hb hby at_61) #[.val (.int p1), .val (.int p2), .val (.int p3), .val (.int p4), .val (.int p5), .val (.ref o1), .val (.int (1 : Int32)), .val (.int tag), .val (.int len), .val (.int ((p5 &&& (2147483647 : Int32)) % (9 : Int32))), .unset, .unset, .unset, .unset] rfl ?_
    have bt := own_rem9 p5
    generalize htt : (p5 &&& (2147483647 : Int32)) % (9 : Int32) = t at bt ⊢
    refine g_aload X6 hx 65 rfl (hb hby at_63) rfl rfl ?_
    refine g_iconst X6 hx 66 rfl (0 : Int32) rfl (hb hby at_65) ?_
    refine g_iload X6 hx 68 rfl (hb hby at_66) rfl ?_
    refine g_i2b X6 hx 69 rfl (hb hby at_68) ?_
    have Al33 := ((Al1.ext E2).keep K4 (ninS ne_o1_o2 nin0))
    refine g_bastore X6 hx hZ 70 rfl (hb hby at_69) e6 Al33 0 rfl (show 0 < 8 by decide) ?_
    intro T34 h34 X34 e34 W34 B34
    rw [show nar .byte tag.toInt8.toInt32 = tag.toInt8.toInt32 from (own_narb _)] at B34
    have N34 := Fr.snoc X34 N6 ge_o1
    have Al34 : Al Z h34 o1 .byte [.int tag.toInt8.toInt32, .int (0 : Int32), .int (0 : Int32), .int (0 : Int32), .int (0 : Int32), .int (0 : Int32), .int (0 : Int32), .int (0 : Int32)] := B34
    refine g_aload X34 hx 72 rfl (hb hby at_70) rfl rfl ?_
    refine g_iconst X34 hx 73 rfl (1 : Int32) rfl (hb hby at_72) ?_
    refine g_iload X34 hx 75 rfl (hb hby at_73) rfl ?_
    refine g_i2b X34 hx 76 rfl (hb hby at_75) ?_
    refine g_bastore X34 hx hZ 77 rfl (hb hby at_76) e34 Al34 1 rfl (show 1 < 8 by decide) ?_
    intro T35 h35 X35 e35 W35 B35
    rw [show nar .byte len.toInt8.toInt32 = len.toInt8.toInt32 from (own_narb _)] at B35
    have N35 := Fr.snoc X35 N34 ge_o1
    have Al35 : Al Z h35 o1 .byte [.int tag.toInt8.toInt32, .int len.toInt8.toInt32, .int (0 : Int32), .int (0 : Int32), .int (0 : Int32), .int (0 : Int32), .int (0 : Int32), .int (0 : Int32)] := B35
    refine g_new X35 hx hZ 80 rfl hown (hw _ (List.mem_of_getElem? (i := 1) rfl)) (hw _ (List.mem_of_getElem? (i := 2) rfl)) (hw _ (List.mem_of_getElem? (i := 3) rfl)) e35 (hb hby at_77) (by decide) (by decide) ?_
    intro T36 h36 o36 g36 X36 e36 E36 A36 D36
    have Exa37 := ((((Ex1.ext E2).keep K4).wr W34).wr W35)
    have ne_o1_o36 : o1 ≠ o36 := Nat.ne_of_lt (Nat.lt_of_lt_of_eq Exa37.lt g36.symm)
    have Exa38 := ((E4.wr W34).wr W35)
    have ne_o2_o36 : o2 ≠ o36 := Nat.ne_of_lt (Nat.lt_of_lt_of_eq Exa38.lt g36.symm)
    have Zl39 : n0 ≤ h35.size := (Nat.le_trans (Nat.le_trans Zl7 (Nat.le_of_eq W34.size.symm)) (Nat.le_of_eq W35.size.symm))
    have ge_o36 : n0 ≤ o36 := Nat.le_trans Zl39 (Nat.le_of_eq g36.symm)
    refine g_dup X36 hx 81 rfl (hb hby at_80) rfl ?_
    refine g_aload X36 hx 83 rfl (hb hby at_81) rfl rfl ?_
    refine g_iconst X36 hx 84 rfl (0 : Int32) rfl (hb hby at_83) ?_
    refine g_iload X36 hx 86 rfl (hb hby at_84) rfl ?_
    have Zl41 : n0 ≤ h36.size := (Nat.le_trans Zl39 E36.1)
    refine g_callI X36 hx hZ 89 rfl (y := (⟨"com/example/stowline/stowline/Der", "<init>", "([BII)V"⟩ : MethodName)) rfl hown (hw _ (List.mem_of_getElem? (i := 4) rfl)) (hw _ (List.mem_of_getElem? (i := 5) rfl)) (hw _ (List.mem_of_getElem? (i := 3) rfl)) (hw _ (List.mem_of_getElem? (i := 6) rfl)) (by decide) o36 [.ref o1, .int (0 : Int32), .int t] [.ref o36] (rmI l Z a0 hw [] o36 o1 (0 : Int32) t _ _ _ h36 n0 Zl41 A36 ge_o36 (D36 (Or.inr (hw _ (List.mem_of_getElem? (i := 11) rfl))) (ty := .array .byte) (by decide)) (D36 (Or.inl (hw _ (List.mem_of_getElem? (i := 13) rfl))) (ty := .int) (by decide)) (D36 (Or.inr (hw _ (List.mem_of_getElem? (i := 15) rfl))) (ty := .int) (by decide))) e36 (lenOf pd_4 rfl) rfl (by rw [hml]; rfl) (hb hby at_86) (by decide) 1 (Nat.le_of_eq rfl) (by decide) (by decide) (by decide) ?_
    rintro _ T40 L40 X40 ⟨rfl, N40q, K40, E40, B40, P40, D40⟩
    have N40 := Fr.app N35 N40q
    show Goes p e below (T40.setTop (mkF m 89 #[.val (.int p1), .val (.int p2), .val (.int p3), .val (.int p4), .val (.int p5), .val (.ref o1), .val (.int (1 : Int32)), .val (.int tag), .val (.int len), .val (.int t), .unset, .unset, .unset, .unset] [.ref o36])) _
    refine g_astore X40 hx 91 rfl (hb hby at_89) rfl #[.val (.int p1), .val (.int p2), .val (.int p3), .val (.int p4), .val (.int p5), .val (.ref o1), .val (.int (1 : Int32)), .val (.int tag), .val (.int len), .val (.int t), .val (.ref o36), .unset, .unset, .unset] rfl ?_
    refine g_aload X40 hx 93 rfl (hb hby at_91) rfl rfl ?_
    have Zl43 : n0 ≤ T40.heap.size := (Nat.le_trans Zl41 K40.1)
    refine g_callV X40 hx hZ 96 rfl (y := (⟨"com/example/stowline/stowline/Der", "hasNext", "()Z"⟩ : MethodName)) hown (hw _ (List.mem_of_getElem? (i := 16) rfl)) (hw _ (List.mem_of_getElem? (i := 17) rfl)) (hw _ (List.mem_of_getElem? (i := 19) rfl)) (hw _ (List.mem_of_getElem? (i := 18) rfl)) (hw _ (List.mem_of_getElem? (i := 3) rfl)) (hw _ (List.mem_of_getElem? (i := 20) rfl)) (by decide) o36 [] [] (rmH l Z a0 hw [] o36 (0 : Int32) t T40.heap n0 Zl43 P40 D40) rfl E40 (lenOf pd_1 rfl) rfl (by rw [hml]; rfl) (hb hby at_93) (by decide) 0 (Nat.le_of_eq rfl) (by decide) (by decide) (by decide) ?_
    rintro _ T42 L42 X42 ⟨rfl, N42q, e42⟩
    have N42 := Fr.app N40 N42q
    show Goes p e below (T42.setTop (mkF m 96 #[.val (.int p1), .val (.int p2), .val (.int p3), .val (.int p4), .val (.int p5), .val (.ref o1), .val (.int (1 : Int32)), .val (.int tag), .val (.int len), .val (.int t), .val (.ref o36), .unset, .unset, .unset] [.int (b2i (decide ((0 : Int32) < t)))])) _
    refine g_iload X42 hx 98 rfl (hb hby at_96) rfl ?_
    by_cases c98 : 0 < t
    · refine g_ifN X42 hx 101 rfl (hb hby at_98) (XT.i0_le_f c98) ?_
      refine g_iconst X42 hx 102 rfl (1 : Int32) rfl (hb hby at_101) ?_
      refine g_goto X42 hx 106 (hb hby at_102) (by decide) (by decide) ?_
      refine g_icmpN X42 hx 109 rfl (hb hby at_106) (XT.ii_ne_f (by simp [b2i, c98])) ?_
      refine g_iconst X42 hx 110 rfl (1 : Int32) rfl (hb hby at_109) ?_
      refine g_goto X42 hx 114 (hb hby at_110) (by decide) (by decide) ?_
      refine g_istore X42 hx 116 rfl (hb hby at_114) #[.val (.int p1), .val (.int p2), .val (.int p3), .val (.int p4), .val (.int p5), .val (.ref o1), .val (.int (1 : Int32)), .val (.int tag), .val (.int len), .val (.int t), .val (.ref o36), .val (.int (1 : Int32)), .unset, .unset] rfl ?_
      refine g_aload X42 hx 118 rfl (hb hby at_116) rfl rfl ?_
      have Al44 := ((Al35.ext E36).keep K40 (ninS ne_o1_o36 nin0))
      refine g_callV X42 hx hZ 121 rfl (y := (⟨"com/example/stowline/stowline/Der", "peekTag", "()I"⟩ : MethodName)) hown (hw _ (List.mem_of_getElem? (i := 22) rfl)) (hw _ (List.mem_of_getElem? (i := 23) rfl)) (hw _ (List.mem_of_getElem? (i := 25) rfl)) (hw _ (List.mem_of_getElem? (i := 24) rfl)) (hw _ (List.mem_of_getElem? (i := 3) rfl)) (hw _ (List.mem_of_getElem? (i := 26) rfl)) (by decide) o36 [] [] (rmK l Z a0 hw [] o36 o1 t tag.toInt8.toInt32 _ T40.heap n0 Zl43 B40 P40 D40 E40 Al44 rfl) e42 E40 (lenOf pd_5 rfl) rfl (by rw [hml]; rfl) (hb hby at_118) (by decide) 0 (Nat.le_of_eq rfl) (by decide) (by decide) (by decide) ?_
      rintro _ T45 L45 X45 ⟨rfl, N45q, e45⟩
      have N45 := Fr.app N42 N45q
      show Goes p e below (T45.setTop (mkF m 121 #[.val (.int p1), .val (.int p2), .val (.int p3), .val (.int p4), .val (.int p5), .val (.ref o1), .val (.int (1 : Int32)), .val (.int tag), .val (.int len), .val (.int t), .val (.ref o36), .val (.int (1 : Int32)), .unset, .unset] [.int (if (0 : Int32) < t then tag.toInt8.toInt32 &&& (255 : Int32) else -1)])) _
      refine g_iload X45 hx 123 rfl (hb hby at_121) rfl ?_
      refine g_ifN X45 hx 126 rfl (hb hby at_123) (XT.i0_le_f c98) ?_
      refine g_iload X45 hx 128 rfl (hb hby at_126) rfl ?_
      refine g_goto X45 hx 132 (hb hby at_128) (by decide) (by decide) ?_
      refine g_icmpN X45 hx 135 rfl (hb hby at_132) (XT.ii_ne_f (by rw [if_pos c98]; exact t1)) ?_
      refine g_iconst X45 hx 136 rfl (1 : Int32) rfl (hb hby at_135) ?_
      refine g_goto X45 hx 140 (hb hby at_136) (by decide) (by decide) ?_
      refine g_istore X45 hx 142 rfl (hb hby at_140) #[.val (.int p1), .val (.int p2), .val (.int p3), .val (.int p4), .val (.int p5), .val (.ref o1), .val (.int (1 : Int32)), .val (.int tag), .val (.int len), .val (.int t), .val (.ref o36), .val (.int (1 : Int32)), .val (.int (1 : Int32)), .unset] rfl ?_
      refine g_iconst X45 hx 143 rfl (2 : Int32) rfl (hb hby at_142) ?_
      refine g_iload X45 hx 145 rfl (hb hby at_143) rfl ?_
      refine g_iadd X45 hx 146 rfl (hb hby at_145) ?_
      refine g_iload X45 hx 148 rfl (hb hby at_146) rfl ?_
      by_cases c148 : t < ((2 : Int32) + len)
      · refine g_icmpN X45 hx 151 rfl (hb hby at_148) (XT.ii_le_f c148) ?_
        refine g_iload X45 hx 153 rfl (hb hby at_151) rfl ?_
        refine g_ifN X45 hx 156 rfl (hb hby at_153) (XT.i0_eq_f (by decide)) ?_
        refine g_iload X45 hx 158 rfl (hb hby at_156) rfl ?_
        refine g_ifN X45 hx 161 rfl (hb hby at_158) (XT.i0_eq_f (by decide)) ?_
        refine g_iload X45 hx 163 rfl (hb hby at_161) rfl ?_
        refine g_ifN X45 hx 166 rfl (hb hby at_163) (XT.i0_eq_f (by decide)) ?_
        refine g_iconst X45 hx 167 rfl (1 : Int32) rfl (hb hby at_166) ?_
        refine g_goto X45 hx 171 (hb hby at_167) (by decide) (by decide) ?_
        exact g_retZW (s := s) (vm₁ := s.vm) (z' := 0) X45 hx (own_since s 0) (Nat.zero_le _) hret hlk rfl (hb hby at_171) ⟨rfl, N45⟩ (by decide) (by decide)
      · refine g_icmpY X45 hx 172 (hb hby at_148) (XT.ii_le_t c148) (by decide) (by decide) ?_
        refine g_aload X45 hx 174 rfl (hb hby at_172) rfl rfl ?_
        refine g_iload X45 hx 176 rfl (hb hby at_174) rfl ?_
        refine g_ldcS (s := s) (vm0 := s.vm) X45 hx 178 rfl hZ hown (hw _ (List.mem_of_getElem? (i := 28) rfl)) (fun d hd => by
        simp only [Bundle.stringAtoms, List.mem_cons, List.not_mem_nil, or_false] at hd
        rcases hd with rfl | rfl | rfl | rfl | rfl | rfl | rfl
        · exact (hw _ (List.mem_of_getElem? (i := 29) rfl))
        · exact (hw _ (List.mem_of_getElem? (i := 30) rfl))
        · exact (hw _ (List.mem_of_getElem? (i := 0) rfl))
        · exact (hw _ (List.mem_of_getElem? (i := 31) rfl))
        · exact (hw _ (List.mem_of_getElem? (i := 32) rfl))
        · exact (hw _ (List.mem_of_getElem? (i := 33) rfl))
        · exact (hw _ (List.mem_of_getElem? (i := 34) rfl))) e45 (own_since s 0) (Nat.zero_le _) (hb hby at_176) 4 (by decide) (by decide) (by decide) (by decide) ?_
        intro sx T46 h46 k1 X46 e46 E46 hS hk1 hZ hown
        have hsum : ((2 : Int32) + len).toInt = 2 + len.toInt := by have h1 := c_iadd 2 len; have h2 := rng32 ((2 : Int32) + len); have h3 : (2 : Int32).toInt = 2 := rfl; omega
        have c148' : ¬ t.toInt < ((2 : Int32) + len).toInt := fun z => c148 (Int32.lt_iff_toInt_lt.mpr z)
        have Fld47 := (B40.ext E46)
        have Fld48 := (P40.ext E46)
        have Fld49 := (D40.ext E46)
        have Exa50 := (E40.ext E46)
        have Al51 := (Al44.ext E46)
        have Zl52 : n0 ≤ h46.size := (Nat.le_trans Zl43 E46.1)
        have hN1 := rmN1 l Z a0 hw [] o36 o1 sx t tag.toInt8.toInt32 len.toInt8.toInt32 len _ h46 n0 Zl52 Fld47 Fld48 Fld49 Exa50 Al51 rfl rfl l1 ⟨l2, by omega⟩ (by omega) (by omega) ge_o36 ne_o1_o36
        rw [t1] at hN1
        refine g_callV X46 hx hZ 181 rfl (y := (⟨"com/example/stowline/stowline/Der", "next", "(ILjava/lang/String;)Lcom/example/stowline/stowline/Der$Value;"⟩ : MethodName)) hown (hw _ (List.mem_of_getElem? (i := 35) rfl)) (hw _ (List.mem_of_getElem? (i := 36) rfl)) (hw _ (List.mem_of_getElem? (i := 38) rfl)) (hw _ (List.mem_of_getElem? (i := 37) rfl)) (hw _ (List.mem_of_getElem? (i := 3) rfl)) (hw _ (List.mem_of_getElem? (i := 39) rfl)) (by decide) o36 [.int tag, .ref sx] [] hN1 e46 Exa50 (lenOf pd_6 rfl) rfl (by rw [hml]; rfl) (hb hby at_178) (by decide) 0 (Nat.le_of_eq rfl) (by decide) (by decide) (by decide) ?_
        rintro _ T53 L53 X53 ⟨b53, rfl, N53q, K53, E53, P53, D53⟩
        have N53 := Fr.app N45 N53q
        show Goes p e below (T53.setTop (mkF m 181 #[.val (.int p1), .val (.int p2), .val (.int p3), .val (.int p4), .val (.int p5), .val (.ref o1), .val (.int (1 : Int32)), .val (.int tag), .val (.int len), .val (.int t), .val (.ref o36), .val (.int (1 : Int32)), .val (.int (1 : Int32)), .unset] [.ref b53])) _
        have hk2 : k1 ≤ T53.heap.size := Nat.le_trans hk1 K53.1
        refine g_pop X53 hx 182 rfl (hb hby at_181) rfl ?_
        refine g_aload X53 hx 184 rfl (hb hby at_182) rfl rfl ?_
        have Zl55 : n0 ≤ T53.heap.size := (Nat.le_trans Zl52 K53.1)
        refine g_callV X53 hx hZ 187 rfl (y := (⟨"com/example/stowline/stowline/Der", "hasNext", "()Z"⟩ : MethodName)) hown (hw _ (List.mem_of_getElem? (i := 16) rfl)) (hw _ (List.mem_of_getElem? (i := 17) rfl)) (hw _ (List.mem_of_getElem? (i := 19) rfl)) (hw _ (List.mem_of_getElem? (i := 18) rfl)) (hw _ (List.mem_of_getElem? (i := 3) rfl)) (hw _ (List.mem_of_getElem? (i := 20) rfl)) (by decide) o36 [] [] (rmH l Z a0 hw [] o36 ((2 : Int32) + len) t T53.heap n0 Zl55 P53 D53) rfl E53 (lenOf pd_1 rfl) rfl (by rw [hml]; rfl) (hb hby at_184) (by decide) 0 (Nat.le_of_eq rfl) (by decide) (by decide) (by decide) ?_
        rintro _ T54 L54 X54 ⟨rfl, N54q, e54⟩
        have N54 := Fr.app N53 N54q
        show Goes p e below (T54.setTop (mkF m 187 #[.val (.int p1), .val (.int p2), .val (.int p3), .val (.int p4), .val (.int p5), .val (.ref o1), .val (.int (1 : Int32)), .val (.int tag), .val (.int len), .val (.int t), .val (.ref o36), .val (.int (1 : Int32)), .val (.int (1 : Int32)), .unset] [.int (b2i (decide (((2 : Int32) + len) < t)))])) _
        refine g_iconst X54 hx 188 rfl (2 : Int32) rfl (hb hby at_187) ?_
        refine g_iload X54 hx 190 rfl (hb hby at_188) rfl ?_
        refine g_iadd X54 hx 191 rfl (hb hby at_190) ?_
        refine g_iload X54 hx 193 rfl (hb hby at_191) rfl ?_
        by_cases c193 : ((2 : Int32) + len) < t
        · refine g_icmpN X54 hx 196 rfl (hb hby at_193) (XT.ii_ge_f c193) ?_
          refine g_iconst X54 hx 197 rfl (1 : Int32) rfl (hb hby at_196) ?_
          refine g_goto X54 hx 201 (hb hby at_197) (by decide) (by decide) ?_
          refine g_icmpN X54 hx 204 rfl (hb hby at_201) (XT.ii_ne_f (by simp [b2i, c193])) ?_
          refine g_iconst X54 hx 205 rfl (1 : Int32) rfl (hb hby at_204) ?_
          refine g_goto X54 hx 209 (hb hby at_205) (by decide) (by decide) ?_
          refine g_istore X54 hx 211 rfl (hb hby at_209) #[.val (.int p1), .val (.int p2), .val (.int p3), .val (.int p4), .val (.int p5), .val (.ref o1), .val (.int (1 : Int32)), .val (.int tag), .val (.int len), .val (.int t), .val (.ref o36), .val (.int (1 : Int32)), .val (.int (1 : Int32)), .val (.int (1 : Int32))] rfl ?_
          refine g_iload X54 hx 213 rfl (hb hby at_211) rfl ?_
          refine g_ifN X54 hx 216 rfl (hb hby at_213) (XT.i0_eq_f (by decide)) ?_
          refine g_iload X54 hx 218 rfl (hb hby at_216) rfl ?_
          refine g_ifN X54 hx 221 rfl (hb hby at_218) (XT.i0_eq_f (by decide)) ?_
          refine g_iload X54 hx 223 rfl (hb hby at_221) rfl ?_
          refine g_ifN X54 hx 226 rfl (hb hby at_223) (XT.i0_eq_f (by decide)) ?_
          refine g_iload X54 hx 228 rfl (hb hby at_226) rfl ?_
          refine g_ifN X54 hx 231 rfl (hb hby at_228) (XT.i0_eq_f (by decide)) ?_
          refine g_iconst X54 hx 232 rfl (1 : Int32) rfl (hb hby at_231) ?_
          refine g_goto X54 hx 236 (hb hby at_232) (by decide) (by decide) ?_
          exact g_retZW (s := s) (z' := 0) X54 hx hS (by rw [e54]; exact hk2) hret hlk rfl (hb hby at_236) ⟨rfl, N54⟩ (by decide) (by decide)
        · refine g_icmpY X54 hx 200 (hb hby at_193) (XT.ii_ge_t c193) (by decide) (by decide) ?_
          refine g_iconst X54 hx 201 rfl (0 : Int32) rfl (hb hby at_200) ?_
          refine g_icmpN X54 hx 204 rfl (hb hby at_201) (XT.ii_ne_f (by simp [b2i, c193])) ?_
          refine g_iconst X54 hx 205 rfl (1 : Int32) rfl (hb hby at_204) ?_
          refine g_goto X54 hx 209 (hb hby at_205) (by decide) (by decide) ?_
          refine g_istore X54 hx 211 rfl (hb hby at_209) #[.val (.int p1), .val (.int p2), .val (.int p3), .val (.int p4), .val (.int p5), .val (.ref o1), .val (.int (1 : Int32)), .val (.int tag), .val (.int len), .val (.int t), .val (.ref o36), .val (.int (1 : Int32)), .val (.int (1 : Int32)), .val (.int (1 : Int32))] rfl ?_
          refine g_iload X54 hx 213 rfl (hb hby at_211) rfl ?_
          refine g_ifN X54 hx 216 rfl (hb hby at_213) (XT.i0_eq_f (by decide)) ?_
          refine g_iload X54 hx 218 rfl (hb hby at_216) rfl ?_
          refine g_ifN X54 hx 221 rfl (hb hby at_218) (XT.i0_eq_f (by decide)) ?_
          refine g_iload X54 hx 223 rfl (hb hby at_221) rfl ?_
          refine g_ifN X54 hx 226 rfl (hb hby at_223) (XT.i0_eq_f (by decide)) ?_
          refine g_iload X54 hx 228 rfl (hb hby at_226) rfl ?_
          refine g_ifN X54 hx 231 rfl (hb hby at_228) (XT.i0_eq_f (by decide)) ?_
          refine g_iconst X54 hx 232 rfl (1 : Int32) rfl (hb hby at_231) ?_
          refine g_goto X54 hx 236 (hb hby at_232) (by decide) (by decide) ?_
          exact g_retZW (s := s) (z' := 0) X54 hx hS (by rw [e54]; exact hk2) hret hlk rfl (hb hby at_236) ⟨rfl, N54⟩ (by decide) (by decide)
    · refine g_ifY X42 hx 105 (hb hby at_98) (XT.i0_le_t c98) (by decide) (by decide) ?_
      refine g_iconst X42 hx 106 rfl (0 : Int32) rfl (hb hby at_105) ?_
      refine g_icmpN X42 hx 109 rfl (hb hby at_106) (XT.ii_ne_f (by simp [b2i, c98])) ?_
      refine g_iconst X42 hx 110 rfl (1 : Int32) rfl (hb hby at_109) ?_
      refine g_goto X42 hx 114 (hb hby at_110) (by decide) (by decide) ?_
      refine g_istore X42 hx 116 rfl (hb hby at_114) #[.val (.int p1), .val (.int p2), .val (.int p3), .val (.int p4), .val (.int p5), .val (.ref o1), .val (.int (1 : Int32)), .val (.int tag), .val (.int len), .val (.int t), .val (.ref o36), .val (.int (1 : Int32)), .unset, .unset] rfl ?_
      refine g_aload X42 hx 118 rfl (hb hby at_116) rfl rfl ?_
      have Al56 := ((Al35.ext E36).keep K40 (ninS ne_o1_o36 nin0))
      refine g_callV X42 hx hZ 121 rfl (y := (⟨"com/example/stowline/stowline/Der", "peekTag", "()I"⟩ : MethodName)) hown (hw _ (List.mem_of_getElem? (i := 22) rfl)) (hw _ (List.mem_of_getElem? (i := 23) rfl)) (hw _ (List.mem_of_getElem? (i := 25) rfl)) (hw _ (List.mem_of_getElem? (i := 24) rfl)) (hw _ (List.mem_of_getElem? (i := 3) rfl)) (hw _ (List.mem_of_getElem? (i := 26) rfl)) (by decide) o36 [] [] (rmK l Z a0 hw [] o36 o1 t tag.toInt8.toInt32 _ T40.heap n0 Zl43 B40 P40 D40 E40 Al56 rfl) e42 E40 (lenOf pd_5 rfl) rfl (by rw [hml]; rfl) (hb hby at_118) (by decide) 0 (Nat.le_of_eq rfl) (by decide) (by decide) (by decide) ?_
      rintro _ T57 L57 X57 ⟨rfl, N57q, e57⟩
      have N57 := Fr.app N42 N57q
      show Goes p e below (T57.setTop (mkF m 121 #[.val (.int p1), .val (.int p2), .val (.int p3), .val (.int p4), .val (.int p5), .val (.ref o1), .val (.int (1 : Int32)), .val (.int tag), .val (.int len), .val (.int t), .val (.ref o36), .val (.int (1 : Int32)), .unset, .unset] [.int (if (0 : Int32) < t then tag.toInt8.toInt32 &&& (255 : Int32) else -1)])) _
      refine g_iload X57 hx 123 rfl (hb hby at_121) rfl ?_
      refine g_ifY X57 hx 131 (hb hby at_123) (XT.i0_le_t c98) (by decide) (by decide) ?_
      refine g_iconst X57 hx 132 rfl (-1 : Int32) rfl (hb hby at_131) ?_
      refine g_icmpN X57 hx 135 rfl (hb hby at_132) (XT.ii_ne_f (by rw [if_neg c98])) ?_
      refine g_iconst X57 hx 136 rfl (1 : Int32) rfl (hb hby at_135) ?_
      refine g_goto X57 hx 140 (hb hby at_136) (by decide) (by decide) ?_
      refine g_istore X57 hx 142 rfl (hb hby at_140) #[.val (.int p1), .val (.int p2), .val (.int p3), .val (.int p4), .val (.int p5), .val (.ref o1), .val (.int (1 : Int32)), .val (.int tag), .val (.int len), .val (.int t), .val (.ref o36), .val (.int (1 : Int32)), .val (.int (1 : Int32)), .unset] rfl ?_
      refine g_iconst X57 hx 143 rfl (2 : Int32) rfl (hb hby at_142) ?_
      refine g_iload X57 hx 145 rfl (hb hby at_143) rfl ?_
      refine g_iadd X57 hx 146 rfl (hb hby at_145) ?_
      refine g_iload X57 hx 148 rfl (hb hby at_146) rfl ?_
      refine g_icmpN X57 hx 151 rfl (hb hby at_148) (XT.ii_le_f (by have h1 := c_iadd 2 len; have h2 := rng32 ((2 : Int32) + len); have h3 : (2 : Int32).toInt = 2 := rfl; have h4 : (0 : Int32).toInt = 0 := rfl; rw [Int32.lt_iff_toInt_lt] at c98 ⊢; omega)) ?_
      refine g_iload X57 hx 153 rfl (hb hby at_151) rfl ?_
      refine g_ifN X57 hx 156 rfl (hb hby at_153) (XT.i0_eq_f (by decide)) ?_
      refine g_iload X57 hx 158 rfl (hb hby at_156) rfl ?_
      refine g_ifN X57 hx 161 rfl (hb hby at_158) (XT.i0_eq_f (by decide)) ?_
      refine g_iload X57 hx 163 rfl (hb hby at_161) rfl ?_
      refine g_ifN X57 hx 166 rfl (hb hby at_163) (XT.i0_eq_f (by decide)) ?_
      refine g_iconst X57 hx 167 rfl (1 : Int32) rfl (hb hby at_166) ?_
      refine g_goto X57 hx 171 (hb hby at_167) (by decide) (by decide) ?_
      exact g_retZW (s := s) (vm₁ := s.vm) (z' := 0) X57 hx (own_since s 0) (Nat.zero_le _) hret hlk rfl (hb hby at_171) ⟨rfl, N57⟩ (by decide) (by decide)
set_option maxRecDepth 65536 in
set_option maxHeartbeats 40000000 in
theorem comes_1 {Post : Tables → Env → Array Value → State → Outcome → State → Prop} (hpost : ∀ tb e args s v u, (limb_1_1.after args s (.returned v) u = true ∧ limb_1_2.after args s (.returned v) u = true ∧ True) → ReturnedEndW s (.returned v) u (Jvm.fieldLocs frame_1_writes args s ++ Jvm.arrayLocs frame_1_arrays args s ++ Jvm.staticLocs frame_1_statics s) 24 1152 → Post tb e args s (.returned v) u) :
    ArmFor flags0 classFile x code maxLocals ret World_1 tables_1 room_1 Calls_1 rest_1 Pre_1 Post := by
  intro l hfl _ _ p e ha hc hk s m args below hf hA hF happ hP
  obtain ⟨hcalls, hrest, hpre⟩ := hP
  obtain ⟨-, -, -, hnamed, -, -, -, hat⟩ := (Spec.applies_iff hf).mp happ
  obtain ⟨hg, hn⟩ := and_e (Cond.before_iff.mp (show (Jvm.Cond.and given_1 narrow_1).before args s = true from hpre))
  obtain ⟨h1, hr1⟩ := and_e hg
  obtain ⟨hk1, hr2⟩ := and_e hr1
  obtain ⟨hk2, hr3⟩ := and_e hr2
  obtain ⟨hk3, hr4⟩ := and_e hr3
  obtain ⟨hk4, hr5⟩ := and_e hr4
  obtain ⟨w0, w1, w2, w3, w4, rfl⟩ : ∃ w0 w1 w2 w3 w4 : Value, args = #[w0, w1, w2, w3, w4] := by
    have hs : args.size = 5 := by simpa [Cond.value, given_1] using h1
    obtain ⟨L⟩ := args
    match L, hs with
    | [w0, w1, w2, w3, w4], _ => exact ⟨w0, w1, w2, w3, w4, rfl⟩
  have hw := fun d (hd : d ∈ tables_1) => atoms_spec (ws := Jvm.Cond.code x code maxLocals ret :: tables_1) hat d (List.mem_cons_of_mem _ hd)
  have hfit : Fit s := fun {y c} hc i hi => by
    obtain ⟨ha, rfl⟩ := Array.getElem?_eq_some_iff.mp hc
    have q := List.all_eq_true.mp ((Array.all_eq_true_iff_forall_mem.mp hF) _ (Array.getElem_mem ha)) i (List.mem_range.mpr hi)
    simpa [Array.getElem?_eq_getElem hi] using q
  obtain ⟨i0, e0⟩ := is_v hk1
  obtain rfl : w0 = (.int i0) := Option.some.inj e0
  obtain ⟨i1, e1⟩ := is_v hk2
  obtain rfl : w1 = (.int i1) := Option.some.inj e1
  obtain ⟨i2, e2⟩ := is_v hk3
  obtain rfl : w2 = (.int i2) := Option.some.inj e2
  obtain ⟨i3, e3⟩ := is_v hk4
  obtain rfl : w3 = (.int i3) := Option.some.inj e3
  obtain ⟨i4, e4⟩ := is_v hr5
  obtain rfl : w4 = (.int i4) := Option.some.inj e4
  obtain ⟨n, o, h1, h2, h3, _, L, rfl, ⟨rfl, N⟩, hq⟩ := rm0 l s _ hw tables_1 i0 i1 i2 i3 i4  s.heap s.heap.size (Nat.le_refl _)  p e ha hc hk s m _ below hf ((Spec.applies_iff_loose hf).mp happ).1 ⟨rfl, State.Warmed39.refl s, rfl⟩ trivial
  refine ⟨n, _, h1, h2, h3, hpost _ _ _ _ _ _ ⟨Cond.after_iff.mpr rfl, Cond.after_iff.mpr (eq_i res_at (Term.int_eval (1)) rfl), trivial⟩ ⟨hq.1, hq.2.1, hq.2.2.1, (hq.2.2.2.sift fun y hy => Or.inr (N y hy)).mono (by decide) (by decide)⟩⟩
theorem main_1_1 : Claimed_1_1 := comes_1 fun _ _ _ _ _ _ h hF => ⟨h.1, hF⟩
theorem main_1_2 : Claimed_1_2 := comes_1 fun _ _ _ _ _ _ h hF => ⟨h.2.1, hF⟩
end Jvm.Pilot.@@N@@
namespace Jvm.Pilot.@@N@@
open Jvm Jvm.ClassFile Sem Op Lib Jvm.Free Jvm.Stand Jvm.Pilot.@@N@@.Jvm.D
/-! MADE BY PROGRAM (witnessworld.py) out of the Statement's table words and the real class files: 16 classes; the members and pool entries that the words name. The judged class is class 1, her method 1. -/
namespace start1
open Jvm.ClassFile
def u (s : String) : CpInfo := .utf8 (stringToUtf16 s)
/-- a pool by its gaps: so many unusable entries, then the entry; so many at the end -/
def gap : Nat → List CpInfo → List CpInfo
  | 0, r => r
  | n + 1, r => .unusable :: gap n r
def poolList (es : List (Nat × CpInfo)) (last : Nat) : List CpInfo := es.foldr (fun e r => gap e.1 (e.2 :: r)) (gap last [])
def pool (es : List (Nat × CpInfo)) (last : Nat) : Array CpInfo := ⟨poolList es last⟩
def fileOf (pool : Array CpInfo) (this : Nat) (attrs : Array Attribute := #[]) (ms : Array MethodInfo := #[]) (fl : Nat := 33) (sup : Nat := 0) (ifs : Array Nat := #[]) (fds : Array FieldInfo := #[]) : ClassFile where
  minorVersion := 0
  majorVersion := 65
  constantPool := pool
  accessFlags := fl
  thisClass := this
  superClass := sup
  interfaces := ifs
  fields := fds
  methods := ms
  attributes := attrs
def plain (name : String) (sup : Option ClassId) : Class where
  name := name
  kind := .ordinary
  loader := none
  accessFlags := 33
  super := sup
  interfaces := #[]
  cf := none
  fields := #[]
  methods := #[]
  instanceTypes := #[]
  staticTypes := #[]
  resolved := #[]
  callSites := []
  init := .initialized
  statics := none
  mirror := none

def pool0 : Array CpInfo := pool [(5, u "<init>"), (0, u "()V"), (1, .class_ 10), (1, u "java/lang/Object")] 113

def k0c0 : Code := { maxStack := 0, maxLocals := 1, code := object_method_1_code, exceptionTable := #[], attributes := #[] }
def k0m0 : Method := { name := "<init>", desc := "()V", sig := { parameters := [], returnType := none }, accessFlags := 1, code := some k0c0 }
/-- java/lang/Object -/
def k0 : Class := { plain "java/lang/Object" none with
  accessFlags := 33
  interfaces := #[]
  cf := some (fileOf pool0 8 #[] #[{ accessFlags := 1, nameIndex := 5, descriptorIndex := 6, attributes := #[] }] 33 0 #[] #[])
  fields := #[]
  methods := #[k0m0]
  instanceTypes := #[]
  staticTypes := #[]
  resolved := Array.replicate 124 none
  statics := none }

def pool1 : Array CpInfo := pool [(2, .class_ 4), (1, u "java/lang/Object"), (0, u "<init>"), (0, u "()V"), (0, .class_ 8), (0, u "com/example/stowline/stowline/Der"), (0, .methodref 7 10), (0, .nameAndType 5 11), (0, u "([BII)V"), (0, .methodref 7 13), (0, .nameAndType 14 15), (0, u "hasNext"), (0, u "()Z"), (0, .integer 2147483647), (0, .methodref 7 18), (0, .nameAndType 19 20), (0, u "peekTag"), (0, u "()I"), (0, .string 22), (0, u "x"), (0, .methodref 7 24), (0, .nameAndType 25 26), (0, u "next"), (0, u "(ILjava/lang/String;)Lcom/example/stowline/stowline/Der$Value;"), (0, .class_ 28), (0, u "com/example/stowline/stowline/DerHasNextPinLaw"), (2, u "law"), (0, u "(IIIII)Z")] 12

def k1m0 : Method := { name := "<init>", desc := "()V", sig := { parameters := [], returnType := none }, accessFlags := 1, code := none }
def k1c1 : Code := { maxStack := 5, maxLocals := 14, code := code, exceptionTable := #[], attributes := #[] }
def k1m1 : Method := { name := "law", desc := "(IIIII)Z", sig := { parameters := [.int, .int, .int, .int, .int], returnType := some .boolean }, accessFlags := 9, code := some k1c1 }
/-- com/example/stowline/stowline/DerHasNextPinLaw -/
def k1 : Class := { plain "com/example/stowline/stowline/DerHasNextPinLaw" (some 0) with
  accessFlags := 49
  interfaces := #[]
  cf := some (fileOf pool1 27 #[] #[{ accessFlags := 1, nameIndex := 5, descriptorIndex := 6, attributes := #[] }, { accessFlags := 9, nameIndex := 31, descriptorIndex := 32, attributes := #[] }] 49 2 #[] #[])
  fields := #[]
  methods := #[k1m0, k1m1]
  instanceTypes := #[]
  staticTypes := #[]
  resolved := Array.replicate 45 none
  statics := none }

def pool2 : Array CpInfo := pool [(1, .methodref 2 3), (0, .class_ 4), (0, .nameAndType 5 6), (0, u "java/lang/Object"), (0, u "<init>"), (0, u "()V"), (0, .fieldref 8 9), (0, .class_ 10), (0, .nameAndType 11 12), (0, u "com/example/stowline/stowline/Der"), (0, u "bytes"), (0, u "[B"), (0, .fieldref 8 14), (0, .nameAndType 15 16), (0, u "position"), (0, u "I"), (0, .fieldref 8 18), (0, .nameAndType 19 16), (0, u "end"), (2, u "([BII)V"), (2, u "next"), (0, u "(ILjava/lang/String;)Lcom/example/stowline/stowline/Der$Value;"), (0, .methodref 8 28), (0, .nameAndType 29 30), (0, u "hasNext"), (0, u "()Z"), (3, .class_ 36), (1, u "com/example/stowline/stowline/Der$Value"), (0, u "()I"), (24, .methodref 8 63), (0, .nameAndType 25 64), (0, u "(Ljava/lang/String;)Lcom/example/stowline/stowline/Der$Value;"), (4, .methodref 34 70), (0, .nameAndType 5 71), (0, u "(I[BIII)V"), (0, u "INTEGER"), (2, u "OBJECT_IDENTIFIER"), (1, u "SEQUENCE"), (1, u "SET"), (1, u "CONTEXT_0"), (1, u "CONTEXT_1"), (1, u "CONTEXT_0_PRIMITIVE"), (7, u "peekTag")] 29

def k2c0 : Code := { maxStack := 2, maxLocals := 4, code := prog_30_method_1_code, exceptionTable := #[], attributes := #[] }
def k2m0 : Method := { name := "<init>", desc := "([BII)V", sig := { parameters := [(.array .byte), .int, .int], returnType := none }, accessFlags := 0, code := some k2c0 }
def k2c1 : Code := { maxStack := 2, maxLocals := 1, code := prog_30_method_3_code, exceptionTable := #[], attributes := #[] }
def k2m1 : Method := { name := "hasNext", desc := "()Z", sig := { parameters := [], returnType := some .boolean }, accessFlags := 0, code := some k2c1 }
def k2c2 : Code := { maxStack := 7, maxLocals := 4, code := prog_30_method_4_code, exceptionTable := #[], attributes := #[] }
def k2m2 : Method := { name := "next", desc := "(ILjava/lang/String;)Lcom/example/stowline/stowline/Der$Value;", sig := { parameters := [.int, (.object "java/lang/String")], returnType := some (.object "com/example/stowline/stowline/Der$Value") }, accessFlags := 0, code := some k2c2 }
def k2c3 : Code := { maxStack := 2, maxLocals := 1, code := prog_30_method_5_code, exceptionTable := #[], attributes := #[] }
def k2m3 : Method := { name := "peekTag", desc := "()I", sig := { parameters := [], returnType := some .int }, accessFlags := 0, code := some k2c3 }
def k2c4 : Code := { maxStack := 7, maxLocals := 10, code := prog_30_method_6_code, exceptionTable := #[], attributes := #[] }
def k2m4 : Method := { name := "next", desc := "(Ljava/lang/String;)Lcom/example/stowline/stowline/Der$Value;", sig := { parameters := [(.object "java/lang/String")], returnType := some (.object "com/example/stowline/stowline/Der$Value") }, accessFlags := 2, code := some k2c4 }
/-- com/example/stowline/stowline/Der -/
def k2 : Class := { plain "com/example/stowline/stowline/Der" (some 0) with
  accessFlags := 48
  interfaces := #[]
  cf := some (fileOf pool2 8 #[.nestMembers #[34]] #[{ accessFlags := 0, nameIndex := 5, descriptorIndex := 22, attributes := #[] }, { accessFlags := 0, nameIndex := 29, descriptorIndex := 30, attributes := #[] }, { accessFlags := 0, nameIndex := 25, descriptorIndex := 26, attributes := #[] }, { accessFlags := 0, nameIndex := 93, descriptorIndex := 37, attributes := #[] }, { accessFlags := 2, nameIndex := 25, descriptorIndex := 64, attributes := #[] }] 48 2 #[] #[{ accessFlags := 24, nameIndex := 72, descriptorIndex := 16, attributes := #[] }, { accessFlags := 24, nameIndex := 75, descriptorIndex := 16, attributes := #[] }, { accessFlags := 24, nameIndex := 77, descriptorIndex := 16, attributes := #[] }, { accessFlags := 24, nameIndex := 79, descriptorIndex := 16, attributes := #[] }, { accessFlags := 24, nameIndex := 81, descriptorIndex := 16, attributes := #[] }, { accessFlags := 24, nameIndex := 83, descriptorIndex := 16, attributes := #[] }, { accessFlags := 24, nameIndex := 85, descriptorIndex := 16, attributes := #[] }, { accessFlags := 18, nameIndex := 11, descriptorIndex := 12, attributes := #[] }, { accessFlags := 18, nameIndex := 19, descriptorIndex := 16, attributes := #[] }, { accessFlags := 2, nameIndex := 15, descriptorIndex := 16, attributes := #[] }])
  fields := #[{ name := "INTEGER", type := .int, accessFlags := 24, slot := 0, constantValue := 0 }, { name := "OBJECT_IDENTIFIER", type := .int, accessFlags := 24, slot := 1, constantValue := 0 }, { name := "SEQUENCE", type := .int, accessFlags := 24, slot := 2, constantValue := 0 }, { name := "SET", type := .int, accessFlags := 24, slot := 3, constantValue := 0 }, { name := "CONTEXT_0", type := .int, accessFlags := 24, slot := 4, constantValue := 0 }, { name := "CONTEXT_1", type := .int, accessFlags := 24, slot := 5, constantValue := 0 }, { name := "CONTEXT_0_PRIMITIVE", type := .int, accessFlags := 24, slot := 6, constantValue := 0 }, { name := "bytes", type := (.array .byte), accessFlags := 18, slot := 0, constantValue := 0 }, { name := "end", type := .int, accessFlags := 18, slot := 1, constantValue := 0 }, { name := "position", type := .int, accessFlags := 2, slot := 2, constantValue := 0 }]
  methods := #[k2m0, k2m1, k2m2, k2m3, k2m4]
  instanceTypes := #[(.array .byte), .int, .int]
  staticTypes := #[.int, .int, .int, .int, .int, .int, .int]
  resolved := Array.replicate 123 none
  statics := none }

def pool3 : Array CpInfo := pool [(1, .class_ 2), (0, u "java/io/Serializable"), (0, .class_ 4), (0, u "java/lang/Object")] 2

/-- java/io/Serializable -/
def k3 : Class := { plain "java/io/Serializable" (some 0) with
  accessFlags := 1537
  interfaces := #[]
  cf := some (fileOf pool3 1 #[] #[] 1537 3 #[] #[])
  fields := #[]
  methods := #[]
  instanceTypes := #[]
  staticTypes := #[]
  resolved := Array.replicate 7 none
  statics := none }

def pool4 : Array CpInfo := pool [(1, .class_ 2), (0, u "java/lang/Comparable"), (0, .class_ 4), (0, u "java/lang/Object")] 7

/-- java/lang/Comparable -/
def k4 : Class := { plain "java/lang/Comparable" (some 0) with
  accessFlags := 1537
  interfaces := #[]
  cf := some (fileOf pool4 1 #[] #[] 1537 3 #[] #[])
  fields := #[]
  methods := #[]
  instanceTypes := #[]
  staticTypes := #[]
  resolved := Array.replicate 12 none
  statics := none }

def pool5 : Array CpInfo := pool [(2, .class_ 4), (1, u "java/lang/CharSequence"), (42, .class_ 48), (0, u "java/lang/CharSequence$1CodePointIterator"), (10, .class_ 60), (0, u "java/lang/CharSequence$1CharIterator"), (5, .class_ 67), (0, u "java/lang/Object")] 63

/-- java/lang/CharSequence -/
def k5 : Class := { plain "java/lang/CharSequence" (some 0) with
  accessFlags := 1537
  interfaces := #[]
  cf := some (fileOf pool5 2 #[.nestMembers #[47, 59]] #[] 1537 66 #[] #[])
  fields := #[]
  methods := #[]
  instanceTypes := #[]
  staticTypes := #[]
  resolved := Array.replicate 131 none
  statics := none }

def pool6 : Array CpInfo := pool [(1, .class_ 2), (0, u "java/lang/constant/Constable"), (0, .class_ 4), (0, u "java/lang/Object")] 6

/-- java/lang/constant/Constable -/
def k6 : Class := { plain "java/lang/constant/Constable" (some 0) with
  accessFlags := 1537
  interfaces := #[]
  cf := some (fileOf pool6 1 #[] #[] 1537 3 #[] #[])
  fields := #[]
  methods := #[]
  instanceTypes := #[]
  staticTypes := #[]
  resolved := Array.replicate 11 none
  statics := none }

def pool7 : Array CpInfo := pool [(1, .class_ 2), (0, u "java/lang/constant/ConstantDesc"), (0, .class_ 4), (0, u "java/lang/Object")] 32

/-- java/lang/constant/ConstantDesc -/
def k7 : Class := { plain "java/lang/constant/ConstantDesc" (some 0) with
  accessFlags := 1537
  interfaces := #[]
  cf := some (fileOf pool7 1 #[] #[] 1537 3 #[] #[])
  fields := #[]
  methods := #[]
  instanceTypes := #[]
  staticTypes := #[]
  resolved := Array.replicate 37 none
  statics := none }

def pool8 : Array CpInfo := pool [(2, .class_ 4), (1, u "java/lang/Object"), (0, u "<init>"), (0, u "()V"), (3, .class_ 12), (1, u "java/lang/String"), (0, u "value"), (0, u "[B"), (2, u "coder"), (0, u "B"), (2, u "hash"), (0, u "I"), (2, u "hashIsZero"), (0, u "Z"), (13, u "COMPACT_STRINGS"), (534, .class_ 576), (0, u "java/lang/CharSequence"), (22, u "CASE_INSENSITIVE_ORDER"), (0, u "Ljava/util/Comparator;"), (500, u "serialPersistentFields"), (0, u "[Ljava/io/ObjectStreamField;"), (0, .class_ 1104), (0, u "java/lang/String$CaseInsensitiveComparator"), (1, .class_ 1107), (0, u "java/io/Serializable"), (0, .class_ 1109), (0, u "java/lang/Comparable"), (0, .class_ 1111), (0, u "java/lang/constant/Constable"), (0, .class_ 1113), (0, u "java/lang/constant/ConstantDesc"), (2, u "serialVersionUID"), (0, u "J"), (3, u "REPL"), (0, u "C"), (2, u "LATIN1"), (1, u "UTF16")] 323

def k8m0 : Method := { name := "<init>", desc := "()V", sig := { parameters := [], returnType := none }, accessFlags := 1, code := none }
/-- java/lang/String -/
def k8 : Class := { plain "java/lang/String" (some 0) with
  accessFlags := 49
  interfaces := #[3, 4, 5, 6, 7]
  cf := some (fileOf pool8 10 #[.nestMembers #[1103]] #[{ accessFlags := 1, nameIndex := 5, descriptorIndex := 6, attributes := #[] }] 49 2 #[1106, 1108, 575, 1110, 1112] #[{ accessFlags := 18, nameIndex := 13, descriptorIndex := 14, attributes := #[] }, { accessFlags := 18, nameIndex := 17, descriptorIndex := 18, attributes := #[] }, { accessFlags := 2, nameIndex := 21, descriptorIndex := 22, attributes := #[] }, { accessFlags := 2, nameIndex := 25, descriptorIndex := 26, attributes := #[] }, { accessFlags := 26, nameIndex := 1116, descriptorIndex := 1117, attributes := #[] }, { accessFlags := 24, nameIndex := 40, descriptorIndex := 26, attributes := #[] }, { accessFlags := 26, nameIndex := 1101, descriptorIndex := 1102, attributes := #[] }, { accessFlags := 26, nameIndex := 1121, descriptorIndex := 1122, attributes := #[] }, { accessFlags := 25, nameIndex := 599, descriptorIndex := 600, attributes := #[] }, { accessFlags := 24, nameIndex := 1125, descriptorIndex := 18, attributes := #[] }, { accessFlags := 24, nameIndex := 1127, descriptorIndex := 18, attributes := #[] }])
  fields := #[{ name := "value", type := (.array .byte), accessFlags := 18, slot := 0, constantValue := 0 }, { name := "coder", type := .byte, accessFlags := 18, slot := 1, constantValue := 0 }, { name := "hash", type := .int, accessFlags := 2, slot := 2, constantValue := 0 }, { name := "hashIsZero", type := .boolean, accessFlags := 2, slot := 3, constantValue := 0 }, { name := "serialVersionUID", type := .long, accessFlags := 26, slot := 0, constantValue := 0 }, { name := "COMPACT_STRINGS", type := .boolean, accessFlags := 24, slot := 1, constantValue := 0 }, { name := "serialPersistentFields", type := (.array (.object "java/io/ObjectStreamField")), accessFlags := 26, slot := 2, constantValue := 0 }, { name := "REPL", type := .char, accessFlags := 26, slot := 3, constantValue := 0 }, { name := "CASE_INSENSITIVE_ORDER", type := (.object "java/util/Comparator"), accessFlags := 25, slot := 4, constantValue := 0 }, { name := "LATIN1", type := .byte, accessFlags := 24, slot := 5, constantValue := 0 }, { name := "UTF16", type := .byte, accessFlags := 24, slot := 6, constantValue := 0 }]
  methods := #[k8m0]
  instanceTypes := #[(.array .byte), .byte, .int, .boolean]
  staticTypes := #[.long, .boolean, (.array (.object "java/io/ObjectStreamField")), .char, (.object "java/util/Comparator"), .byte, .byte]
  resolved := Array.replicate 1451 none
  statics := none }

def pool9 : Array CpInfo := pool [(1, .methodref 2 3), (0, .class_ 4), (0, .nameAndType 5 6), (0, u "java/lang/Object"), (0, u "<init>"), (0, u "()V"), (0, .class_ 8), (0, u "java/lang/Record")] 13

def k9c0 : Code := { maxStack := 1, maxLocals := 1, code := jdk_30_method_1_code, exceptionTable := #[], attributes := #[] }
def k9m0 : Method := { name := "<init>", desc := "()V", sig := { parameters := [], returnType := none }, accessFlags := 4, code := some k9c0 }
/-- java/lang/Record -/
def k9 : Class := { plain "java/lang/Record" (some 0) with
  accessFlags := 1057
  interfaces := #[]
  cf := some (fileOf pool9 7 #[] #[{ accessFlags := 4, nameIndex := 5, descriptorIndex := 6, attributes := #[] }] 1057 2 #[] #[])
  fields := #[]
  methods := #[k9m0]
  instanceTypes := #[]
  staticTypes := #[]
  resolved := Array.replicate 22 none
  statics := none }

def pool10 : Array CpInfo := pool [(1, .methodref 2 3), (0, .class_ 4), (0, .nameAndType 5 6), (0, u "java/lang/Record"), (0, u "<init>"), (0, u "()V"), (0, .fieldref 8 9), (0, .class_ 10), (0, .nameAndType 11 12), (0, u "com/example/stowline/stowline/Der$Value"), (0, u "tag"), (0, u "I"), (0, .fieldref 8 14), (0, .nameAndType 15 16), (0, u "bytes"), (0, u "[B"), (0, .fieldref 8 18), (0, .nameAndType 19 12), (0, u "start"), (0, .fieldref 8 21), (0, .nameAndType 22 12), (0, u "contentStart"), (0, .fieldref 8 24), (0, .nameAndType 25 12), (0, u "end"), (6, .class_ 33), (0, u "com/example/stowline/stowline/Der"), (15, u "(I[BIII)V")] 36

def k10c0 : Code := { maxStack := 2, maxLocals := 6, code := prog_31_method_1_code, exceptionTable := #[], attributes := #[] }
def k10m0 : Method := { name := "<init>", desc := "(I[BIII)V", sig := { parameters := [.int, (.array .byte), .int, .int, .int], returnType := none }, accessFlags := 0, code := some k10c0 }
/-- com/example/stowline/stowline/Der$Value -/
def k10 : Class := { plain "com/example/stowline/stowline/Der$Value" (some 9) with
  accessFlags := 48
  interfaces := #[]
  cf := some (fileOf pool10 8 #[.nestHost 32] #[{ accessFlags := 0, nameIndex := 5, descriptorIndex := 49, attributes := #[] }] 48 2 #[] #[{ accessFlags := 18, nameIndex := 11, descriptorIndex := 12, attributes := #[] }, { accessFlags := 18, nameIndex := 15, descriptorIndex := 16, attributes := #[] }, { accessFlags := 18, nameIndex := 19, descriptorIndex := 12, attributes := #[] }, { accessFlags := 18, nameIndex := 22, descriptorIndex := 12, attributes := #[] }, { accessFlags := 18, nameIndex := 25, descriptorIndex := 12, attributes := #[] }])
  fields := #[{ name := "tag", type := .int, accessFlags := 18, slot := 0, constantValue := 0 }, { name := "bytes", type := (.array .byte), accessFlags := 18, slot := 1, constantValue := 0 }, { name := "start", type := .int, accessFlags := 18, slot := 2, constantValue := 0 }, { name := "contentStart", type := .int, accessFlags := 18, slot := 3, constantValue := 0 }, { name := "end", type := .int, accessFlags := 18, slot := 4, constantValue := 0 }]
  methods := #[k10m0]
  instanceTypes := #[.int, (.array .byte), .int, .int, .int]
  staticTypes := #[]
  resolved := Array.replicate 86 none
  statics := none }

def pool11 : Array CpInfo := pool [(1, u "java/lang/Cloneable"), (0, .class_ 1), (0, u "java/lang/Object"), (0, .class_ 3)] 3

/-- java/lang/Cloneable -/
def k11 : Class := { plain "java/lang/Cloneable" (some 0) with
  accessFlags := 1537
  interfaces := #[]
  cf := some (fileOf pool11 2 #[] #[] 1537 4 #[] #[])
  fields := #[]
  methods := #[]
  instanceTypes := #[]
  staticTypes := #[]
  resolved := Array.replicate 8 none
  statics := none }

/-- the primitive byte -/
def k12 : Class := { plain "byte" none with kind := .primitive 'B', accessFlags := 0x411 }
/-- [B -/
def k13 : Class := { plain "[B" (some 0) with kind := .array 12 .byte, interfaces := #[11, 3], accessFlags := 1041 }

/-- the primitive int -/
def k14 : Class := { plain "int" none with kind := .primitive 'I', accessFlags := 0x411 }
/-- [I -/
def k15 : Class := { plain "[I" (some 0) with kind := .array 14 .int, interfaces := #[11, 3], accessFlags := 1041 }

def heap : Heap := #[]
def classes : Array Class := #[k0, k1, k2, k3, k4, k5, k6, k7, k8, k9, k10, k11, k12, k13, k14, k15]
def interned : List (Array UInt16 × Addr) := []
def slotsUsed : Nat := 0
def theMethod : MethodId := ⟨1, 1⟩
def args0 : Array Value := #[.int 1, .int 5, .int 48, .int 2, .int 6]
def aboutOver (below : List Frame) : State where
  vm := { classes := classes, interned := interned.toArray }
  heap := heap
  slotsUsed := slotsUsed
  threads := #[{ frames := .invoking theMethod args0 :: below }]
def below0 : List Frame := [.native { method := ⟨0, 0⟩, args := #[] }]
def about1 : State := aboutOver below0
def p0 : Program := .bare "" "" ""
def e0 : Env := launch0.env 0 0 0
theorem w_frames : about1.frames = Frame.invoking theMethod args0 :: below0 := rfl
set_option maxRecDepth 65536 in
theorem w_args : argsFit about1.vm theMethod args0 = true := by decide +kernel
set_option maxRecDepth 65536 in
theorem w_heap : heapFits about1 = true := by decide +kernel
set_option maxRecDepth 65536 in
theorem w_runnable : about1.curStatus? = some .runnable := by decide +kernel
set_option maxRecDepth 65536 in
theorem w_alone : about1.alone = true := by decide +kernel
set_option maxRecDepth 65536 in
theorem w_named : about1.methodNamed? x = some theMethod := by decide +kernel
set_option maxRecDepth 65536 in
theorem w_hears : about1.hears theMethod below0 = true := by decide +kernel
set_option maxRecDepth 65536 in
theorem w_ripe : about1.ripe theMethod args0 below0 = true := by decide +kernel
theorem w_running : about1.status = .running := rfl
set_option maxRecDepth 65536 in
theorem w_room : about1.hasRoom e0.platform room_1 = true :=
  launch0.hasRoom_least _ room_1 (by decide +kernel) (by decide +kernel) (by decide +kernel) (by decide +kernel) (by decide +kernel) (by decide +kernel)
theorem allAtoms_all (ts : List Jvm.Cond) (a : Array Jvm.Value) (st : Jvm.State) : (allAtoms ts).before a st = ts.all (fun c => c.before a st) := by
  induction ts with
  | nil => rfl
  | cons c t ih =>
    show (Jvm.Cond.and c (allAtoms t)).before a st = _
    rw [Jvm.Cond.before_and, ih, List.all_cons]
def words1 : List Jvm.Cond := Jvm.Cond.code x code maxLocals ret :: tables_1
/-- a 'code' word, met by the world's own term for the bytes: nothing is compared byte by byte -/
theorem code_word {y : MethodName} {bytes : ByteArray} {mx : Nat} {rt : Option FieldType} {a : Array Value} {s : State} {m : MethodId} {meth : Method} {c : Code} (h1 : s.methodNamed? y = some m) (h2 : s.vm.method? m = some meth) (h3 : meth.code = some c) (h4 : c.code = bytes)
    (h5 : (c.maxLocals == mx && c.exceptionTable.isEmpty && decide (c.maxStack ≤ mostOperands) && decide (meth.sig.returnType = rt) && !meth.locks && decide (parseMethodDescriptor y.desc = some meth.sig)) = true) : (Jvm.Cond.code y bytes mx rt).before a s = true := by
  simp only [Bool.and_eq_true, beq_iff_eq, Bool.not_eq_true', decide_eq_true_eq] at h5
  obtain ⟨⟨⟨⟨⟨g1, g2⟩, g3⟩, g4⟩, g5⟩, g6⟩ := h5
  simp [Cond.before, Cond.holds, Cond.value, h1, h2, h3, h4, g1, g2, g3, g4, g5, g6]
def isCode : Jvm.Cond → Bool
  | .code _ _ _ _ => true
  | _ => false
theorem all_split {L : List Jvm.Cond} {P : Jvm.Cond → Bool} (h1 : L.all (fun c => isCode c || P c) = true) (h2 : ∀ c ∈ L.filter isCode, P c = true) : L.all P = true := by
  refine List.all_eq_true.mpr fun c hc => ?_
  have h := List.all_eq_true.mp h1 c hc
  rcases Bool.eq_false_or_eq_true (isCode c) with hi | hi
  · exact h2 c (List.mem_filter.mpr ⟨hc, hi⟩)
  · simpa [hi] using h
set_option maxRecDepth 65536 in
theorem w_c0 : (Jvm.Cond.code x code maxLocals ret).before args0 about1 = true := code_word (m := ⟨1, 1⟩) (meth := k1m1) (c := k1c1) (by decide +kernel) rfl rfl rfl (by decide +kernel)
set_option maxRecDepth 65536 in
theorem w_c1 : (Jvm.Cond.code ({ cls := "com/example/stowline/stowline/Der", name := "<init>", desc := "([BII)V" } : Jvm.MethodName) prog_30_method_1_code (4 : Nat) (Option.none : Option Jvm.ClassFile.FieldType)).before args0 about1 = true := code_word (m := ⟨2, 0⟩) (meth := k2m0) (c := k2c0) (by decide +kernel) rfl rfl rfl (by decide +kernel)
set_option maxRecDepth 65536 in
theorem w_c2 : (Jvm.Cond.code ({ cls := "java/lang/Object", name := "<init>", desc := "()V" } : Jvm.MethodName) object_method_1_code (1 : Nat) (Option.none : Option Jvm.ClassFile.FieldType)).before args0 about1 = true := code_word (m := ⟨0, 0⟩) (meth := k0m0) (c := k0c0) (by decide +kernel) rfl rfl rfl (by decide +kernel)
set_option maxRecDepth 65536 in
theorem w_c3 : (Jvm.Cond.code ({ cls := "com/example/stowline/stowline/Der", name := "hasNext", desc := "()Z" } : Jvm.MethodName) prog_30_method_3_code (1 : Nat) (Option.some Jvm.ClassFile.FieldType.boolean)).before args0 about1 = true := code_word (m := ⟨2, 1⟩) (meth := k2m1) (c := k2c1) (by decide +kernel) rfl rfl rfl (by decide +kernel)
set_option maxRecDepth 65536 in
theorem w_c4 : (Jvm.Cond.code ({ cls := "com/example/stowline/stowline/Der", name := "peekTag", desc := "()I" } : Jvm.MethodName) prog_30_method_5_code (1 : Nat) (Option.some Jvm.ClassFile.FieldType.int)).before args0 about1 = true := code_word (m := ⟨2, 3⟩) (meth := k2m3) (c := k2c3) (by decide +kernel) rfl rfl rfl (by decide +kernel)
set_option maxRecDepth 65536 in
theorem w_c5 : (Jvm.Cond.code ({ cls := "com/example/stowline/stowline/Der", name := "next", desc := "(ILjava/lang/String;)Lcom/example/stowline/stowline/Der$Value;" } : Jvm.MethodName) prog_30_method_4_code (4 : Nat) (Option.some (Jvm.ClassFile.FieldType.object "com/example/stowline/stowline/Der$Value"))).before args0 about1 = true := code_word (m := ⟨2, 2⟩) (meth := k2m2) (c := k2c2) (by decide +kernel) rfl rfl rfl (by decide +kernel)
set_option maxRecDepth 65536 in
theorem w_c6 : (Jvm.Cond.code ({ cls := "com/example/stowline/stowline/Der", name := "next", desc := "(Ljava/lang/String;)Lcom/example/stowline/stowline/Der$Value;" } : Jvm.MethodName) prog_30_method_6_code (10 : Nat) (Option.some (Jvm.ClassFile.FieldType.object "com/example/stowline/stowline/Der$Value"))).before args0 about1 = true := code_word (m := ⟨2, 4⟩) (meth := k2m4) (c := k2c4) (by decide +kernel) rfl rfl rfl (by decide +kernel)
set_option maxRecDepth 65536 in
theorem w_c7 : (Jvm.Cond.code ({ cls := "com/example/stowline/stowline/Der$Value", name := "<init>", desc := "(I[BIII)V" } : Jvm.MethodName) prog_31_method_1_code (6 : Nat) (Option.none : Option Jvm.ClassFile.FieldType)).before args0 about1 = true := code_word (m := ⟨10, 0⟩) (meth := k10m0) (c := k10c0) (by decide +kernel) rfl rfl rfl (by decide +kernel)
set_option maxRecDepth 65536 in
theorem w_c8 : (Jvm.Cond.code ({ cls := "java/lang/Record", name := "<init>", desc := "()V" } : Jvm.MethodName) jdk_30_method_1_code (1 : Nat) (Option.none : Option Jvm.ClassFile.FieldType)).before args0 about1 = true := code_word (m := ⟨9, 0⟩) (meth := k9m0) (c := k9c0) (by decide +kernel) rfl rfl rfl (by decide +kernel)
def codes1 : List Jvm.Cond := [Jvm.Cond.code x code maxLocals ret, Jvm.Cond.code ({ cls := "com/example/stowline/stowline/Der", name := "<init>", desc := "([BII)V" } : Jvm.MethodName) prog_30_method_1_code (4 : Nat) (Option.none : Option Jvm.ClassFile.FieldType), Jvm.Cond.code ({ cls := "java/lang/Object", name := "<init>", desc := "()V" } : Jvm.MethodName) object_method_1_code (1 : Nat) (Option.none : Option Jvm.ClassFile.FieldType), Jvm.Cond.code ({ cls := "com/example/stowline/stowline/Der", name := "hasNext", desc := "()Z" } : Jvm.MethodName) prog_30_method_3_code (1 : Nat) (Option.some Jvm.ClassFile.FieldType.boolean), Jvm.Cond.code ({ cls := "com/example/stowline/stowline/Der", name := "peekTag", desc := "()I" } : Jvm.MethodName) prog_30_method_5_code (1 : Nat) (Option.some Jvm.ClassFile.FieldType.int), Jvm.Cond.code ({ cls := "com/example/stowline/stowline/Der", name := "next", desc := "(ILjava/lang/String;)Lcom/example/stowline/stowline/Der$Value;" } : Jvm.MethodName) prog_30_method_4_code (4 : Nat) (Option.some (Jvm.ClassFile.FieldType.object "com/example/stowline/stowline/Der$Value")), Jvm.Cond.code ({ cls := "com/example/stowline/stowline/Der", name := "next", desc := "(Ljava/lang/String;)Lcom/example/stowline/stowline/Der$Value;" } : Jvm.MethodName) prog_30_method_6_code (10 : Nat) (Option.some (Jvm.ClassFile.FieldType.object "com/example/stowline/stowline/Der$Value")), Jvm.Cond.code ({ cls := "com/example/stowline/stowline/Der$Value", name := "<init>", desc := "(I[BIII)V" } : Jvm.MethodName) prog_31_method_1_code (6 : Nat) (Option.none : Option Jvm.ClassFile.FieldType), Jvm.Cond.code ({ cls := "java/lang/Record", name := "<init>", desc := "()V" } : Jvm.MethodName) jdk_30_method_1_code (1 : Nat) (Option.none : Option Jvm.ClassFile.FieldType)]
set_option maxRecDepth 65536 in
theorem codes_eq : words1.filter isCode = codes1 := rfl
theorem w_codes : ∀ c ∈ words1.filter isCode, c.before args0 about1 = true := by
  rw [codes_eq]
  intro c hc
  simp only [codes1, List.mem_cons, List.not_mem_nil, or_false] at hc
  rcases hc with rfl | rfl | rfl | rfl | rfl | rfl | rfl | rfl | rfl
  · exact w_c0
  · exact w_c1
  · exact w_c2
  · exact w_c3
  · exact w_c4
  · exact w_c5
  · exact w_c6
  · exact w_c7
  · exact w_c8
set_option maxRecDepth 65536 in
theorem w_t1 : (words1.take 24).all (fun c => isCode c || c.before args0 about1) = true := by decide +kernel
set_option maxRecDepth 65536 in
theorem w_t2 : ((words1.drop 24).take 24).all (fun c => isCode c || c.before args0 about1) = true := by decide +kernel
set_option maxRecDepth 65536 in
theorem w_t3 : ((words1.drop 24).drop 24).all (fun c => isCode c || c.before args0 about1) = true := by decide +kernel
theorem w_tables : (allAtoms (Jvm.Cond.code x code maxLocals ret :: tables_1)).before args0 about1 = true := by
  rw [allAtoms_all]
  show words1.all (fun c => c.before args0 about1) = true
  refine all_split ?_ w_codes
  rw [← List.take_append_drop 24 words1, List.all_append, w_t1, ← List.take_append_drop 24 (words1.drop 24), List.all_append, w_t2, w_t3]
  rfl
set_option maxRecDepth 65536 in
theorem w_case : (Jvm.Cond.and given_1 narrow_1).before args0 about1 = true := by decide +kernel
theorem w_applies : (headSpec (Jvm.Cond.code x code maxLocals ret :: tables_1) room_1).applies x e0.platform about1 = true :=
  (Spec.applies_iff w_frames).mpr ⟨w_running, w_runnable, w_alone, w_named, w_hears, w_ripe, w_room, w_tables⟩
theorem atStart : AtStart classFile x code maxLocals ret World_1 tables_1 room_1 Calls_1 rest_1 Pre_1 launch0 p0 e0 about1 theMethod args0 below0 :=
  ⟨lists_1, trivial, launch0.admits_env _ _ _, launch0.least_env, fairChoices_fair.cas, fairChoices_fair.clock, w_frames, w_args, w_heap, w_applies, trivial, trivial, w_case⟩
end start1
theorem witness_1 : WitnessClaimed_1 := ⟨start1.p0, start1.e0, start1.about1, start1.theMethod, start1.args0, start1.below0, start1.atStart⟩
end Jvm.Pilot.@@N@@
