import JvmDerived
import JvmDerived.Pilot.@@N@@Statement
import JvmDerived.Pilot.@@N@@Code
set_option linter.unusedVariables false
set_option linter.unusedSimpArgs false
namespace Jvm.Pilot.@@N@@
open Jvm Jvm.ClassFile Sem Op Lib Jvm.Free Jvm.Stand Jvm.LawKit Jvm.RoadKit Bundle Jvm.Pilot.@@N@@.Jvm.D
section OwnKit
variable {p : Program} {l : Launch} {e : Env} {R : Room} {s : State} {m : MethodId} {args : Array Value} {below : List Frame} {meth : Method} {c : Code} {T : State} {locs : List Loc} {cells slots : Nat} {P : State → Outcome → Prop} {Z : State} {a0 : Array Value} {h : Heap} {pc : Nat} {Ls : Array Slot} {st : List Value}
def Goes (p : Program) (e : Env) (below : List Frame) (S : State) (P : State → Outcome → Prop) : Prop := ∃ (U : State) (o : Outcome), Steps p.tables e below S U ∧ U.status = .running ∧ Ended U below o ∧ P U o
def Endz (s : State) (kc ks : Nat) (Q : Option Value → Heap → List Loc → Prop) (U : State) (o : Outcome) : Prop := ∃ v L, o = .returned v ∧ Q v U.heap L ∧ FrameEnd s o U L kc ks
theorem go {S S' : State} (hs : ∀ t, Steps p.tables e below S' t → Steps p.tables e below S t) (k : Goes p e below S' P) : Goes p e below S P := by
  obtain ⟨U, o, k1, k2⟩ := k
  exact ⟨U, o, hs U k1, k2⟩
theorem goT {S S' : State} (hs : Steps p.tables e below S S') (k : Goes p e below S' P) : Goes p e below S P := by
  obtain ⟨U, o, k1, k2⟩ := k
  exact ⟨U, o, hs.trans k1, k2⟩
theorem own_cast {g g' : JFrame} (q : g = g') (k : Goes p e below (T.setTop g') P) : Goes p e below (T.setTop g) P := q ▸ k
abbrev OwnMet (l : Launch) (Z : State) (y : MethodName) (bytes : ByteArray) (maxL : Nat) (ret : Option FieldType) (ws : List Jvm.Cond) (rm : Room) (as' : Array Value) (h : Heap) (Q : Option Value → Heap → List Loc → Prop) : Prop := MetFree l y (head1 (Jvm.Cond.code y bytes maxL ret :: ws) rm) (fun a U => a = as' ∧ Z.Warmed39 U.vm ∧ U.heap = h) (fun _ _ _ _ _ => True) (fun _ U o U' => ∃ v L, o = .returned v ∧ Q v U'.heap L ∧ FrameEnd U o U' L rm.cells rm.slots)
theorem own_body {y : MethodName} {bytes : ByteArray} {maxL : Nat} {ret : Option FieldType} {ws : List Jvm.Cond} {rm : Room} {as' : Array Value} {Q : Option Value → Heap → List Loc → Prop} (hpn : plainFor y = true)
    (B : ∀ (p : Program) (e : Env) (s : State) (m : MethodId) (below : List Frame) (meth : Method) (c : Code) (s₁ : State), p.tables.exec = Jvm.exec → c.code = bytes → c.maxLocals = maxL → s.vm.findClass y.cls = some m.cls → meth.name = y.name → meth.sig.returnType = ret → meth.locks = false → Z.Warmed39 s.vm → Stand p l e rm s m as' below meth c s₁ [] 0 0 → s₁.heap = h → Goes p e below (s₁.setTop (entryFrame m as' maxL)) (Endz s rm.cells rm.slots Q)) : OwnMet l Z y bytes maxL ret ws rm as' h Q := by
  refine MetFree.of_bodySF hpn hisR ?_
  intro p e s m args below meth c s₁ Bd hml0 hP hK
  obtain ⟨rfl, hZ, hh⟩ := hP
  exact B p e s m below meth c s₁ Bd.exec Bd.bytes hml0 (findClass_of_methodNamed Bd.named) (name_of_methodNamed Bd.named Bd.method).1 Bd.returns (BodyLoose.notSynchronized Bd) hZ (Stand.of_body Bd) (by rw [← hh, Bd.state]; rfl)
theorem g_ret {w : Value} {t : FieldType} {i : Instr} {kc ks : Nat} {Q : Option Value → Heap → List Loc → Prop} (X : Stand p l e R s m args below meth c T locs cells slots) (hx : p.tables.exec = Jvm.exec) (hret : meth.sig.returnType = some t) (hlk : meth.locks = false) (hn : narrow t w = w)
    (hi : (i = .ireturn ∧ (t = .int ∨ t = .boolean ∨ t = .byte ∨ t = .char ∨ t = .short) ∧ ∃ z, w = .int z) ∨ (i = .lreturn ∧ t = .long ∧ ∃ z, w = .long z) ∨ (i = .dreturn ∧ t = .double ∧ ∃ z, w = .double z) ∨ (i = .freturn ∧ t = .float ∧ ∃ z, w = .float z) ∨ (i = .areturn ∧ t.isReference = true ∧ w.isRef = true))
    (hd : decode c.code pc = .ok (i, 1)) (hQ : Q (some w) T.heap locs) (hc : cells ≤ kc) (hs : slots ≤ ks) : Goes p e below (T.setTop (mkF m pc Ls (w :: st))) (Endz s kc ks Q) := by
  obtain ⟨fs, hr, hrun, hended, hW, hsame⟩ := X.leave (v := some w) (fun h => by rw [hret] at h; cases h) hlk
  exact ⟨_, _, retOut X hx hret hn hi hd hr, hrun, hended, _, _, rfl, hQ, ⟨_, rfl⟩, hW, hsame.mono hc hs⟩
theorem g_retI {z : Int32} {kc ks : Nat} {Q : Option Value → Heap → List Loc → Prop} (X : Stand p l e R s m args below meth c T locs cells slots) (hx : p.tables.exec = Jvm.exec) (hret : meth.sig.returnType = some .int) (hlk : meth.locks = false) (hd : decode c.code pc = .ok (.ireturn, 1)) (hQ : Q (some (.int z)) T.heap locs) (hc : cells ≤ kc) (hs : slots ≤ ks) : Goes p e below (T.setTop (mkF m pc Ls (.int z :: st))) (Endz s kc ks Q) :=
  g_ret X hx hret hlk rfl (Or.inl ⟨rfl, Or.inl rfl, z, rfl⟩) hd hQ hc hs
theorem g_retZ {z : Int32} {kc ks : Nat} {Q : Option Value → Heap → List Loc → Prop} (X : Stand p l e R s m args below meth c T locs cells slots) (hx : p.tables.exec = Jvm.exec) (hret : meth.sig.returnType = some .boolean) (hlk : meth.locks = false) (hn : narrow .boolean (.int z) = .int z) (hd : decode c.code pc = .ok (.ireturn, 1)) (hQ : Q (some (.int z)) T.heap locs) (hc : cells ≤ kc) (hs : slots ≤ ks) : Goes p e below (T.setTop (mkF m pc Ls (.int z :: st))) (Endz s kc ks Q) :=
  g_ret X hx hret hlk hn (Or.inl ⟨rfl, Or.inr (Or.inl rfl), z, rfl⟩) hd hQ hc hs
theorem g_retJ {z : Int64} {kc ks : Nat} {Q : Option Value → Heap → List Loc → Prop} (X : Stand p l e R s m args below meth c T locs cells slots) (hx : p.tables.exec = Jvm.exec) (hret : meth.sig.returnType = some .long) (hlk : meth.locks = false) (hd : decode c.code pc = .ok (.lreturn, 1)) (hQ : Q (some (.long z)) T.heap locs) (hc : cells ≤ kc) (hs : slots ≤ ks) : Goes p e below (T.setTop (mkF m pc Ls (.long z :: st))) (Endz s kc ks Q) :=
  g_ret X hx hret hlk rfl (Or.inr (Or.inl ⟨rfl, rfl, z, rfl⟩)) hd hQ hc hs
theorem g_retA {w : Value} {t : FieldType} {kc ks : Nat} {Q : Option Value → Heap → List Loc → Prop} (X : Stand p l e R s m args below meth c T locs cells slots) (hx : p.tables.exec = Jvm.exec) (hret : meth.sig.returnType = some t) (hlk : meth.locks = false) (hn : narrow t w = w) (ht : t.isReference = true) (hw : w.isRef = true) (hd : decode c.code pc = .ok (.areturn, 1)) (hQ : Q (some w) T.heap locs) (hc : cells ≤ kc) (hs : slots ≤ ks) : Goes p e below (T.setTop (mkF m pc Ls (w :: st))) (Endz s kc ks Q) :=
  g_ret X hx hret hlk hn (Or.inr (Or.inr (Or.inr (Or.inr ⟨rfl, ht, hw⟩)))) hd hQ hc hs
theorem g_ret0 {kc ks : Nat} {Q : Option Value → Heap → List Loc → Prop} (X : Stand p l e R s m args below meth c T locs cells slots) (hx : p.tables.exec = Jvm.exec) (hret : meth.sig.returnType = none) (hlk : meth.locks = false) (hd : decode c.code pc = .ok (.return_, 1)) (hQ : Q none T.heap locs) (hc : cells ≤ kc) (hs : slots ≤ ks) : Goes p e below (T.setTop (mkF m pc Ls [])) (Endz s kc ks Q) := by
  obtain ⟨fs, hr, hrun, hended, hW, hsame⟩ := X.leave (v := none) (fun _ => rfl) hlk
  exact ⟨_, _, X.returnOut hx hret hd hr, hrun, hended, _, _, rfl, hQ, ⟨_, rfl⟩, hW, hsame.mono hc hs⟩
theorem g_iadd (X : Stand p l e R s m args below meth c T locs cells slots) (hx : p.tables.exec = Jvm.exec) (pc' : Nat) (hpc : pc + 1 = pc') {x y : Int32} (hd : decode c.code pc = .ok (.iadd, 1))  (K : Goes p e below (T.setTop (mkF m pc' Ls (.int (x + y) :: st))) P) : Goes p e below (T.setTop (mkF m pc Ls (.int y :: .int x :: st))) P := by
  subst hpc; exact go (fun _ q => XS.iadd X.here hx rfl hd rfl q) K
theorem g_isub (X : Stand p l e R s m args below meth c T locs cells slots) (hx : p.tables.exec = Jvm.exec) (pc' : Nat) (hpc : pc + 1 = pc') {x y : Int32} (hd : decode c.code pc = .ok (.isub, 1))  (K : Goes p e below (T.setTop (mkF m pc' Ls (.int (x - y) :: st))) P) : Goes p e below (T.setTop (mkF m pc Ls (.int y :: .int x :: st))) P := by
  subst hpc; exact go (fun _ q => XS.isub X.here hx rfl hd rfl q) K
theorem g_imul (X : Stand p l e R s m args below meth c T locs cells slots) (hx : p.tables.exec = Jvm.exec) (pc' : Nat) (hpc : pc + 1 = pc') {x y : Int32} (hd : decode c.code pc = .ok (.imul, 1))  (K : Goes p e below (T.setTop (mkF m pc' Ls (.int (x * y) :: st))) P) : Goes p e below (T.setTop (mkF m pc Ls (.int y :: .int x :: st))) P := by
  subst hpc; exact go (fun _ q => XS.imul X.here hx rfl hd rfl q) K
theorem g_iand (X : Stand p l e R s m args below meth c T locs cells slots) (hx : p.tables.exec = Jvm.exec) (pc' : Nat) (hpc : pc + 1 = pc') {x y : Int32} (hd : decode c.code pc = .ok (.iand, 1))  (K : Goes p e below (T.setTop (mkF m pc' Ls (.int (x &&& y) :: st))) P) : Goes p e below (T.setTop (mkF m pc Ls (.int y :: .int x :: st))) P := by
  subst hpc; exact go (fun _ q => XS.iand X.here hx rfl hd rfl q) K
theorem g_ior (X : Stand p l e R s m args below meth c T locs cells slots) (hx : p.tables.exec = Jvm.exec) (pc' : Nat) (hpc : pc + 1 = pc') {x y : Int32} (hd : decode c.code pc = .ok (.ior, 1))  (K : Goes p e below (T.setTop (mkF m pc' Ls (.int (x ||| y) :: st))) P) : Goes p e below (T.setTop (mkF m pc Ls (.int y :: .int x :: st))) P := by
  subst hpc; exact go (fun _ q => XT.ior X.here hx rfl hd rfl q) K
theorem g_ixor (X : Stand p l e R s m args below meth c T locs cells slots) (hx : p.tables.exec = Jvm.exec) (pc' : Nat) (hpc : pc + 1 = pc') {x y : Int32} (hd : decode c.code pc = .ok (.ixor, 1))  (K : Goes p e below (T.setTop (mkF m pc' Ls (.int (x ^^^ y) :: st))) P) : Goes p e below (T.setTop (mkF m pc Ls (.int y :: .int x :: st))) P := by
  subst hpc; exact go (fun _ q => XT.ixor X.here hx rfl hd rfl q) K
theorem g_ishl (X : Stand p l e R s m args below meth c T locs cells slots) (hx : p.tables.exec = Jvm.exec) (pc' : Nat) (hpc : pc + 1 = pc') {x y : Int32} (hd : decode c.code pc = .ok (.ishl, 1))  (K : Goes p e below (T.setTop (mkF m pc' Ls (.int (x <<< (y &&& 31)) :: st))) P) : Goes p e below (T.setTop (mkF m pc Ls (.int y :: .int x :: st))) P := by
  subst hpc; exact go (fun _ q => XT.ishl X.here hx rfl hd rfl q) K
theorem g_ishr (X : Stand p l e R s m args below meth c T locs cells slots) (hx : p.tables.exec = Jvm.exec) (pc' : Nat) (hpc : pc + 1 = pc') {x y : Int32} (hd : decode c.code pc = .ok (.ishr, 1))  (K : Goes p e below (T.setTop (mkF m pc' Ls (.int (x >>> (y &&& 31)) :: st))) P) : Goes p e below (T.setTop (mkF m pc Ls (.int y :: .int x :: st))) P := by
  subst hpc; exact go (fun _ q => XT.ishr X.here hx rfl hd rfl q) K
theorem g_iushr (X : Stand p l e R s m args below meth c T locs cells slots) (hx : p.tables.exec = Jvm.exec) (pc' : Nat) (hpc : pc + 1 = pc') {x y : Int32} (hd : decode c.code pc = .ok (.iushr, 1))  (K : Goes p e below (T.setTop (mkF m pc' Ls (.int (XT.ushr x y) :: st))) P) : Goes p e below (T.setTop (mkF m pc Ls (.int y :: .int x :: st))) P := by
  subst hpc; exact go (fun _ q => XT.iushr X.here hx rfl hd rfl q) K
theorem g_idiv (X : Stand p l e R s m args below meth c T locs cells slots) (hx : p.tables.exec = Jvm.exec) (pc' : Nat) (hpc : pc + 1 = pc') {x y : Int32} (hd : decode c.code pc = .ok (.idiv, 1)) (hy : y ≠ 0) (K : Goes p e below (T.setTop (mkF m pc' Ls (.int (x / y) :: st))) P) : Goes p e below (T.setTop (mkF m pc Ls (.int y :: .int x :: st))) P := by
  subst hpc; exact go (fun _ q => XS.idiv X.here hx rfl hd rfl hy q) K
theorem g_irem (X : Stand p l e R s m args below meth c T locs cells slots) (hx : p.tables.exec = Jvm.exec) (pc' : Nat) (hpc : pc + 1 = pc') {x y : Int32} (hd : decode c.code pc = .ok (.irem, 1)) (hy : y ≠ 0) (K : Goes p e below (T.setTop (mkF m pc' Ls (.int (x % y) :: st))) P) : Goes p e below (T.setTop (mkF m pc Ls (.int y :: .int x :: st))) P := by
  subst hpc; exact go (fun _ q => iremM X hx rfl hd rfl hy q) K
theorem g_ineg (X : Stand p l e R s m args below meth c T locs cells slots) (hx : p.tables.exec = Jvm.exec) (pc' : Nat) (hpc : pc + 1 = pc') {x : Int32} (hd : decode c.code pc = .ok (.ineg, 1))  (K : Goes p e below (T.setTop (mkF m pc' Ls (.int (-x) :: st))) P) : Goes p e below (T.setTop (mkF m pc Ls (.int x :: st))) P := by
  subst hpc; exact go (fun _ q => XS.ineg X.here hx rfl hd rfl q) K
theorem g_ladd (X : Stand p l e R s m args below meth c T locs cells slots) (hx : p.tables.exec = Jvm.exec) (pc' : Nat) (hpc : pc + 1 = pc') {x y : Int64} (hd : decode c.code pc = .ok (.ladd, 1))  (K : Goes p e below (T.setTop (mkF m pc' Ls (.long (x + y) :: st))) P) : Goes p e below (T.setTop (mkF m pc Ls (.long y :: .long x :: st))) P := by
  subst hpc; exact go (fun _ q => XT.ladd X.here hx rfl hd rfl q) K
theorem g_lsub (X : Stand p l e R s m args below meth c T locs cells slots) (hx : p.tables.exec = Jvm.exec) (pc' : Nat) (hpc : pc + 1 = pc') {x y : Int64} (hd : decode c.code pc = .ok (.lsub, 1))  (K : Goes p e below (T.setTop (mkF m pc' Ls (.long (x - y) :: st))) P) : Goes p e below (T.setTop (mkF m pc Ls (.long y :: .long x :: st))) P := by
  subst hpc; exact go (fun _ q => XT.lsub X.here hx rfl hd rfl q) K
theorem g_lmul (X : Stand p l e R s m args below meth c T locs cells slots) (hx : p.tables.exec = Jvm.exec) (pc' : Nat) (hpc : pc + 1 = pc') {x y : Int64} (hd : decode c.code pc = .ok (.lmul, 1))  (K : Goes p e below (T.setTop (mkF m pc' Ls (.long (x * y) :: st))) P) : Goes p e below (T.setTop (mkF m pc Ls (.long y :: .long x :: st))) P := by
  subst hpc; exact go (fun _ q => XT.lmul X.here hx rfl hd rfl q) K
theorem g_land (X : Stand p l e R s m args below meth c T locs cells slots) (hx : p.tables.exec = Jvm.exec) (pc' : Nat) (hpc : pc + 1 = pc') {x y : Int64} (hd : decode c.code pc = .ok (.land, 1))  (K : Goes p e below (T.setTop (mkF m pc' Ls (.long (x &&& y) :: st))) P) : Goes p e below (T.setTop (mkF m pc Ls (.long y :: .long x :: st))) P := by
  subst hpc; exact go (fun _ q => XT.land X.here hx rfl hd rfl q) K
theorem g_lor (X : Stand p l e R s m args below meth c T locs cells slots) (hx : p.tables.exec = Jvm.exec) (pc' : Nat) (hpc : pc + 1 = pc') {x y : Int64} (hd : decode c.code pc = .ok (.lor, 1))  (K : Goes p e below (T.setTop (mkF m pc' Ls (.long (x ||| y) :: st))) P) : Goes p e below (T.setTop (mkF m pc Ls (.long y :: .long x :: st))) P := by
  subst hpc; exact go (fun _ q => XT.lor X.here hx rfl hd rfl q) K
theorem g_lxor (X : Stand p l e R s m args below meth c T locs cells slots) (hx : p.tables.exec = Jvm.exec) (pc' : Nat) (hpc : pc + 1 = pc') {x y : Int64} (hd : decode c.code pc = .ok (.lxor, 1))  (K : Goes p e below (T.setTop (mkF m pc' Ls (.long (x ^^^ y) :: st))) P) : Goes p e below (T.setTop (mkF m pc Ls (.long y :: .long x :: st))) P := by
  subst hpc; exact go (fun _ q => XT.lxor X.here hx rfl hd rfl q) K
theorem g_lshl (X : Stand p l e R s m args below meth c T locs cells slots) (hx : p.tables.exec = Jvm.exec) (pc' : Nat) (hpc : pc + 1 = pc') {x : Int64} {y : Int32} (hd : decode c.code pc = .ok (.lshl, 1))  (K : Goes p e below (T.setTop (mkF m pc' Ls (.long (x <<< (y.toInt64 &&& 63)) :: st))) P) : Goes p e below (T.setTop (mkF m pc Ls (.int y :: .long x :: st))) P := by
  subst hpc; exact go (fun _ q => XT.lshl X.here hx rfl hd rfl q) K
theorem g_lshr (X : Stand p l e R s m args below meth c T locs cells slots) (hx : p.tables.exec = Jvm.exec) (pc' : Nat) (hpc : pc + 1 = pc') {x : Int64} {y : Int32} (hd : decode c.code pc = .ok (.lshr, 1))  (K : Goes p e below (T.setTop (mkF m pc' Ls (.long (x >>> (y.toInt64 &&& 63)) :: st))) P) : Goes p e below (T.setTop (mkF m pc Ls (.int y :: .long x :: st))) P := by
  subst hpc; exact go (fun _ q => XT.lshr X.here hx rfl hd rfl q) K
theorem g_lushr (X : Stand p l e R s m args below meth c T locs cells slots) (hx : p.tables.exec = Jvm.exec) (pc' : Nat) (hpc : pc + 1 = pc') {x : Int64} {y : Int32} (hd : decode c.code pc = .ok (.lushr, 1))  (K : Goes p e below (T.setTop (mkF m pc' Ls (.long (XT.ushrL x y) :: st))) P) : Goes p e below (T.setTop (mkF m pc Ls (.int y :: .long x :: st))) P := by
  subst hpc; exact go (fun _ q => XT.lushr X.here hx rfl hd rfl q) K
theorem g_ldiv (X : Stand p l e R s m args below meth c T locs cells slots) (hx : p.tables.exec = Jvm.exec) (pc' : Nat) (hpc : pc + 1 = pc') {x y : Int64} (hd : decode c.code pc = .ok (.ldiv, 1)) (hy : y ≠ 0) (K : Goes p e below (T.setTop (mkF m pc' Ls (.long (x / y) :: st))) P) : Goes p e below (T.setTop (mkF m pc Ls (.long y :: .long x :: st))) P := by
  subst hpc; exact go (fun _ q => XT.ldiv X.here hx rfl hd rfl hy q) K
theorem g_lrem (X : Stand p l e R s m args below meth c T locs cells slots) (hx : p.tables.exec = Jvm.exec) (pc' : Nat) (hpc : pc + 1 = pc') {x y : Int64} (hd : decode c.code pc = .ok (.lrem, 1)) (hy : y ≠ 0) (K : Goes p e below (T.setTop (mkF m pc' Ls (.long (x % y) :: st))) P) : Goes p e below (T.setTop (mkF m pc Ls (.long y :: .long x :: st))) P := by
  subst hpc; exact go (fun _ q => XT.lrem X.here hx rfl hd rfl hy (by rw [lrem_mod]; exact q)) K
theorem g_lneg (X : Stand p l e R s m args below meth c T locs cells slots) (hx : p.tables.exec = Jvm.exec) (pc' : Nat) (hpc : pc + 1 = pc') {x : Int64} (hd : decode c.code pc = .ok (.lneg, 1))  (K : Goes p e below (T.setTop (mkF m pc' Ls (.long (-x) :: st))) P) : Goes p e below (T.setTop (mkF m pc Ls (.long x :: st))) P := by
  subst hpc; exact go (fun _ q => XT.lneg X.here hx rfl hd rfl q) K
theorem g_i2l (X : Stand p l e R s m args below meth c T locs cells slots) (hx : p.tables.exec = Jvm.exec) (pc' : Nat) (hpc : pc + 1 = pc') {x : Int32} (hd : decode c.code pc = .ok (.i2l, 1))  (K : Goes p e below (T.setTop (mkF m pc' Ls (.long x.toInt64 :: st))) P) : Goes p e below (T.setTop (mkF m pc Ls (.int x :: st))) P := by
  subst hpc; exact go (fun _ q => XT.i2l X.here hx rfl hd rfl q) K
theorem g_l2i (X : Stand p l e R s m args below meth c T locs cells slots) (hx : p.tables.exec = Jvm.exec) (pc' : Nat) (hpc : pc + 1 = pc') {x : Int64} (hd : decode c.code pc = .ok (.l2i, 1))  (K : Goes p e below (T.setTop (mkF m pc' Ls (.int x.toInt32 :: st))) P) : Goes p e below (T.setTop (mkF m pc Ls (.long x :: st))) P := by
  subst hpc; exact go (fun _ q => XT.l2i X.here hx rfl hd rfl q) K
theorem g_i2b (X : Stand p l e R s m args below meth c T locs cells slots) (hx : p.tables.exec = Jvm.exec) (pc' : Nat) (hpc : pc + 1 = pc') {x : Int32} (hd : decode c.code pc = .ok (.i2b, 1))  (K : Goes p e below (T.setTop (mkF m pc' Ls (.int x.toInt8.toInt32 :: st))) P) : Goes p e below (T.setTop (mkF m pc Ls (.int x :: st))) P := by
  subst hpc; exact go (fun _ q => XT.i2b X.here hx rfl hd rfl q) K
theorem g_i2c (X : Stand p l e R s m args below meth c T locs cells slots) (hx : p.tables.exec = Jvm.exec) (pc' : Nat) (hpc : pc + 1 = pc') {x : Int32} (hd : decode c.code pc = .ok (.i2c, 1))  (K : Goes p e below (T.setTop (mkF m pc' Ls (.int x.toUInt32.toUInt16.toUInt32.toInt32 :: st))) P) : Goes p e below (T.setTop (mkF m pc Ls (.int x :: st))) P := by
  subst hpc; exact go (fun _ q => XT.i2c X.here hx rfl hd rfl q) K
theorem g_i2s (X : Stand p l e R s m args below meth c T locs cells slots) (hx : p.tables.exec = Jvm.exec) (pc' : Nat) (hpc : pc + 1 = pc') {x : Int32} (hd : decode c.code pc = .ok (.i2s, 1))  (K : Goes p e below (T.setTop (mkF m pc' Ls (.int x.toInt16.toInt32 :: st))) P) : Goes p e below (T.setTop (mkF m pc Ls (.int x :: st))) P := by
  subst hpc; exact go (fun _ q => XT.i2s X.here hx rfl hd rfl q) K
theorem g_lcmp (X : Stand p l e R s m args below meth c T locs cells slots) (hx : p.tables.exec = Jvm.exec) (pc' : Nat) (hpc : pc + 1 = pc') {x y : Int64} (hd : decode c.code pc = .ok (.lcmp, 1))  (K : Goes p e below (T.setTop (mkF m pc' Ls (.int (XT.cmpL x y) :: st))) P) : Goes p e below (T.setTop (mkF m pc Ls (.long y :: .long x :: st))) P := by
  subst hpc; exact go (fun _ q => XT.lcmp X.here hx rfl hd rfl q) K
theorem g_dup (X : Stand p l e R s m args below meth c T locs cells slots) (hx : p.tables.exec = Jvm.exec) (pc' : Nat) (hpc : pc + 1 = pc') {x : Value} (hd : decode c.code pc = .ok (.dup, 1)) (hc : x.category = 1) (K : Goes p e below (T.setTop (mkF m pc' Ls (x :: x :: st))) P) : Goes p e below (T.setTop (mkF m pc Ls (x :: st))) P := by
  subst hpc; exact go (fun _ q => XS.dup X.here hx rfl hd rfl hc q) K
theorem g_pop (X : Stand p l e R s m args below meth c T locs cells slots) (hx : p.tables.exec = Jvm.exec) (pc' : Nat) (hpc : pc + 1 = pc') {x : Value} (hd : decode c.code pc = .ok (.pop, 1)) (hc : x.category = 1) (K : Goes p e below (T.setTop (mkF m pc' Ls (st))) P) : Goes p e below (T.setTop (mkF m pc Ls (x :: st))) P := by
  subst hpc; exact go (fun _ q => XT.pop X.here hx rfl hd rfl hc q) K
theorem g_dup_x1 (X : Stand p l e R s m args below meth c T locs cells slots) (hx : p.tables.exec = Jvm.exec) (pc' : Nat) (hpc : pc + 1 = pc') {x y : Value} (hd : decode c.code pc = .ok (.dup_x1, 1)) (hc : x.category = 1) (hc' : y.category = 1) (K : Goes p e below (T.setTop (mkF m pc' Ls (x :: y :: x :: st))) P) : Goes p e below (T.setTop (mkF m pc Ls (x :: y :: st))) P := by
  subst hpc; exact go (fun _ q => XT.dupX1 X.here hx rfl hd rfl hc hc' q) K
theorem g_dup2 (X : Stand p l e R s m args below meth c T locs cells slots) (hx : p.tables.exec = Jvm.exec) (pc' : Nat) (hpc : pc + 1 = pc') {x y : Value} (hd : decode c.code pc = .ok (.dup2, 1)) (hc : x.category = 1) (hc' : y.category = 1) (K : Goes p e below (T.setTop (mkF m pc' Ls (x :: y :: x :: y :: st))) P) : Goes p e below (T.setTop (mkF m pc Ls (x :: y :: st))) P := by
  subst hpc; exact go (fun _ q => XT.dup2 X.here hx rfl hd rfl hc hc' q) K
theorem g_dup2L (X : Stand p l e R s m args below meth c T locs cells slots) (hx : p.tables.exec = Jvm.exec) (pc' : Nat) (hpc : pc + 1 = pc') {x : Int64} (hd : decode c.code pc = .ok (.dup2, 1))  (K : Goes p e below (T.setTop (mkF m pc' Ls (.long x :: .long x :: st))) P) : Goes p e below (T.setTop (mkF m pc Ls (.long x :: st))) P := by
  subst hpc; exact go (fun _ q => XT.dup2L X.here hx rfl hd rfl q) K
theorem g_iconst (X : Stand p l e R s m args below meth c T locs cells slots) (hx : p.tables.exec = Jvm.exec) (pc' : Nat) (hpc : pc + 1 = pc') {i : Int} (v : Int32) (hv : Int32.ofInt i = v) (hd : decode c.code pc = .ok (.iconst i, 1))  (K : Goes p e below (T.setTop (mkF m pc' Ls (.int v :: st))) P) : Goes p e below (T.setTop (mkF m pc Ls (st))) P := by
  subst hpc; exact go (fun _ q => XS.iconst X.here hx rfl hd (by rw [hv]; exact q)) K
theorem g_bipush (X : Stand p l e R s m args below meth c T locs cells slots) (hx : p.tables.exec = Jvm.exec) (pc' : Nat) (hpc : pc + 2 = pc') {i : Int} (v : Int32) (hv : (Int8.ofInt i).toInt32 = v) (hd : decode c.code pc = .ok (.bipush i, 2))  (K : Goes p e below (T.setTop (mkF m pc' Ls (.int v :: st))) P) : Goes p e below (T.setTop (mkF m pc Ls (st))) P := by
  subst hpc; exact go (fun _ q => XS.bipush X.here hx rfl hd (by rw [hv]; exact q)) K
theorem g_sipush (X : Stand p l e R s m args below meth c T locs cells slots) (hx : p.tables.exec = Jvm.exec) (pc' : Nat) (hpc : pc + 3 = pc') {i : Int} (v : Int32) (hv : (Int16.ofInt i).toInt32 = v) (hd : decode c.code pc = .ok (.sipush i, 3))  (K : Goes p e below (T.setTop (mkF m pc' Ls (.int v :: st))) P) : Goes p e below (T.setTop (mkF m pc Ls (st))) P := by
  subst hpc; exact go (fun _ q => XS.sipush X.here hx rfl hd (by rw [hv]; exact q)) K
theorem g_lconst (X : Stand p l e R s m args below meth c T locs cells slots) (hx : p.tables.exec = Jvm.exec) (pc' : Nat) (hpc : pc + 1 = pc') {k : Fin 2} (v : Int64) (hv : Int64.ofNat k = v) (hd : decode c.code pc = .ok (.lconst k, 1))  (K : Goes p e below (T.setTop (mkF m pc' Ls (.long v :: st))) P) : Goes p e below (T.setTop (mkF m pc Ls (st))) P := by
  subst hpc; exact go (fun _ q => XT.lconst X.here hx rfl hd (by rw [hv]; exact q)) K
theorem g_aconst_null (X : Stand p l e R s m args below meth c T locs cells slots) (hx : p.tables.exec = Jvm.exec) (pc' : Nat) (hpc : pc + 1 = pc')  (hd : decode c.code pc = .ok (.aconst_null, 1))  (K : Goes p e below (T.setTop (mkF m pc' Ls (.null :: st))) P) : Goes p e below (T.setTop (mkF m pc Ls (st))) P := by
  subst hpc; exact go (fun _ q => XS.aconstNull X.here hx rfl hd q) K
theorem g_ldcI (X : Stand p l e R s m args below meth c T locs cells slots) (hx : p.tables.exec = Jvm.exec) (pc' : Nat) (hpc : pc + 2 = pc') {own : String} {index : Nat} {v : Int32} (hown : s.vm.findClass own = some m.cls) (hZ : Z.Warmed39 s.vm) (w : (Jvm.Cond.constant own index v).before a0 Z = true) (hd : decode c.code pc = .ok (.ldc index, 2))  (K : Goes p e below (T.setTop (mkF m pc' Ls (.int v :: st))) P) : Goes p e below (T.setTop (mkF m pc Ls (st))) P := by
  subst hpc; exact go (fun _ q => X.ldcInt hx hown (mvT hZ w) (g := mkF m pc Ls st) rfl hd _ q) K
theorem g_ldcJ (X : Stand p l e R s m args below meth c T locs cells slots) (hx : p.tables.exec = Jvm.exec) (pc' : Nat) (hpc : pc + 3 = pc') {own : String} {index : Nat} {v : Int64} (hown : s.vm.findClass own = some m.cls) (hZ : Z.Warmed39 s.vm) (w : (Jvm.Cond.constantLong own index v).before a0 Z = true) (hd : decode c.code pc = .ok (.ldc2_w index, 3))  (K : Goes p e below (T.setTop (mkF m pc' Ls (.long v :: st))) P) : Goes p e below (T.setTop (mkF m pc Ls (st))) P := by
  subst hpc; exact go (fun _ q => X.ldc2Long hx hown (mvT hZ w) (g := mkF m pc Ls st) rfl hd _ q) K
theorem g_iload_n (X : Stand p l e R s m args below meth c T locs cells slots) (hx : p.tables.exec = Jvm.exec) (pc' : Nat) (hpc : pc + 1 = pc') {k : Fin 4} {v : Int32} (hd : decode c.code pc = .ok (.iload_n k, 1)) (hl : Ls[k.val]? = some (.val (.int v))) (K : Goes p e below (T.setTop (mkF m pc' Ls (.int v :: st))) P) : Goes p e below (T.setTop (mkF m pc Ls (st))) P := by
  subst hpc; exact go (fun _ q => XS.iloadN X.here hx rfl hd hl q) K
theorem g_iload (X : Stand p l e R s m args below meth c T locs cells slots) (hx : p.tables.exec = Jvm.exec) (pc' : Nat) (hpc : pc + 2 = pc') {k : Nat} {v : Int32} (hd : decode c.code pc = .ok (.iload k, 2)) (hl : Ls[k]? = some (.val (.int v))) (K : Goes p e below (T.setTop (mkF m pc' Ls (.int v :: st))) P) : Goes p e below (T.setTop (mkF m pc Ls (st))) P := by
  subst hpc; exact go (fun _ q => XS.iload X.here hx rfl hd hl q) K
theorem g_lload_n (X : Stand p l e R s m args below meth c T locs cells slots) (hx : p.tables.exec = Jvm.exec) (pc' : Nat) (hpc : pc + 1 = pc') {k : Fin 4} {v : Int64} (hd : decode c.code pc = .ok (.lload_n k, 1)) (hl : Ls[k.val]? = some (.val (.long v))) (K : Goes p e below (T.setTop (mkF m pc' Ls (.long v :: st))) P) : Goes p e below (T.setTop (mkF m pc Ls (st))) P := by
  subst hpc; exact go (fun _ q => XT.lloadN X.here hx rfl hd hl q) K
theorem g_lload (X : Stand p l e R s m args below meth c T locs cells slots) (hx : p.tables.exec = Jvm.exec) (pc' : Nat) (hpc : pc + 2 = pc') {k : Nat} {v : Int64} (hd : decode c.code pc = .ok (.lload k, 2)) (hl : Ls[k]? = some (.val (.long v))) (K : Goes p e below (T.setTop (mkF m pc' Ls (.long v :: st))) P) : Goes p e below (T.setTop (mkF m pc Ls (st))) P := by
  subst hpc; exact go (fun _ q => XT.lload X.here hx rfl hd hl q) K
theorem g_aload_n (X : Stand p l e R s m args below meth c T locs cells slots) (hx : p.tables.exec = Jvm.exec) (pc' : Nat) (hpc : pc + 1 = pc') {k : Fin 4} {v : Value} (hd : decode c.code pc = .ok (.aload_n k, 1)) (hl : Ls[k.val]? = some (.val v)) (hv : v.isRef = true) (K : Goes p e below (T.setTop (mkF m pc' Ls (v :: st))) P) : Goes p e below (T.setTop (mkF m pc Ls (st))) P := by
  subst hpc; exact go (fun _ q => XS.aloadN X.here hx rfl hd hl hv q) K
theorem g_aload (X : Stand p l e R s m args below meth c T locs cells slots) (hx : p.tables.exec = Jvm.exec) (pc' : Nat) (hpc : pc + 2 = pc') {k : Nat} {v : Value} (hd : decode c.code pc = .ok (.aload k, 2)) (hl : Ls[k]? = some (.val v)) (hv : v.isRef = true) (K : Goes p e below (T.setTop (mkF m pc' Ls (v :: st))) P) : Goes p e below (T.setTop (mkF m pc Ls (st))) P := by
  subst hpc; exact go (fun _ q => XS.aload X.here hx rfl hd hl hv q) K
theorem g_istore_n (X : Stand p l e R s m args below meth c T locs cells slots) (hx : p.tables.exec = Jvm.exec) (pc' : Nat) (hpc : pc + 1 = pc') {k : Fin 4} {x : Int32} (hd : decode c.code pc = .ok (.istore_n k, 1))  (l' : Array Slot) (hl : storeLocals Ls k.val (.int x) = some l') (K : Goes p e below (T.setTop (mkF m pc' l' st)) P) : Goes p e below (T.setTop (mkF m pc Ls (.int x :: st))) P := by
  subst hpc; exact go (fun _ q => XS.istoreN X.here hx rfl hd rfl hl q) K
theorem g_istore (X : Stand p l e R s m args below meth c T locs cells slots) (hx : p.tables.exec = Jvm.exec) (pc' : Nat) (hpc : pc + 2 = pc') {k : Nat} {x : Int32} (hd : decode c.code pc = .ok (.istore k, 2))  (l' : Array Slot) (hl : storeLocals Ls k (.int x) = some l') (K : Goes p e below (T.setTop (mkF m pc' l' st)) P) : Goes p e below (T.setTop (mkF m pc Ls (.int x :: st))) P := by
  subst hpc; exact go (fun _ q => XS.istore X.here hx rfl hd rfl hl q) K
theorem g_lstore_n (X : Stand p l e R s m args below meth c T locs cells slots) (hx : p.tables.exec = Jvm.exec) (pc' : Nat) (hpc : pc + 1 = pc') {k : Fin 4} {x : Int64} (hd : decode c.code pc = .ok (.lstore_n k, 1))  (l' : Array Slot) (hl : storeLocals Ls k.val (.long x) = some l') (K : Goes p e below (T.setTop (mkF m pc' l' st)) P) : Goes p e below (T.setTop (mkF m pc Ls (.long x :: st))) P := by
  subst hpc; exact go (fun _ q => XT.lstoreN X.here hx rfl hd rfl hl q) K
theorem g_lstore (X : Stand p l e R s m args below meth c T locs cells slots) (hx : p.tables.exec = Jvm.exec) (pc' : Nat) (hpc : pc + 2 = pc') {k : Nat} {x : Int64} (hd : decode c.code pc = .ok (.lstore k, 2))  (l' : Array Slot) (hl : storeLocals Ls k (.long x) = some l') (K : Goes p e below (T.setTop (mkF m pc' l' st)) P) : Goes p e below (T.setTop (mkF m pc Ls (.long x :: st))) P := by
  subst hpc; exact go (fun _ q => XT.lstore X.here hx rfl hd rfl hl q) K
theorem g_astore_n (X : Stand p l e R s m args below meth c T locs cells slots) (hx : p.tables.exec = Jvm.exec) (pc' : Nat) (hpc : pc + 1 = pc') {k : Fin 4} {x : Value} (hd : decode c.code pc = .ok (.astore_n k, 1)) (hv : x.isRef = true) (l' : Array Slot) (hl : storeLocals Ls k.val x = some l') (K : Goes p e below (T.setTop (mkF m pc' l' st)) P) : Goes p e below (T.setTop (mkF m pc Ls (x :: st))) P := by
  subst hpc; exact go (fun _ q => XS.astoreN X.here hx rfl hd rfl hv hl q) K
theorem g_astore (X : Stand p l e R s m args below meth c T locs cells slots) (hx : p.tables.exec = Jvm.exec) (pc' : Nat) (hpc : pc + 2 = pc') {k : Nat} {x : Value} (hd : decode c.code pc = .ok (.astore k, 2)) (hv : x.isRef = true) (l' : Array Slot) (hl : storeLocals Ls k x = some l') (K : Goes p e below (T.setTop (mkF m pc' l' st)) P) : Goes p e below (T.setTop (mkF m pc Ls (x :: st))) P := by
  subst hpc; exact go (fun _ q => XS.astore X.here hx rfl hd rfl hv hl q) K
theorem g_iinc (X : Stand p l e R s m args below meth c T locs cells slots) (hx : p.tables.exec = Jvm.exec) (pc' : Nat) (hpc : pc + 3 = pc') {k : Nat} {cst : Int} {x : Int32} (hd : decode c.code pc = .ok (.iinc k cst, 3)) (v : Int32) (hv : x + Int32.ofInt cst = v) (hl : Ls[k]? = some (.val (.int x))) (l' : Array Slot) (hl' : storeLocals Ls k (.int v) = some l') (K : Goes p e below (T.setTop (mkF m pc' l' st)) P) : Goes p e below (T.setTop (mkF m pc Ls st)) P := by
  subst hpc; subst hv; exact go (fun _ q => XS.iinc X.here hx rfl hd hl hl' q) K
theorem g_goto (X : Stand p l e R s m args below meth c T locs cells slots) (hx : p.tables.exec = Jvm.exec) (pc' : Nat) {o : Int} (hd : decode c.code pc = .ok (.goto o, 3)) (ho : 0 ≤ (pc : Int) + o) (hp : ((pc : Int) + o).toNat = pc') (K : Goes p e below (T.setTop (mkF m pc' Ls st)) P) : Goes p e below (T.setTop (mkF m pc Ls st)) P :=
  go (fun _ q => XS.goto X.here hx rfl rfl hd ho hp q) K
theorem g_ifY (X : Stand p l e R s m args below meth c T locs cells slots) (hx : p.tables.exec = Jvm.exec) (pc' : Nat) {o : Int} {cd : ClassFile.Cond} {x : Int32} (hd : decode c.code pc = .ok (.ifCond cd o, 3)) (hc : ifCond.holds cd x = true) (ho : 0 ≤ (pc : Int) + o) (hp : ((pc : Int) + o).toNat = pc') (K : Goes p e below (T.setTop (mkF m pc' Ls st)) P) : Goes p e below (T.setTop (mkF m pc Ls (.int x :: st))) P :=
  go (fun _ q => XS.ifYes X.here hx rfl rfl hd rfl hc ho hp q) K
theorem g_ifN (X : Stand p l e R s m args below meth c T locs cells slots) (hx : p.tables.exec = Jvm.exec) (pc' : Nat) (hpc : pc + 3 = pc') {o : Int} {cd : ClassFile.Cond} {x : Int32} (hd : decode c.code pc = .ok (.ifCond cd o, 3)) (hc : ifCond.holds cd x = false) (K : Goes p e below (T.setTop (mkF m pc' Ls st)) P) : Goes p e below (T.setTop (mkF m pc Ls (.int x :: st))) P := by
  subst hpc; exact go (fun _ q => XS.ifNo X.here hx rfl hd rfl hc q) K
theorem g_icmpY (X : Stand p l e R s m args below meth c T locs cells slots) (hx : p.tables.exec = Jvm.exec) (pc' : Nat) {o : Int} {cd : ClassFile.Cond} {x y : Int32} (hd : decode c.code pc = .ok (.if_icmp cd o, 3)) (hc : if_icmp.holds cd x y = true) (ho : 0 ≤ (pc : Int) + o) (hp : ((pc : Int) + o).toNat = pc') (K : Goes p e below (T.setTop (mkF m pc' Ls st)) P) : Goes p e below (T.setTop (mkF m pc Ls (.int y :: .int x :: st))) P :=
  go (fun _ q => XS.icmpYes X.here hx rfl rfl hd rfl hc ho hp q) K
theorem g_icmpN (X : Stand p l e R s m args below meth c T locs cells slots) (hx : p.tables.exec = Jvm.exec) (pc' : Nat) (hpc : pc + 3 = pc') {o : Int} {cd : ClassFile.Cond} {x y : Int32} (hd : decode c.code pc = .ok (.if_icmp cd o, 3)) (hc : if_icmp.holds cd x y = false) (K : Goes p e below (T.setTop (mkF m pc' Ls st)) P) : Goes p e below (T.setTop (mkF m pc Ls (.int y :: .int x :: st))) P := by
  subst hpc; exact go (fun _ q => XS.icmpNo X.here hx rfl hd rfl hc q) K
theorem g_acmpY (X : Stand p l e R s m args below meth c T locs cells slots) (hx : p.tables.exec = Jvm.exec) (pc' : Nat) {o : Int} {cd : ClassFile.ACond} {x y : Value} (hd : decode c.code pc = .ok (.if_acmp cd o, 3)) (h1 : x.isRef = true) (h2 : y.isRef = true) (hc : XT.acmp cd x y = true) (ho : 0 ≤ (pc : Int) + o) (hp : ((pc : Int) + o).toNat = pc') (K : Goes p e below (T.setTop (mkF m pc' Ls st)) P) : Goes p e below (T.setTop (mkF m pc Ls (y :: x :: st))) P :=
  go (fun _ q => XT.acmpYes X.here hx rfl rfl hd rfl h1 h2 hc ho hp q) K
theorem g_acmpN (X : Stand p l e R s m args below meth c T locs cells slots) (hx : p.tables.exec = Jvm.exec) (pc' : Nat) (hpc : pc + 3 = pc') {o : Int} {cd : ClassFile.ACond} {x y : Value} (hd : decode c.code pc = .ok (.if_acmp cd o, 3)) (h1 : x.isRef = true) (h2 : y.isRef = true) (hc : XT.acmp cd x y = false) (K : Goes p e below (T.setTop (mkF m pc' Ls st)) P) : Goes p e below (T.setTop (mkF m pc Ls (y :: x :: st))) P := by
  subst hpc; exact go (fun _ q => XT.acmpNo X.here hx rfl hd rfl h1 h2 hc q) K
theorem g_ifnonnullY (X : Stand p l e R s m args below meth c T locs cells slots) (hx : p.tables.exec = Jvm.exec) (pc' : Nat) {o : Int} {b : Addr} (hd : decode c.code pc = .ok (.ifnonnull o, 3)) (ho : 0 ≤ (pc : Int) + o) (hp : ((pc : Int) + o).toNat = pc') (K : Goes p e below (T.setTop (mkF m pc' Ls st)) P) : Goes p e below (T.setTop (mkF m pc Ls (.ref b :: st))) P :=
  go (fun _ q => XT.ifnonnullYes X.here hx rfl rfl hd rfl ho hp q) K
theorem g_ifnonnullN (X : Stand p l e R s m args below meth c T locs cells slots) (hx : p.tables.exec = Jvm.exec) (pc' : Nat) (hpc : pc + 3 = pc') {o : Int} (hd : decode c.code pc = .ok (.ifnonnull o, 3)) (K : Goes p e below (T.setTop (mkF m pc' Ls st)) P) : Goes p e below (T.setTop (mkF m pc Ls (.null :: st))) P := by
  subst hpc; exact go (fun _ q => XT.ifnonnullNo X.here hx rfl hd rfl q) K
def b2i (b : Bool) : Int32 := if b then 1 else 0
theorem b2i_nar (b : Bool) : narrow .boolean (.int (b2i b)) = .int (b2i b) := by cases b <;> rfl
theorem bb_eq_t {b : Bool} (q : ¬ b = true) : ifCond.holds .eq (b2i b) = true := by cases b <;> first | rfl | exact absurd rfl q
theorem bb_eq_f {b : Bool} (q : b = true) : ifCond.holds .eq (b2i b) = false := by subst q; rfl
theorem bb_ne_t {b : Bool} (q : b = true) : ifCond.holds .ne (b2i b) = true := by subst q; rfl
theorem bb_ne_f {b : Bool} (q : ¬ b = true) : ifCond.holds .ne (b2i b) = false := by cases b <;> first | rfl | exact absurd rfl q
theorem b2_eq_t {a b : Bool} (q : a = b) : if_icmp.holds .eq (b2i a) (b2i b) = true := by subst q; cases a <;> rfl
theorem b2_eq_f {a b : Bool} (q : ¬ a = b) : if_icmp.holds .eq (b2i a) (b2i b) = false := by cases a <;> cases b <;> first | rfl | exact absurd rfl q
theorem b2_ne_t {a b : Bool} (q : ¬ a = b) : if_icmp.holds .ne (b2i a) (b2i b) = true := by cases a <;> cases b <;> first | rfl | exact absurd rfl q
theorem b2_ne_f {a b : Bool} (q : a = b) : if_icmp.holds .ne (b2i a) (b2i b) = false := by subst q; cases a <;> rfl
theorem g_getF (X : Stand p l e R s m args below meth c T locs cells slots) (hx : p.tables.exec = Jvm.exec) (hZ : Z.Warmed39 s.vm) (pc' : Nat) (hpc : pc + 3 = pc') {own O n d : String} {index : Nat} (hown : s.vm.findClass own = some m.cls) (w : (Jvm.Cond.fieldLink own index O n d).before a0 Z = true) (eT : T.heap = h) {a : Addr} {v : Value} (F : Fld Z h a O n d v) (hd : decode c.code pc = .ok (.getfield index, 3)) (K : ∀ T', Stand p l e R s m args below meth c T' locs cells slots → T'.heap = h → Goes p e below (T'.setTop (mkF m pc' Ls (v :: st))) P) : Goes p e below (T.setTop (mkF m pc Ls (.ref a :: st))) P := by
  subst hpc
  obtain ⟨T', X', e', st'⟩ := getF X hx hZ hown (host := "") (Or.inl w) Via.refl eT F (g := mkF m pc Ls (.ref a :: st)) rfl rfl hd
  exact go st' (K T' X' e')
theorem g_putF (X : Stand p l e R s m args below meth c T locs cells slots) (hx : p.tables.exec = Jvm.exec) (hZ : Z.Warmed39 s.vm) (pc' : Nat) (hpc : pc + 3 = pc') {own O n d C : String} {index kk : Nat} {ty : FieldType} (hown : s.vm.findClass own = some m.cls) (w : (Jvm.Cond.fieldLink own index O n d).before a0 Z = true) (eT : T.heap = h) {a : Addr} {v old : Value} (F : Fld Z h a O n d old) (E : Exa Z h a C) (L : (Jvm.Cond.lays C O n d).before a0 Z = true ∨ ((Jvm.Cond.laysFinal C O n d).before a0 Z = true ∧ own = O ∧ meth.name = "<init>")) (wi : (Jvm.Cond.instantiable C kk).before a0 Z = true) (hty : parseFieldDescriptor d = some ty) (hn : narrow ty v = v) (hf : fits ty v = true) (hd : decode c.code pc = .ok (.putfield index, 3)) (K : ∀ T' h', Stand p l e R s m args below meth c T' (locs ++ [⟨a, Jvm.RoadKit.slotOf Z O n d⟩]) cells slots → T'.heap = h' → Wr h h' a (Jvm.RoadKit.slotOf Z O n d) v → Goes p e below (T'.setTop (mkF m pc' Ls st)) P) : Goes p e below (T.setTop (mkF m pc Ls (v :: .ref a :: st))) P := by
  subst hpc
  obtain ⟨T', h', X', e', W', st'⟩ := putF X hx hZ hown (host := "") (Or.inl w) Via.refl eT F E L wi hty hn hf (g := mkF m pc Ls (v :: .ref a :: st)) rfl rfl hd
  exact go st' (K T' h' X' e' W')
theorem g_getS (X : Stand p l e R s m args below meth c T locs cells slots) (hx : p.tables.exec = Jvm.exec) (hZ : Z.Warmed39 s.vm) (pc' : Nat) (hpc : pc + 3 = pc') {own O n d : String} {index : Nat} (hown : s.vm.findClass own = some m.cls) (w : (Jvm.Cond.fieldLink own index O n d).before a0 Z = true) (eT : T.heap = h) {v : Value} (F : Sta Z h O n d v) (hd : decode c.code pc = .ok (.getstatic index, 3)) (K : ∀ T', Stand p l e R s m args below meth c T' locs cells slots → T'.heap = h → Goes p e below (T'.setTop (mkF m pc' Ls (v :: st))) P) : Goes p e below (T.setTop (mkF m pc Ls st)) P := by
  subst hpc
  obtain ⟨T', X', e', st'⟩ := getS (host := "") X hx hZ hown w Via.refl eT F (g := mkF m pc Ls st) rfl hd
  exact go st' (K T' X' e')
theorem g_new (X : Stand p l e R s m args below meth c T locs cells slots) (hx : p.tables.exec = Jvm.exec) (hZ : Z.Warmed39 s.vm) (pc' : Nat) (hpc : pc + 3 = pc') {own C : String} {index n : Nat} (hown : s.vm.findClass own = some m.cls) (w : (Jvm.Cond.classLink own index C).before a0 Z = true) (wi : (Jvm.Cond.instantiable C n).before a0 Z = true) (wz : (Jvm.Cond.initialized C).before a0 Z = true) (eT : T.heap = h) (hd : decode c.code pc = .ok (.new index, 3)) (hc : cells + 1 ≤ R.cells) (hl : slots + n ≤ R.slots) (K : ∀ T' h' a, a = h.size → Stand p l e R s m args below meth c T' locs (cells + 1) (slots + n) → T'.heap = h' → Ext h h' → Exa Z h' a C → (∀ {O nm d : String} {ty : FieldType}, Laid Z a0 C O nm d → parseFieldDescriptor d = some ty → Fld Z h' a O nm d (defaultValue ty)) → Goes p e below (T'.setTop (mkF m pc' Ls (.ref a :: st))) P) : Goes p e below (T.setTop (mkF m pc Ls st)) P := by
  subst hpc
  obtain ⟨T', h', X', e', E', A', D', -, st'⟩ := newO X hx hZ hown w wi wz eT (g := mkF m pc Ls st) rfl hd hc hl
  exact go st' (K T' h' _ rfl X' e' E' A' D')
theorem g_initO (X : Stand p l e R s m args below meth c T locs cells slots) (hx : p.tables.exec = Jvm.exec) (hZ : Z.Warmed39 s.vm) (pc' : Nat) (hpc : pc + 3 = pc') {own : String} {idx : Nat} (hown : s.vm.findClass own = some m.cls) (w1 : (Jvm.Cond.methodLink own idx Lib.objectInit).before a0 Z = true) (w2 : (Jvm.Cond.instanceMethod Lib.objectInit).before a0 Z = true) (w3 : (Jvm.Cond.code Lib.objectInit ⟨#[0xb1]⟩ 1 none).before a0 Z = true) (eT : T.heap = h) (hsize : Ls.size = c.maxLocals) {a : Addr} (hd : decode c.code pc = .ok (.invokespecial idx, 3)) (hf : 1 ≤ R.frames) (W : Nat) (hW : 2 * 0 + (st.map fun v => v.category).sum ≤ W) (hl : W + 12 ≤ R.locals) (K : ∀ T', Stand p l e R s m args below meth c T' locs cells slots → T'.heap = h → Goes p e below (T'.setTop (mkF m pc' Ls st)) P) : Goes p e below (T.setTop (mkF m pc Ls (.ref a :: st))) P := by
  subst hpc
  obtain ⟨T', X', e', st'⟩ := initO X hx hZ hown w1 w2 w3 eT (g := mkF m pc Ls (.ref a :: st)) rfl hsize rfl hd hf hW hl
  exact go st' (K T' X' e')
theorem g_callS (X : Stand p l e R s m args below meth c T locs cells slots) (hx : p.tables.exec = Jvm.exec) (hZ : Z.Warmed39 s.vm) (pc' : Nat) (hpc : pc + 3 = pc') {own : String} {index : Nat} {y : MethodName} {bytes : ByteArray} {maxL : Nat} {ret : Option FieldType} {rm : Room} {Q : Option Value → Heap → List Loc → Prop} (hown : s.vm.findClass own = some m.cls) (w1 : (Jvm.Cond.methodLink own index y).before a0 Z = true) (w2 : (Jvm.Cond.static y).before a0 Z = true) (w3 : (Jvm.Cond.initialized y.cls).before a0 Z = true) (w4 : (Jvm.Cond.code y bytes maxL ret).before a0 Z = true) (hy : y.cls ≠ "java/lang/invoke/MethodHandle" ∧ y.cls ≠ "java/lang/invoke/VarHandle") (argsL rest : List Value) (hM : OwnMet l Z y bytes maxL ret [] rm argsL.toArray h Q) (eT : T.heap = h) (hlen : ∀ sig, parseMethodDescriptor y.desc = some sig → argsL.length = sig.parameters.length) (hst : st = argsL.reverse ++ rest) (hsize : Ls.size = c.maxLocals) (hd : decode c.code pc = .ok (.invokestatic index, 3)) (hf : rm.frames + 1 ≤ R.frames) (W : Nat) (hW : 2 * 0 + (rest.map fun v => v.category).sum ≤ W) (hl : W + (maxL + 11) + rm.locals ≤ R.locals) (hc : cells + rm.cells ≤ R.cells) (hs : slots + rm.slots ≤ R.slots) (K : ∀ v T' L', Stand p l e R s m args below meth c T' (locs ++ L') (cells + rm.cells) (slots + rm.slots) → Q v T'.heap L' → Goes p e below (T'.setTop (mkF m pc' Ls (v.toList ++ rest))) P) : Goes p e below (T.setTop (mkF m pc Ls st)) P := by
  subst hpc; subst hst
  obtain ⟨v, _, ⟨T', L', k', n'⟩, -, X', ⟨Lc, hQ, e1, e2, e3⟩, st'⟩ := Jvm.LawKit.callS X hx (y := y) hown (mvT hZ w1) (mvT hZ w2) (mvT hZ w3) (mvT hZ w4) hy (backOf (W := W) hM hZ w4 w3 hf hl) (g := mkF m pc Ls (argsL.reverse ++ rest)) rfl hsize (argsL := argsL) (rest := rest) hlen rfl hW hd (fun _ _ => ⟨rfl, eT, hc, hs⟩)
  dsimp only [Pt.U, Pt.locs, Pt.cells, Pt.slots] at X' e1 e2 e3 st' hQ
  subst e1 e2 e3
  exact go st' (K v T' Lc X' hQ)
theorem g_callI (X : Stand p l e R s m args below meth c T locs cells slots) (hx : p.tables.exec = Jvm.exec) (hZ : Z.Warmed39 s.vm) (pc' : Nat) (hpc : pc + 3 = pc') {own : String} {index : Nat} {y : MethodName} {bytes : ByteArray} {maxL : Nat} {rm : Room} {Q : Option Value → Heap → List Loc → Prop} (hy1 : y.name = "<init>") (hown : s.vm.findClass own = some m.cls) (w1 : (Jvm.Cond.methodLink own index y).before a0 Z = true) (w2 : (Jvm.Cond.instanceMethod y).before a0 Z = true) (w3 : (Jvm.Cond.initialized y.cls).before a0 Z = true) (w4 : (Jvm.Cond.code y bytes maxL none).before a0 Z = true) (hy : y.cls ≠ "java/lang/invoke/MethodHandle" ∧ y.cls ≠ "java/lang/invoke/VarHandle") (a : Addr) (argsL rest : List Value) (hM : OwnMet l Z y bytes maxL none [] rm (.ref a :: argsL).toArray h Q) (eT : T.heap = h) (hlen : ∀ sig, parseMethodDescriptor y.desc = some sig → argsL.length = sig.parameters.length) (hst : st = argsL.reverse ++ .ref a :: rest) (hsize : Ls.size = c.maxLocals) (hd : decode c.code pc = .ok (.invokespecial index, 3)) (hf : rm.frames + 1 ≤ R.frames) (W : Nat) (hW : 2 * 0 + (rest.map fun v => v.category).sum ≤ W) (hl : W + (maxL + 11) + rm.locals ≤ R.locals) (hc : cells + rm.cells ≤ R.cells) (hs : slots + rm.slots ≤ R.slots) (K : ∀ v T' L', Stand p l e R s m args below meth c T' (locs ++ L') (cells + rm.cells) (slots + rm.slots) → Q v T'.heap L' → Goes p e below (T'.setTop (mkF m pc' Ls (v.toList ++ rest))) P) : Goes p e below (T.setTop (mkF m pc Ls st)) P := by
  subst hpc; subst hst
  obtain ⟨v, _, ⟨T', L', k', n'⟩, -, X', ⟨Lc, hQ, e1, e2, e3⟩, st'⟩ := X.specialBack hx (y := y) hy1 hown (mvT hZ w1) (mvT hZ w2) (mvT hZ w4) hy (backOf (W := W) hM hZ w4 w3 hf hl) (g := mkF m pc Ls (argsL.reverse ++ .ref a :: rest)) rfl hsize (Steps.refl _) (a := a) (argsL := argsL) (rest := rest) hlen rfl hW hd (fun _ _ => ⟨rfl, eT, hc, hs⟩)
  dsimp only [Pt.U, Pt.locs, Pt.cells, Pt.slots] at X' e1 e2 e3 st' hQ
  subst e1 e2 e3
  exact goT st' (K v T' Lc X' hQ)
theorem g_callV (X : Stand p l e R s m args below meth c T locs cells slots) (hx : p.tables.exec = Jvm.exec) (hZ : Z.Warmed39 s.vm) (pc' : Nat) (hpc : pc + 3 = pc') {own C : String} {index : Nat} {y : MethodName} {bytes : ByteArray} {maxL : Nat} {ret : Option FieldType} {rm : Room} {Q : Option Value → Heap → List Loc → Prop} (hown : s.vm.findClass own = some m.cls) (w1 : (Jvm.Cond.methodLink own index y).before a0 Z = true) (w2 : (Jvm.Cond.declares y).before a0 Z = true) (w5 : (Jvm.Cond.selects C y y).before a0 Z = true) (w6 : (Jvm.Cond.instanceMethod y).before a0 Z = true) (w3 : (Jvm.Cond.initialized y.cls).before a0 Z = true) (w4 : (Jvm.Cond.code y bytes maxL ret).before a0 Z = true) (hy : y.cls ≠ "java/lang/invoke/MethodHandle" ∧ y.cls ≠ "java/lang/invoke/VarHandle") (a : Addr) (argsL rest : List Value) (hM : OwnMet l Z y bytes maxL ret [] rm (.ref a :: argsL).toArray h Q) (eT : T.heap = h) (Ex : Exa Z h a C) (hlen : ∀ sig, parseMethodDescriptor y.desc = some sig → argsL.length = sig.parameters.length) (hst : st = argsL.reverse ++ .ref a :: rest) (hsize : Ls.size = c.maxLocals) (hd : decode c.code pc = .ok (.invokevirtual index, 3)) (hf : rm.frames + 1 ≤ R.frames) (W : Nat) (hW : 2 * 0 + (rest.map fun v => v.category).sum ≤ W) (hl : W + (maxL + 11) + rm.locals ≤ R.locals) (hc : cells + rm.cells ≤ R.cells) (hs : slots + rm.slots ≤ R.slots) (K : ∀ v T' L', Stand p l e R s m args below meth c T' (locs ++ L') (cells + rm.cells) (slots + rm.slots) → Q v T'.heap L' → Goes p e below (T'.setTop (mkF m pc' Ls (v.toList ++ rest))) P) : Goes p e below (T.setTop (mkF m pc Ls st)) P := by
  subst hpc; subst hst
  obtain ⟨cq, kq, qa, qb, qc⟩ := isOf hZ eT Ex
  obtain ⟨v, _, ⟨T', L', k', n'⟩, -, X', ⟨Lc, hQ, e1, e2, e3⟩, st'⟩ := X.virtualBack hx (y := y) (z := y) hown (mvT hZ w1) (mvT hZ w2) (notFace_of_selects (args := #[]) (mvT hZ w5)) (mvT hZ w5) (mvT hZ w6) hy (backOf (W := W) hM hZ w4 w3 hf hl) qa qc (g := mkF m pc Ls (argsL.reverse ++ .ref a :: rest)) rfl hsize (Steps.refl _) (argsL := argsL) (rest := rest) hlen rfl hW hd (fun _ _ => ⟨rfl, eT, hc, hs⟩)
  dsimp only [Pt.U, Pt.locs, Pt.cells, Pt.slots] at X' e1 e2 e3 st' hQ
  subst e1 e2 e3
  exact goT st' (K v T' Lc X' hQ)
theorem g_callP (X : Stand p l e R s m args below meth c T locs cells slots) (hx : p.tables.exec = Jvm.exec) (hZ : Z.Warmed39 s.vm) (pc' : Nat) (hpc : pc + 3 = pc') {own : String} {index : Nat} {y : MethodName} {bytes : ByteArray} {maxL : Nat} {ret : Option FieldType} {rm : Room} {Q : Option Value → Heap → List Loc → Prop} {kk : Nat} {C : String} (hown : s.vm.findClass own = some m.cls) (w1 : (Jvm.Cond.methodLink own index y).before a0 Z = true) (w2 : (Jvm.Cond.instanceMethod y).before a0 Z = true) (w5 : (Jvm.Cond.privateMethod y).before a0 Z = true) (wi : (Jvm.Cond.instantiable y.cls kk).before a0 Z = true) (w3 : (Jvm.Cond.initialized y.cls).before a0 Z = true) (w4 : (Jvm.Cond.code y bytes maxL ret).before a0 Z = true) (hy : y.cls ≠ "java/lang/invoke/MethodHandle" ∧ y.cls ≠ "java/lang/invoke/VarHandle") (a : Addr) (argsL rest : List Value) (hM : OwnMet l Z y bytes maxL ret [] rm (.ref a :: argsL).toArray h Q) (eT : T.heap = h) (Ex : Exa Z h a C) (hlen : ∀ sig, parseMethodDescriptor y.desc = some sig → argsL.length = sig.parameters.length) (hst : st = argsL.reverse ++ .ref a :: rest) (hsize : Ls.size = c.maxLocals) (hd : decode c.code pc = .ok (.invokevirtual index, 3)) (hf : rm.frames + 1 ≤ R.frames) (W : Nat) (hW : 2 * 0 + (rest.map fun v => v.category).sum ≤ W) (hl : W + (maxL + 11) + rm.locals ≤ R.locals) (hc : cells + rm.cells ≤ R.cells) (hs : slots + rm.slots ≤ R.slots) (K : ∀ v T' L', Stand p l e R s m args below meth c T' (locs ++ L') (cells + rm.cells) (slots + rm.slots) → Q v T'.heap L' → Goes p e below (T'.setTop (mkF m pc' Ls (v.toList ++ rest))) P) : Goes p e below (T.setTop (mkF m pc Ls st)) P := by
  subst hpc; subst hst
  obtain ⟨cl, hcl, hob⟩ := Ex.cell
  have hpriv : s.PrivateAt y := Cond.privateMethod_at (mvP hZ w5 (args := #[]))
  have hin : (Jvm.Cond.instanceMethod y).before args s = true := mvT hZ w2
  obtain ⟨c1, k1, i1, i2, -, i4, -⟩ := Cond.instantiable_spec (mvT hZ wi (args := args) : (Jvm.Cond.instantiable y.cls kk).before args s = true)
  have hsel : (Jvm.Cond.selects y.cls y y).before args s = true := selects_self_of_private i1 i2 (by cases q : k1.isInterface <;> simp [q] at i4 ⊢) hpriv hin hy
  obtain ⟨v, _, ⟨T', L', k', n'⟩, -, X', ⟨Lc, hQ, e1, e2, e3⟩, st'⟩ := X.privateBack hx (y := y) hown (mvT hZ w1) hin hsel hpriv (mvT hZ w4) hy (backOf (W := W) hM hZ w4 w3 hf hl) (g := mkF m pc Ls (argsL.reverse ++ .ref a :: rest)) rfl hsize (Steps.refl _) (a := a) (cell := cl) (by rw [eT]; exact hcl) hob (argsL := argsL) (rest := rest) hlen rfl hW hd (fun _ _ => ⟨rfl, eT, hc, hs⟩)
  dsimp only [Pt.U, Pt.locs, Pt.cells, Pt.slots] at X' e1 e2 e3 st' hQ
  subst e1 e2 e3
  exact goT st' (K v T' Lc X' hQ)
def Al (Z : State) (h : Heap) (a : Addr) (ty : FieldType) (vs : List Value) : Prop := ∃ c : Cell, Arr Z h a c ty ∧ c.slots.toList = vs ∧ vs.length < 2147483648
theorem Al.lt {a : Addr} {ty : FieldType} {vs : List Value} (F : Al Z h a ty vs) : a < h.size := by obtain ⟨c, A, -⟩ := F; exact A.lt
theorem Al.ext {h' : Heap} {a : Addr} {ty : FieldType} {vs : List Value} (F : Al Z h a ty vs) (E : Ext h h') : Al Z h' a ty vs := by obtain ⟨c, A, r⟩ := F; exact ⟨c, A.ext E, r⟩
theorem Al.other {h' : Heap} {a b : Addr} {sl : Nat} {v : Value} {ty : FieldType} {vs : List Value} (F : Al Z h b ty vs) (W : Wr h h' a sl v) (q : b ≠ a) : Al Z h' b ty vs := by obtain ⟨c, A, r⟩ := F; exact ⟨c, A.other W q, r⟩
theorem Al.keep {h' : Heap} {a : Addr} {ws : List Addr} {ty : FieldType} {vs : List Value} (F : Al Z h a ty vs) (K : Keep h h' ws) (q : a ∉ ws) : Al Z h' a ty vs := by obtain ⟨c, A, r⟩ := F; exact ⟨c, ⟨K.2.1 a c A.1 q, A.2⟩, r⟩
theorem Al.same {h' : Heap} {a : Addr} {i : Nat} {v : Value} {ty : FieldType} {vs : List Value} (F : Al Z h a ty vs) (W : Wr h h' a i v) : Al Z h' a ty (vs.set i v) := by
  obtain ⟨c, A, r1, r2⟩ := F
  exact ⟨_, A.same W, by rw [← r1]; simp [Cell.setSlot], by rw [List.length_set]; exact r2⟩
theorem own_ix {j : Int32} {i : Nat} (hj : j.toInt = (i : Int)) : j.toNatClampNeg = i ∧ ¬ j < 0 := by
  refine ⟨by simp only [Int32.toNatClampNeg]; omega, fun q => ?_⟩
  rw [Int32.lt_iff_toInt_lt] at q; simp only [Int32.reduceToInt] at q; omega
theorem Al.cell {a : Addr} {ty : FieldType} {vs : List Value} (F : Al Z h a ty vs) {j : Int32} {i : Nat} (hj : j.toInt = (i : Int)) (hi : i < vs.length) : ∃ c : Cell, Arr Z h a c ty ∧ c.slots.toList = vs ∧ ¬ (j < 0 ∨ c.slots.size ≤ j.toNatClampNeg) ∧ c.slots[j.toNatClampNeg]? = vs[i]? := by
  obtain ⟨c, A, r1, r2⟩ := F
  obtain ⟨q1, q2⟩ := own_ix hj
  have hs : c.slots.size = vs.length := by rw [← r1]; simp
  exact ⟨c, A, r1, fun q => q.elim q2 (by rw [q1, hs]; omega), by rw [q1, ← r1, Array.getElem?_toList]⟩
theorem g_alen (X : Stand p l e R s m args below meth c T locs cells slots) (hx : p.tables.exec = Jvm.exec) (hZ : Z.Warmed39 s.vm) (pc' : Nat) (hpc : pc + 1 = pc') (hd : decode c.code pc = .ok (.arraylength, 1)) (eT : T.heap = h) {a : Addr} {ty : FieldType} {vs : List Value} (A : Al Z h a ty vs) (n : Int32) (hn : Int32.ofNat vs.length = n) (K : Goes p e below (T.setTop (mkF m pc' Ls (.int n :: st))) P) : Goes p e below (T.setTop (mkF m pc Ls (.ref a :: st))) P := by
  subst hpc
  obtain ⟨c, A, r1, r2⟩ := A
  have hs : c.slots.size.toInt32 = n := by rw [← hn, ← r1]; simp
  exact go (fun _ q => X.arraylength hx (by rw [eT]; exact A.1) (State.isArrayOf_alike hZ.alike A.2.1) (g := mkF m pc Ls (.ref a :: st)) rfl rfl hd _ (by rw [hs]; exact q)) K
theorem g_iaload (X : Stand p l e R s m args below meth c T locs cells slots) (hx : p.tables.exec = Jvm.exec) (hZ : Z.Warmed39 s.vm) (pc' : Nat) (hpc : pc + 1 = pc') (hd : decode c.code pc = .ok (.iaload, 1)) (eT : T.heap = h) {a : Addr} {vs : List Value} (A : Al Z h a .int vs) {j : Int32} (i : Nat) (hj : j.toInt = (i : Int)) (v : Value) (hv : vs[i]? = some v) (K : Goes p e below (T.setTop (mkF m pc' Ls (v :: st))) P) : Goes p e below (T.setTop (mkF m pc Ls (.int j :: .ref a :: st))) P := by
  subst hpc
  obtain ⟨c, A, r1, r2, r3⟩ := A.cell hj (List.getElem?_eq_some_iff.mp hv).1
  exact go (fun _ q => X.iaload hx (by rw [eT]; exact A.1) (State.isArrayOf_alike hZ.alike A.2.1) A.2.2 r2 (r3.trans hv) (g := mkF m pc Ls (.int j :: .ref a :: st)) rfl rfl hd _ q) K
theorem g_laload (X : Stand p l e R s m args below meth c T locs cells slots) (hx : p.tables.exec = Jvm.exec) (hZ : Z.Warmed39 s.vm) (pc' : Nat) (hpc : pc + 1 = pc') (hd : decode c.code pc = .ok (.laload, 1)) (eT : T.heap = h) {a : Addr} {vs : List Value} (A : Al Z h a .long vs) {j : Int32} (i : Nat) (hj : j.toInt = (i : Int)) (v : Value) (hv : vs[i]? = some v) (K : Goes p e below (T.setTop (mkF m pc' Ls (v :: st))) P) : Goes p e below (T.setTop (mkF m pc Ls (.int j :: .ref a :: st))) P := by
  subst hpc
  obtain ⟨c, A, r1, r2, r3⟩ := A.cell hj (List.getElem?_eq_some_iff.mp hv).1
  exact go (fun _ q => X.laload hx (by rw [eT]; exact A.1) (State.isArrayOf_alike hZ.alike A.2.1) A.2.2 r2 (r3.trans hv) (g := mkF m pc Ls (.int j :: .ref a :: st)) rfl rfl hd _ q) K
theorem g_baload (X : Stand p l e R s m args below meth c T locs cells slots) (hx : p.tables.exec = Jvm.exec) (hZ : Z.Warmed39 s.vm) (pc' : Nat) (hpc : pc + 1 = pc') (hd : decode c.code pc = .ok (.baload, 1)) (eT : T.heap = h) {a : Addr} {vs : List Value} (A : Al Z h a .byte vs) {j : Int32} (i : Nat) (hj : j.toInt = (i : Int)) (v : Value) (hv : vs[i]? = some v) (K : Goes p e below (T.setTop (mkF m pc' Ls (v :: st))) P) : Goes p e below (T.setTop (mkF m pc Ls (.int j :: .ref a :: st))) P := by
  subst hpc
  obtain ⟨c, A, r1, r2, r3⟩ := A.cell hj (List.getElem?_eq_some_iff.mp hv).1
  exact go (fun _ q => X.baloadBytes hx (by rw [eT]; exact A.1) (State.isArrayOf_alike hZ.alike A.2.1) A.2.2 r2 (r3.trans hv) (g := mkF m pc Ls (.int j :: .ref a :: st)) rfl rfl hd _ q) K
theorem g_caload (X : Stand p l e R s m args below meth c T locs cells slots) (hx : p.tables.exec = Jvm.exec) (hZ : Z.Warmed39 s.vm) (pc' : Nat) (hpc : pc + 1 = pc') (hd : decode c.code pc = .ok (.caload, 1)) (eT : T.heap = h) {a : Addr} {vs : List Value} (A : Al Z h a .char vs) {j : Int32} (i : Nat) (hj : j.toInt = (i : Int)) (v : Value) (hv : vs[i]? = some v) (K : Goes p e below (T.setTop (mkF m pc' Ls (v :: st))) P) : Goes p e below (T.setTop (mkF m pc Ls (.int j :: .ref a :: st))) P := by
  subst hpc
  obtain ⟨c, A, r1, r2, r3⟩ := A.cell hj (List.getElem?_eq_some_iff.mp hv).1
  exact go (fun _ q => X.caload hx (by rw [eT]; exact A.1) (State.isArrayOf_alike hZ.alike A.2.1) A.2.2 r2 (r3.trans hv) (g := mkF m pc Ls (.int j :: .ref a :: st)) rfl rfl hd _ q) K
theorem g_iastore (X : Stand p l e R s m args below meth c T locs cells slots) (hx : p.tables.exec = Jvm.exec) (hZ : Z.Warmed39 s.vm) (pc' : Nat) (hpc : pc + 1 = pc') (hd : decode c.code pc = .ok (.iastore, 1)) (eT : T.heap = h) {a : Addr} {vs : List Value} (A : Al Z h a .int vs) {j : Int32} {x : Int32} (i : Nat) (hj : j.toInt = (i : Int)) (hi : i < vs.length) (K : ∀ T' h', Stand p l e R s m args below meth c T' (locs ++ [⟨a, i⟩]) cells slots → T'.heap = h' → Wr h h' a i (.int x) → Al Z h' a .int (vs.set i (.int x)) → Goes p e below (T'.setTop (mkF m pc' Ls st)) P) : Goes p e below (T.setTop (mkF m pc Ls (.int x :: .int j :: .ref a :: st))) P := by
  subst hpc
  obtain ⟨c, Ar, r1, r2, r3⟩ := A.cell hj hi
  obtain ⟨T', h', X', e', W', st'⟩ := stI X hx hZ eT Ar r2 (g := mkF m pc Ls (.int x :: .int j :: .ref a :: st)) rfl rfl hd
  rw [(own_ix hj).1] at X' W'
  exact go st' (K T' h' X' e' W' (A.same W'))
theorem g_lastore (X : Stand p l e R s m args below meth c T locs cells slots) (hx : p.tables.exec = Jvm.exec) (hZ : Z.Warmed39 s.vm) (pc' : Nat) (hpc : pc + 1 = pc') (hd : decode c.code pc = .ok (.lastore, 1)) (eT : T.heap = h) {a : Addr} {vs : List Value} (A : Al Z h a .long vs) {j : Int32} {x : Int64} (i : Nat) (hj : j.toInt = (i : Int)) (hi : i < vs.length) (K : ∀ T' h', Stand p l e R s m args below meth c T' (locs ++ [⟨a, i⟩]) cells slots → T'.heap = h' → Wr h h' a i (.long x) → Al Z h' a .long (vs.set i (.long x)) → Goes p e below (T'.setTop (mkF m pc' Ls st)) P) : Goes p e below (T.setTop (mkF m pc Ls (.long x :: .int j :: .ref a :: st))) P := by
  subst hpc
  obtain ⟨c, Ar, r1, r2, r3⟩ := A.cell hj hi
  obtain ⟨T', h', X', e', W', st'⟩ := stJ X hx hZ eT Ar r2 (g := mkF m pc Ls (.long x :: .int j :: .ref a :: st)) rfl rfl hd
  rw [(own_ix hj).1] at X' W'
  exact go st' (K T' h' X' e' W' (A.same W'))
theorem g_bastore (X : Stand p l e R s m args below meth c T locs cells slots) (hx : p.tables.exec = Jvm.exec) (hZ : Z.Warmed39 s.vm) (pc' : Nat) (hpc : pc + 1 = pc') (hd : decode c.code pc = .ok (.bastore, 1)) (eT : T.heap = h) {a : Addr} {vs : List Value} (A : Al Z h a .byte vs) {j : Int32} {x : Int32} (i : Nat) (hj : j.toInt = (i : Int)) (hi : i < vs.length) (K : ∀ T' h', Stand p l e R s m args below meth c T' (locs ++ [⟨a, i⟩]) cells slots → T'.heap = h' → Wr h h' a i (.int (nar .byte x)) → Al Z h' a .byte (vs.set i (.int (nar .byte x))) → Goes p e below (T'.setTop (mkF m pc' Ls st)) P) : Goes p e below (T.setTop (mkF m pc Ls (.int x :: .int j :: .ref a :: st))) P := by
  subst hpc
  obtain ⟨c, Ar, r1, r2, r3⟩ := A.cell hj hi
  obtain ⟨T', h', X', e', W', st'⟩ := stB X hx hZ eT Ar r2 (g := mkF m pc Ls (.int x :: .int j :: .ref a :: st)) rfl rfl hd
  rw [(own_ix hj).1] at X' W'
  exact go st' (K T' h' X' e' W' (A.same W'))
theorem g_castore (X : Stand p l e R s m args below meth c T locs cells slots) (hx : p.tables.exec = Jvm.exec) (hZ : Z.Warmed39 s.vm) (pc' : Nat) (hpc : pc + 1 = pc') (hd : decode c.code pc = .ok (.castore, 1)) (eT : T.heap = h) {a : Addr} {vs : List Value} (A : Al Z h a .char vs) {j : Int32} {x : Int32} (i : Nat) (hj : j.toInt = (i : Int)) (hi : i < vs.length) (K : ∀ T' h', Stand p l e R s m args below meth c T' (locs ++ [⟨a, i⟩]) cells slots → T'.heap = h' → Wr h h' a i (.int (nar .char x)) → Al Z h' a .char (vs.set i (.int (nar .char x))) → Goes p e below (T'.setTop (mkF m pc' Ls st)) P) : Goes p e below (T.setTop (mkF m pc Ls (.int x :: .int j :: .ref a :: st))) P := by
  subst hpc
  obtain ⟨c, Ar, r1, r2, r3⟩ := A.cell hj hi
  obtain ⟨T', h', X', e', W', st'⟩ := stC X hx hZ eT Ar r2 (g := mkF m pc Ls (.int x :: .int j :: .ref a :: st)) rfl rfl hd
  rw [(own_ix hj).1] at X' W'
  exact go st' (K T' h' X' e' W' (A.same W'))
theorem g_newarr (X : Stand p l e R s m args below meth c T locs cells slots) (hx : p.tables.exec = Jvm.exec) (hZ : Z.Warmed39 s.vm) (pc' : Nat) (hpc : pc + 2 = pc') {aty : ArrayType} (w : (Jvm.Cond.arrayClass (newarray.typeOf aty)).before a0 Z = true) (eT : T.heap = h) (hd : decode c.code pc = .ok (.newarray aty, 2)) {n : Int32} (k : Nat) (hn : n.toInt = (k : Int)) (cap : Nat) (hcap : k ≤ cap) (hb : cap * 8 ≤ 536870912) (hc : cells + 1 ≤ R.cells) (hl : slots + cap ≤ R.slots) (ad : String) (had : "[" ++ (newarray.typeOf aty).toString = ad) (K : ∀ T' h' a, a = h.size → Stand p l e R s m args below meth c T' locs (cells + 1) (slots + cap) → T'.heap = h' → Ext h h' → Al Z h' a (newarray.typeOf aty) (List.replicate k (defaultValue (newarray.typeOf aty))) → Exa Z h' a ad → Goes p e below (T'.setTop (mkF m pc' Ls (.ref a :: st))) P) : Goes p e below (T.setTop (mkF m pc Ls (.int n :: st))) P := by
  subst hpc
  obtain ⟨q1, q2⟩ := own_ix hn
  obtain ⟨T', h', cA, X', e', E', A', Ex', st'⟩ := newPE X hx hZ w eT (g := mkF m pc Ls (.int n :: st)) rfl hd rfl q2 (cap := cap) (by rw [q1]; exact hcap) hb hc hl had
  refine go st' (K T' h' _ rfl X' e' E' ⟨_, A', by simp [newA, q1], ?_⟩ Ex')
  rw [List.length_replicate]
  have := Int32.toInt_lt n
  omega
theorem own_narb (x : Int32) : nar .byte x.toInt8.toInt32 = x.toInt8.toInt32 := by show x.toInt8.toInt32.toInt8.toInt32 = _; simp
theorem g_cast (X : Stand p l e R s m args below meth c T locs cells slots) (hx : p.tables.exec = Jvm.exec) (hZ : Z.Warmed39 s.vm) (pc' : Nat) (hpc : pc + 3 = pc') {own K : String} {index : Nat} (hown : s.vm.findClass own = some m.cls) (w : (Jvm.Cond.classLink own index K).before a0 Z = true) (eT : T.heap = h) {a : Addr} (F : Ins Z h a K true) (hd : decode c.code pc = .ok (.checkcast index, 3)) (K2 : ∀ T', Stand p l e R s m args below meth c T' locs cells slots → T'.heap = h → Goes p e below (T'.setTop (mkF m pc' Ls (.ref a :: st))) P) : Goes p e below (T.setTop (mkF m pc Ls (.ref a :: st))) P := by
  subst hpc
  obtain ⟨T', X', e', st'⟩ := castY X hx hZ hown w eT F (g := mkF m pc Ls (.ref a :: st)) rfl rfl hd
  exact go st' (K2 T' X' e')
theorem own_fitc {a : Addr} {ty : FieldType} {vs : List Value} {c : Cell} (A : Arr Z h a c ty) (r : c.slots.toList = vs) (hfit : ∀ v ∈ vs, fits ty v = true) : FitC Z c := fitC_of A fun i hi v hv => hfit v (by rw [← r]; rw [← Array.getElem?_toList] at hv; exact List.mem_of_getElem? hv)
theorem g_clone (X : Stand p l e R s m args below meth c T locs cells slots) (hx : p.tables.exec = Jvm.exec) (hZ : Z.Warmed39 s.vm) (pc' : Nat) (hpc : pc + 3 = pc') {own ad : String} {index : Nat} (hown : s.vm.findClass own = some m.cls) (w1 : (Jvm.Cond.methodLink own index ⟨ad, "clone", "()Ljava/lang/Object;"⟩).before a0 Z = true) (w2 : (Jvm.Cond.sameMethod ad "java/lang/Object" "clone" "()Ljava/lang/Object;").before a0 Z = true) (w3 : (Jvm.Cond.native ⟨"java/lang/Object", "clone", "()Ljava/lang/Object;"⟩).before a0 Z = true) (w4 : (Jvm.Cond.instanceMethod ⟨"java/lang/Object", "clone", "()Ljava/lang/Object;"⟩).before a0 Z = true) (w5 : (Jvm.Cond.selects ad ⟨ad, "clone", "()Ljava/lang/Object;"⟩ ⟨"java/lang/Object", "clone", "()Ljava/lang/Object;"⟩).before a0 Z = true) (w6 : (Jvm.Cond.castable ad "java/lang/Cloneable").before a0 Z = true) (eT : T.heap = h) {a : Addr} {ty : FieldType} {vs : List Value} (A : Al Z h a ty vs) (Ex : Exa Z h a ad) (hfit : ∀ v ∈ vs, fits ty v = true) (hd : decode c.code pc = .ok (.invokevirtual index, 3)) (hsize : Ls.size = c.maxLocals) (hf : 1 ≤ R.frames) (W : Nat) (hW : 2 * 0 + (st.map fun v => v.category).sum ≤ W) (hl : W + 14 ≤ R.locals) (cap : Nat) (hcap : vs.length ≤ cap) (hc : cells + 1 ≤ R.cells) (hs : slots + cap ≤ R.slots) (K : ∀ T' h' b, b = h.size → Stand p l e R s m args below meth c T' locs (cells + 1) (slots + cap) → T'.heap = h' → Ext h h' → Al Z h' b ty vs → Exa Z h' b ad → Goes p e below (T'.setTop (mkF m pc' Ls (.ref b :: st))) P) : Goes p e below (T.setTop (mkF m pc Ls (.ref a :: st))) P := by
  subst hpc
  obtain ⟨c, Ar, r1, r2⟩ := A
  obtain ⟨T', h', X', e', E', A', Ex', st'⟩ := cloneA X hx hZ hown w1 w2 w3 w4 w5 w6 eT Ar Ex (own_fitc Ar r1 hfit) (g := mkF m pc Ls (.ref a :: st)) rfl hsize rfl hd hf hW hl (by rw [← r1] at hcap; simpa using hcap) hc hs
  exact go st' (K T' h' _ rfl X' e' E' ⟨_, A', r1, r2⟩ Ex')
theorem own_arv {a : Addr} {ty : FieldType} {vs : List Value} (d : Value) (A : Al Z h a ty vs) (hfit : ∀ v ∈ vs, fits ty v = true) : ∃ k, Arv Z h a k ty (Int32.ofNat vs.length) vs d := by
  obtain ⟨c, Ar, r1, r2⟩ := A
  have hs : c.slots.size = vs.length := by rw [← r1]; simp
  have h1 : (Int32.ofNat vs.length).toInt = (vs.length : Int) := Int32.toInt_ofNat_of_lt r2
  obtain ⟨q1, q2⟩ := own_ix h1
  have hv : ∀ i, i < c.slots.size → c.slots[i]? = some (vs.getD i d) := fun i hi => by
    rw [← Array.getElem?_toList, r1, List.getD_eq_getElem?_getD, List.getElem?_eq_getElem (by omega)]; rfl
  refine ⟨c.cls, c, Ar, rfl, by rw [hs, q1], q2, hv, fun i hi => hfit _ ?_⟩
  have := hv i hi
  rw [← Array.getElem?_toList, r1] at this
  exact List.mem_of_getElem? this
theorem own_al {a : Addr} {k : ClassId} {ty : FieldType} {z : Int32} {vs : List Value} {d : Value} (A : Arv Z h a k ty z vs d) (hl : vs.length = z.toNatClampNeg) : Al Z h a ty vs := by
  obtain ⟨c, Ar, -, S, M, H, -⟩ := A
  refine ⟨c, Ar, ?_, ?_⟩
  · apply List.ext_getElem?
    intro i
    rw [Array.getElem?_toList]
    by_cases hi : i < c.slots.size
    · rw [H i hi, List.getD_eq_getElem?_getD, List.getElem?_eq_getElem (by omega)]; rfl
    · rw [Array.getElem?_eq_none (by omega), List.getElem?_eq_none (by omega)]
  · have := (back32 M).2; omega
theorem g_acopy (X : Stand p l e R s m args below meth c T locs cells slots) (hx : p.tables.exec = Jvm.exec) (hZ : Z.Warmed39 s.vm) (pc' : Nat) (hpc : pc + 3 = pc') {own : String} {index : Nat} (hown : s.vm.findClass own = some m.cls) (w1 : (Jvm.Cond.methodLink own index Jvm.Stand.acN).before a0 Z = true) (w2 : (Jvm.Cond.native Jvm.Stand.acN).before a0 Z = true) (w3 : (Jvm.Cond.static Jvm.Stand.acN).before a0 Z = true) (w4 : (Jvm.Cond.initialized "java/lang/System").before a0 Z = true) (eT : T.heap = h) {a b : Addr} {ty : FieldType} {vs vd : List Value} (A : Al Z h a ty vs) (B : Al Z h b ty vd) (hp : refKind ty = false) (hfit : ∀ v ∈ vs, fits ty v = true) (hfit2 : ∀ v ∈ vd, fits ty v = true) {nn : Int32} (n : Nat) (hn : nn.toInt = (n : Int)) (h1 : n ≤ vs.length) (h2 : n ≤ vd.length) {n0 : Nat} (N : Fr n0 locs) (ge : n0 ≤ b) (hd : decode c.code pc = .ok (.invokestatic index, 3)) (hsize : Ls.size = c.maxLocals) (hf : 1 ≤ R.frames) (W : Nat) (hW : 2 * 0 + (st.map fun v => v.category).sum ≤ W) (hlo : W + (nativeFrameWords "java/lang/System" "arraycopy" 5 + 11) ≤ R.locals) (K : ∀ T' h' L, Stand p l e R s m args below meth c T' L cells slots → T'.heap = h' → Fr n0 L → Keep h h' [b] → Al Z h' b ty (vs.take n ++ vd.drop n) → Goes p e below (T'.setTop (mkF m pc' Ls st)) P) : Goes p e below (T.setTop (mkF m pc Ls (.int nn :: .int 0 :: .ref b :: .int 0 :: .ref a :: st))) P := by
  subst hpc
  obtain ⟨ka, Aa⟩ := own_arv (.int 0) A hfit
  obtain ⟨kb, Ab⟩ := own_arv (.int 0) B hfit2
  obtain ⟨q1, q2⟩ := own_ix hn
  have l1 : (Int32.ofNat vs.length).toNatClampNeg = vs.length := (own_ix (Int32.toInt_ofNat_of_lt A.choose_spec.2.2)).1
  have l2 : (Int32.ofNat vd.length).toNatClampNeg = vd.length := (own_ix (Int32.toInt_ofNat_of_lt B.choose_spec.2.2)).1
  have z0 : (0 : Int32).toNatClampNeg = 0 := rfl
  obtain ⟨T', h', L, X', e', N', K', A', st'⟩ := cpA X hx hZ hown w1 w2 w3 w4 eT Aa Ab (us := (List.range nn.toNatClampNeg).map fun i => vs.getD ((0 : Int32).toNatClampNeg + i) (.int 0)) (Or.inl ⟨rfl, hp⟩) (sp := 0) (dp := 0) (nn := nn) (by decide) (by decide) q2 (by rw [q1, l1, z0]; omega) (by rw [q1, l2, z0]; omega) rfl (by rw [q1, z0]; omega) N ge (g := mkF m pc Ls (.int nn :: .int 0 :: .ref b :: .int 0 :: .ref a :: st)) rfl hsize rfl hd hf hW hlo
  have hu : vd.take (0 : Int32).toNatClampNeg ++ ((List.range nn.toNatClampNeg).map fun i => vs.getD ((0 : Int32).toNatClampNeg + i) (.int 0)) ++ vd.drop ((0 : Int32).toNatClampNeg + nn.toNatClampNeg) = vs.take n ++ vd.drop n := by
    rw [z0, q1, List.take_zero, List.nil_append, Nat.zero_add]
    congr 1
    apply List.ext_getElem?
    intro i
    by_cases hi : i < n
    · rw [List.getElem?_take_of_lt hi, List.getElem?_map, List.getElem?_range hi, Option.map_some, Nat.zero_add, List.getD_eq_getElem?_getD, List.getElem?_eq_getElem (by omega)]; rfl
    · rw [List.getElem?_eq_none (by simp; omega), List.getElem?_eq_none (by simp; omega)]
  rw [hu] at A'
  exact go st' (K T' h' L X' e' N' K' (own_al A' (by rw [l2]; simp; omega)))
theorem own_eqI {args : Array Value} {first s : State} {o : Option Outcome} {idx : List Nat} {a : Term} {k : Int32} (q : (Jvm.Cond.eq a (Jvm.Term.int k)).value args first o s idx = some true) : a.eval args first o idx s = some (.int k) := by
  obtain ⟨x, y, h1, h2, h3, h4⟩ := cmp_v (Or.inl q)
  have h5 : y = .int k := (Option.some.inj ((Term.int_eval k).symm.trans h2)).symm
  subst h5
  obtain ⟨z, rfl⟩ := h4
  have h6 : z = k := gotT (Cond.eq_ints h1 h2) q
  rw [h1, h6]
theorem own_nar_ref {v : Value} {C : String} (q : v.isRef = true) : narrow (.object C) v = v := by cases v <;> simp [Value.isRef] at q <;> rfl
theorem own_fit_ref {v : Value} {C : String} (q : v.isRef = true) : fits (.object C) v = true := by cases v <;> simp [Value.isRef] at q <;> rfl
theorem own_sixteen (x : Int32) : (x.toBitVec.toNat < 2147483648 ∧ x.toInt = (x.toBitVec.toNat : Int)) ∨ (2147483648 ≤ x.toBitVec.toNat ∧ x.toInt = (x.toBitVec.toNat : Int) - 4294967296) := by
  have h1 : x.toInt = x.toBitVec.toInt := rfl
  have h2 := x.toBitVec.isLt
  rw [h1, BitVec.toInt_eq_toNat_cond]; split <;> omega
end OwnKit

section OwnRefs
variable {p : Program} {l : Launch} {e : Env} {R : Room} {s : State} {m : MethodId} {args : Array Value} {below : List Frame} {meth : Method} {c : Code} {T : State} {locs : List Loc} {cells slots : Nat} {P : State → Outcome → Prop} {Z : State} {a0 : Array Value} {h : Heap} {pc : Nat} {Ls : Array Slot} {st : List Value}
theorem own_rr (e : Env) {vm : Vm} (hW : Z.Warmed39 vm) {own : String} {index : Nat} {y : MethodName} {cur : ClassId} {r : MethodId} (hown : vm.findClass own = some cur) (w : (Jvm.Cond.methodRef own index y).before a0 Z = true) (hn : Z.methodNamed? y = some r) (hy : y.cls ≠ "java/lang/invoke/MethodHandle" ∧ y.cls ≠ "java/lang/invoke/VarHandle") : namesResolved vm cur index r.cls ∧ vm.methodReady cur index r := by
  have w' := Cond.methodRef_warmed39 hW hn hy w
  obtain ⟨m, c', q1, q2, q3, q4⟩ := Cond.methodRef_named e (s := Z.setVm vm) hown w'
  have hn' : (Z.setVm vm).methodNamed? y = some r := by rw [State.methodNamed?_setVm hW.alike]; exact hn
  cases q1.symm.trans (State.methodFound?_of_named hn' hy)
  cases q3.symm.trans (findClass_of_methodNamed hn')
  exact ⟨q4, q2⟩
theorem own_rs (e : Env) {U : State} (hZ : Z.Warmed39 s.vm) (hU : s.WarmedH U.vm) {own : String} {index : Nat} {y : MethodName} {cur : ClassId} {r : MethodId} (hown : s.vm.findClass own = some cur) (w : (Jvm.Cond.methodRef own index y).before a0 Z = true) (hn : s.methodNamed? y = some r) (hy : y.cls ≠ "java/lang/invoke/MethodHandle" ∧ y.cls ≠ "java/lang/invoke/VarHandle") : namesResolved U.vm cur index r.cls ∧ U.vm.methodReady cur index r := by
  have hnZ : Z.methodNamed? y = some r := by
    rw [← State.methodNamed?_setVm hZ.alike]; exact hn
  exact own_rr e (wtrans hZ hU) (by rw [hU.alike.findClass]; exact hown) w hnZ hy
theorem g_callIR (X : Stand p l e R s m args below meth c T locs cells slots) (hx : p.tables.exec = Jvm.exec) (hZ : Z.Warmed39 s.vm) (pc' : Nat) (hpc : pc + 3 = pc') {own : String} {index : Nat} {y : MethodName} {bytes : ByteArray} {maxL : Nat} {rm : Room} {Q : Option Value → Heap → List Loc → Prop} (hy1 : y.name = "<init>") (hown : s.vm.findClass own = some m.cls) (w1 : (Jvm.Cond.methodRef own index y).before a0 Z = true) (w2 : (Jvm.Cond.instanceMethod y).before a0 Z = true) (w3 : (Jvm.Cond.initialized y.cls).before a0 Z = true) (w4 : (Jvm.Cond.code y bytes maxL none).before a0 Z = true) (hy : y.cls ≠ "java/lang/invoke/MethodHandle" ∧ y.cls ≠ "java/lang/invoke/VarHandle") (a : Addr) (argsL rest : List Value) (hM : OwnMet l Z y bytes maxL none [] rm (.ref a :: argsL).toArray h Q) (eT : T.heap = h) (hlen : ∀ sig, parseMethodDescriptor y.desc = some sig → argsL.length = sig.parameters.length) (hst : st = argsL.reverse ++ .ref a :: rest) (hsize : Ls.size = c.maxLocals) (hd : decode c.code pc = .ok (.invokespecial index, 3)) (hf : rm.frames + 1 ≤ R.frames) (W : Nat) (hW : 2 * 0 + (rest.map fun v => v.category).sum ≤ W) (hl : W + (maxL + 11) + rm.locals ≤ R.locals) (hc : cells + rm.cells ≤ R.cells) (hs : slots + rm.slots ≤ R.slots) (K : ∀ v T' L', Stand p l e R s m args below meth c T' (locs ++ L') (cells + rm.cells) (slots + rm.slots) → Q v T'.heap L' → Goes p e below (T'.setTop (mkF m pc' Ls (v.toList ++ rest))) P) : Goes p e below (T.setTop (mkF m pc Ls st)) P := by
  subst hpc; subst hst
  have S : SCall p l e R s m args below meth c index y := SCall.of_ready hx hy1 (mvT hZ w2) (mvT hZ w4) (fun U r hU hr => own_rs e hZ hU hown w1 hr hy)
  obtain ⟨v, _, ⟨T', L', k', n'⟩, -, X', ⟨Lc, hQ, e1, e2, e3⟩, st'⟩ := S X (backOf (W := W) hM hZ w4 w3 hf hl) (g := mkF m pc Ls (argsL.reverse ++ .ref a :: rest)) rfl hsize (Steps.refl _) (a := a) (argsL := argsL) (rest := rest) hlen rfl hW hd (fun _ _ => ⟨rfl, eT, hc, hs⟩)
  dsimp only [Pt.U, Pt.locs, Pt.cells, Pt.slots] at X' e1 e2 e3 st' hQ
  subst e1 e2 e3
  exact goT st' (K v T' Lc X' hQ)
theorem g_callPR (X : Stand p l e R s m args below meth c T locs cells slots) (hx : p.tables.exec = Jvm.exec) (hZ : Z.Warmed39 s.vm) (pc' : Nat) (hpc : pc + 3 = pc') {own : String} {index : Nat} {y : MethodName} {bytes : ByteArray} {maxL : Nat} {ret : Option FieldType} {rm : Room} {Q : Option Value → Heap → List Loc → Prop} {kk : Nat} {C : String} (hown : s.vm.findClass own = some m.cls) (w1 : (Jvm.Cond.methodRef own index y).before a0 Z = true) (w2 : (Jvm.Cond.instanceMethod y).before a0 Z = true) (w5 : (Jvm.Cond.privateMethod y).before a0 Z = true) (wi : (Jvm.Cond.instantiable y.cls kk).before a0 Z = true) (w3 : (Jvm.Cond.initialized y.cls).before a0 Z = true) (w4 : (Jvm.Cond.code y bytes maxL ret).before a0 Z = true) (hy : y.cls ≠ "java/lang/invoke/MethodHandle" ∧ y.cls ≠ "java/lang/invoke/VarHandle") (a : Addr) (argsL rest : List Value) (hM : OwnMet l Z y bytes maxL ret [] rm (.ref a :: argsL).toArray h Q) (eT : T.heap = h) (Ex : Exa Z h a C) (hlen : ∀ sig, parseMethodDescriptor y.desc = some sig → argsL.length = sig.parameters.length) (hst : st = argsL.reverse ++ .ref a :: rest) (hsize : Ls.size = c.maxLocals) (hd : decode c.code pc = .ok (.invokevirtual index, 3)) (hf : rm.frames + 1 ≤ R.frames) (W : Nat) (hW : 2 * 0 + (rest.map fun v => v.category).sum ≤ W) (hl : W + (maxL + 11) + rm.locals ≤ R.locals) (hc : cells + rm.cells ≤ R.cells) (hs : slots + rm.slots ≤ R.slots) (K : ∀ v T' L', Stand p l e R s m args below meth c T' (locs ++ L') (cells + rm.cells) (slots + rm.slots) → Q v T'.heap L' → Goes p e below (T'.setTop (mkF m pc' Ls (v.toList ++ rest))) P) : Goes p e below (T.setTop (mkF m pc Ls st)) P := by
  subst hpc; subst hst
  obtain ⟨cl, hcl, hob⟩ := Ex.cell
  have hpriv : s.PrivateAt y := Cond.privateMethod_at (mvP hZ w5 (args := #[]))
  have hin : (Jvm.Cond.instanceMethod y).before args s = true := mvT hZ w2
  obtain ⟨mk, methM, hnamed, hmethM, hstM, habM⟩ := Cond.instanceMethod_spec hin
  obtain ⟨methM', cM, hmethM', -, -, -, -, -, -, hsigM⟩ := Cond.code_spec hnamed (mvT hZ w4 (args := args) : (Jvm.Cond.code y bytes maxL ret).before args s = true)
  cases hmethM.symm.trans hmethM'
  obtain ⟨c1, k1, i1, i2, -, i4, -⟩ := Cond.instantiable_spec (mvT hZ wi (args := args) : (Jvm.Cond.instantiable y.cls kk).before args s = true)
  cases i1.symm.trans (findClass_of_methodNamed hnamed)
  have i5 : k1.isInterface = false := by cases q : k1.isInterface <;> simp [q] at i4 ⊢
  have hselP : selectMethod e.platform s.vm cl.cls mk = .method mk := selectMethod_private hmethM (hpriv mk methM hnamed hmethM)
  have hA := X.warmed.alike
  obtain ⟨r1, r2⟩ := own_rs e hZ X.warmed hown w1 hnamed hy
  obtain ⟨k2, hk2, he2⟩ := hA.2.2 _ _ i2
  have hi2 : k2.isInterface = false := by rw [he2]; exact i5
  have hm2 : T.vm.method? mk = some methM := by rw [hA.method?]; exact hmethM
  have hpoly : signaturePolymorphic k2 methM = false := by
    obtain ⟨kN, hkN, hname⟩ := className_of_methodNamed hnamed
    cases i2.symm.trans hkN
    exact signaturePolymorphic_of_name (by rw [he2]; show k1.name ≠ _ ∧ k1.name ≠ _; rw [hname]; exact hy) methM
  obtain ⟨v, ⟨T', L', k', n'⟩, X', ⟨Lc, hQ, e1, e2, e3⟩, st'⟩ := (backOf (W := W) hM hZ w4 w3 hf hl) m meth c ⟨T, locs, cells, slots⟩ (mkF m pc Ls rest) (.invokevirtual index) mk (.ref a :: argsL).toArray X rfl hsize hd hW (X.named hnamed) ⟨rfl, eT, hc, hs⟩
  dsimp only [Pt.U, Pt.locs, Pt.cells, Pt.slots] at X' e1 e2 e3 st' hQ
  subst e1 e2 e3
  refine goT (Steps.trans ?_ st') (K v T' Lc X' hQ)
  jvm_step X.here [hx, hd, invokevirtual.wp_named (e := e) (s := T) (f := mkF m pc Ls (argsL.reverse ++ .ref a :: rest)) (r := mk) (m := mk) (c' := mk.cls) (k := k2) (k' := k2) (mk := k2) (rmeth := methM) (meth := methM) (a := a) (args := argsL) (rest := rest) (cell := cl)
      X.here.top r1 hk2 hi2 r2 hk2 hm2 hpoly hstM (hlen _ hsigM) rfl (by rw [eT]; exact hcl) hob (by rw [hA.selectMethod]; exact hselP) hm2 habM hk2 hi2]
  intro acts
  rw [doInvoke_state]
  exact Steps.refl _
end OwnRefs

theorem own_ofi (k : Nat) (hk : k < 2147483648) : (Int32.ofNat k).toInt = (k : Int) := Int32.toInt_ofNat_of_lt hk
def own_by (q : Int64) (k : Int32) : Int32 := (XT.ushrL q k).toInt32.toInt8.toInt32
theorem own_by0 (q : Int64) : own_by q (0 : Int32) = q.toInt32.toInt8.toInt32 := by
  have h : XT.ushrL q (0 : Int32) = q := by
    apply Int64.toBitVec_inj.mp
    show q.toBitVec >>> _ = _
    exact BitVec.ushiftRight_zero _
  unfold own_by; rw [h]
theorem own_byn (q : Int64) (k : Int32) : nar .byte (own_by q k) = own_by q k := own_narb _
theorem own_byf (q : Int64) (k : Int32) : fits .byte (.int (own_by q k)) = true := fits_nar_byte _
theorem own_fset {vs : List Value} (hf : ∀ v ∈ vs, fits .byte v = true) (i : Nat) (x : Value) (hx : fits .byte x = true) : ∀ v ∈ vs.set i x, fits .byte v = true := by
  intro v hv
  rcases List.mem_or_eq_of_mem_set hv with h | h
  · exact hf v h
  · rw [h]; exact hx

theorem d8_0 : decode jdk_29_method_69_code 0 = .ok (.iload_n 0, 1) := by decide +kernel
theorem d8_1 : decode jdk_29_method_69_code 1 = .ok (.iload_n 1, 1) := by decide +kernel
theorem d8_2 : decode jdk_29_method_69_code 2 = .ok (.if_icmp .gt 7, 3) := by decide +kernel
theorem d8_5 : decode jdk_29_method_69_code 5 = .ok (.iload_n 0, 1) := by decide +kernel
theorem d8_6 : decode jdk_29_method_69_code 6 = .ok (.goto 4, 3) := by decide +kernel
theorem d8_9 : decode jdk_29_method_69_code 9 = .ok (.iload_n 1, 1) := by decide +kernel
theorem d8_10 : decode jdk_29_method_69_code 10 = .ok (.ireturn, 1) := by decide +kernel
theorem pf_0 : plainFor (⟨"java/lang/Math", "min", "(II)I"⟩ : MethodName) = true := by first | exact plainFor_of_name (by first | (simp [plainName, overriddenIn]; done) | decide +kernel) | decide +kernel
theorem ef_8_rmM (m : MethodId) (p1 : Int32) (p2 : Int32)  : entryFrame m #[(.int p1), (.int p2)] 2 = mkF m 0 #[.val (.int p1), .val (.int p2)] [] := by first | (simp [entryFrame, mkF, argsToLocals, Value.category, maxLocals]; done) | rfl
def Q_rmM (Z : State) (p1 : Int32) (p2 : Int32) (h0 : Heap) (n0 : Nat) (v : Option Value) (h : Heap) (L : List Loc) : Prop := v = some (.int p2) ∧ Fr n0 L ∧ h = h0
set_option maxRecDepth 65536 in
set_option maxHeartbeats 40000000 in
theorem rmM (l : Launch) (Z : State) (a0 : Array Value) (hw : ∀ d ∈ tables_1, d.before a0 Z = true) (ws : List Jvm.Cond) (p1 : Int32) (p2 : Int32) (h0 : Heap) (n0 : Nat) (Z0 : n0 ≤ h0.size) (hc : p2 < p1) :
    OwnMet l Z (⟨"java/lang/Math", "min", "(II)I"⟩ : MethodName) jdk_29_method_69_code 2 (some .int) ws ({ frames := 0, cells := 0, slots := 0, locals := 0 } : Room) #[(.int p1), (.int p2)] h0 (Q_rmM Z p1 p2 h0 n0) := by
  refine own_body pf_0 ?_
  intro p e s m below meth c s₁ hx hby hml hown hnm hret hlk hZ X0 e0
  have N0 := Fr.nil n0
  refine own_cast (ef_8_rmM m p1 p2 ) ?_
  refine g_iload_n X0 hx 1 rfl (hb hby d8_0) rfl ?_
  refine g_iload_n X0 hx 2 rfl (hb hby d8_1) rfl ?_
  refine g_icmpY X0 hx 9 (hb hby d8_2) (XT.ii_gt_t hc) (by decide) (by decide) ?_
  refine g_iload_n X0 hx 10 rfl (hb hby d8_9) rfl ?_
  exact g_retI X0 hx hret hlk (hb hby d8_10) ⟨rfl, N0, e0⟩ (by decide) (by decide)
theorem d7_0 : decode jdk_65_method_121_code 0 = .ok (.iload_n 1, 1) := by decide +kernel
theorem d7_1 : decode jdk_65_method_121_code 1 = .ok (.aload_n 0, 1) := by decide +kernel
theorem d7_2 : decode jdk_65_method_121_code 2 = .ok (.arraylength, 1) := by decide +kernel
theorem d7_3 : decode jdk_65_method_121_code 3 = .ok (.if_icmp .ne 11, 3) := by decide +kernel
theorem d7_6 : decode jdk_65_method_121_code 6 = .ok (.aload_n 0, 1) := by decide +kernel
theorem d7_7 : decode jdk_65_method_121_code 7 = .ok (.invokevirtual 310, 3) := by decide +kernel
theorem d7_10 : decode jdk_65_method_121_code 10 = .ok (.checkcast 311, 3) := by decide +kernel
theorem d7_13 : decode jdk_65_method_121_code 13 = .ok (.areturn, 1) := by decide +kernel
theorem d7_14 : decode jdk_65_method_121_code 14 = .ok (.iload_n 1, 1) := by decide +kernel
theorem d7_15 : decode jdk_65_method_121_code 15 = .ok (.newarray .byte, 2) := by decide +kernel
theorem d7_17 : decode jdk_65_method_121_code 17 = .ok (.astore_n 2, 1) := by decide +kernel
theorem d7_18 : decode jdk_65_method_121_code 18 = .ok (.aload_n 0, 1) := by decide +kernel
theorem d7_19 : decode jdk_65_method_121_code 19 = .ok (.iconst 0, 1) := by decide +kernel
theorem d7_20 : decode jdk_65_method_121_code 20 = .ok (.aload_n 2, 1) := by decide +kernel
theorem d7_21 : decode jdk_65_method_121_code 21 = .ok (.iconst 0, 1) := by decide +kernel
theorem d7_22 : decode jdk_65_method_121_code 22 = .ok (.aload_n 0, 1) := by decide +kernel
theorem d7_23 : decode jdk_65_method_121_code 23 = .ok (.arraylength, 1) := by decide +kernel
theorem d7_24 : decode jdk_65_method_121_code 24 = .ok (.iload_n 1, 1) := by decide +kernel
theorem d7_25 : decode jdk_65_method_121_code 25 = .ok (.invokestatic 304, 3) := by decide +kernel
theorem d7_28 : decode jdk_65_method_121_code 28 = .ok (.invokestatic 150, 3) := by decide +kernel
theorem d7_31 : decode jdk_65_method_121_code 31 = .ok (.aload_n 2, 1) := by decide +kernel
theorem d7_32 : decode jdk_65_method_121_code 32 = .ok (.areturn, 1) := by decide +kernel
theorem pf_1 : plainFor (⟨"java/util/Arrays", "copyOf", "([BI)[B"⟩ : MethodName) = true := by first | exact plainFor_of_name (by first | (simp [plainName, overriddenIn]; done) | decide +kernel) | decide +kernel
theorem pd_0 : parseMethodDescriptor "(II)I" = some ⟨[.int, .int], some .int⟩ := by decide +kernel
theorem pd_1 : parseMethodDescriptor "(Ljava/lang/Object;ILjava/lang/Object;II)V" = some ⟨[.object "java/lang/Object", .int, .object "java/lang/Object", .int, .int], none⟩ := by decide +kernel
theorem ef_7_rmC (m : MethodId) (a : Addr) (vs : List Value)  : entryFrame m #[(.ref a), (.int (8 : Int32))] 3 = mkF m 0 #[.val (.ref a), .val (.int (8 : Int32)), .unset] [] := by first | (simp [entryFrame, mkF, argsToLocals, Value.category, maxLocals]; done) | rfl
def Q_rmC (Z : State) (a : Addr) (vs : List Value) (h0 : Heap) (n0 : Nat) (v : Option Value) (h : Heap) (L : List Loc) : Prop := ∃ b, v = some (.ref b) ∧ Fr n0 L ∧ Keep h0 h [] ∧ Al Z h b .byte (vs.take 8)
set_option maxRecDepth 65536 in
set_option maxHeartbeats 40000000 in
theorem rmC (l : Launch) (Z : State) (a0 : Array Value) (hw : ∀ d ∈ tables_1, d.before a0 Z = true) (ws : List Jvm.Cond) (a : Addr) (vs : List Value) (h0 : Heap) (n0 : Nat) (Z0 : n0 ≤ h0.size) (Aa : Al Z h0 a .byte vs) (hl : vs.length = 64) (hfit : ∀ v ∈ vs, fits .byte v = true) :
    OwnMet l Z (⟨"java/util/Arrays", "copyOf", "([BI)[B"⟩ : MethodName) jdk_65_method_121_code 3 (some (.array .byte)) ws ({ frames := 1, cells := 1, slots := 8, locals := 18 } : Room) #[(.ref a), (.int (8 : Int32))] h0 (Q_rmC Z a vs h0 n0) := by
  refine own_body pf_1 ?_
  intro p e s m below meth c s₁ hx hby hml hown hnm hret hlk hZ X0 e0
  have N0 := Fr.nil n0
  refine own_cast (ef_7_rmC m a vs ) ?_
  refine g_iload_n X0 hx 1 rfl (hb hby d7_0) rfl ?_
  refine g_aload_n X0 hx 2 rfl (hb hby d7_1) rfl rfl ?_
  refine g_alen X0 hx hZ 3 rfl (hb hby d7_2) e0 Aa (64 : Int32) (by rw [hl]; rfl) ?_
  refine g_icmpY X0 hx 14 (hb hby d7_3) (XT.ii_ne_t (by decide)) (by decide) (by decide) ?_
  refine g_iload_n X0 hx 15 rfl (hb hby d7_14) rfl ?_
  refine g_newarr X0 hx hZ 17 rfl (hw _ (List.mem_of_getElem? (i := 13) rfl)) e0 (hb hby d7_15) 8 rfl 8 (Nat.le_refl _) (by decide) (by decide) (by decide) "[B" (by decide) ?_
  intro T1 h1 b g1 X1 e1 E1 A1 Ex1
  have ne_a_b : a ≠ b := Nat.ne_of_lt (Nat.lt_of_lt_of_eq Aa.lt g1.symm)
  have ge_b : n0 ≤ b := Nat.le_trans Z0 (Nat.le_of_eq g1.symm)
  have hz_b : h0.size ≤ b := Nat.le_trans (Keep.refl h0 []).1 (Nat.le_of_eq g1.symm)
  have Al1 : Al Z h1 b .byte [.int (0 : Int32), .int (0 : Int32), .int (0 : Int32), .int (0 : Int32), .int (0 : Int32), .int (0 : Int32), .int (0 : Int32), .int (0 : Int32)] := A1
  refine g_astore_n X1 hx 18 rfl (hb hby d7_17) rfl #[.val (.ref a), .val (.int (8 : Int32)), .val (.ref b)] rfl ?_
  refine g_aload_n X1 hx 19 rfl (hb hby d7_18) rfl rfl ?_
  refine g_iconst X1 hx 20 rfl (0 : Int32) rfl (hb hby d7_19) ?_
  refine g_aload_n X1 hx 21 rfl (hb hby d7_20) rfl rfl ?_
  refine g_iconst X1 hx 22 rfl (0 : Int32) rfl (hb hby d7_21) ?_
  refine g_aload_n X1 hx 23 rfl (hb hby d7_22) rfl rfl ?_
  have Al2 := (Aa.ext E1)
  refine g_alen X1 hx hZ 24 rfl (hb hby d7_23) e1 Al2 (64 : Int32) (by rw [hl]; rfl) ?_
  refine g_iload_n X1 hx 25 rfl (hb hby d7_24) rfl ?_
  have Zl4 : n0 ≤ h1.size := (Nat.le_trans Z0 E1.1)
  refine g_callS X1 hx hZ 28 rfl (y := (⟨"java/lang/Math", "min", "(II)I"⟩ : MethodName)) hown (hw _ (List.mem_of_getElem? (i := 36) rfl)) (hw _ (List.mem_of_getElem? (i := 37) rfl)) (hw _ (List.mem_of_getElem? (i := 38) rfl)) (hw _ (List.mem_of_getElem? (i := 39) rfl)) (by decide) [.int (64 : Int32), .int (8 : Int32)] [.int (0 : Int32), .ref b, .int (0 : Int32), .ref a] (rmM l Z a0 hw [] (64 : Int32) (8 : Int32) h1 n0 Zl4 (by decide)) e1 (lenOf pd_0 rfl) rfl (by rw [hml]; rfl) (hb hby d7_25) (by decide) 4 (Nat.le_of_eq rfl) (by decide) (by decide) (by decide) ?_
  rintro _ T3 L3 X3 ⟨rfl, N3q, e3⟩
  have N3 := Fr.app N0 N3q
  show Goes p e below (T3.setTop (mkF m 28 #[.val (.ref a), .val (.int (8 : Int32)), .val (.ref b)] [.int (8 : Int32), .int (0 : Int32), .ref b, .int (0 : Int32), .ref a])) _
  refine g_acopy X3 hx hZ 31 rfl hown (hw _ (List.mem_of_getElem? (i := 40) rfl)) (hw _ (List.mem_of_getElem? (i := 43) rfl)) (hw _ (List.mem_of_getElem? (i := 41) rfl)) (hw _ (List.mem_of_getElem? (i := 42) rfl)) e3 Al2 Al1 rfl hfit (by decide) 8 rfl (by omega) (by decide) N3 ge_b (hb hby d7_28) (by rw [hml]; rfl) (by decide) 0 (Nat.le_of_eq rfl) (by decide) ?_
  intro T5 h5 L5 X5 e5 N5 K5 A5
  rw [List.drop_of_length_le (by decide), List.append_nil] at A5
  refine g_aload_n X5 hx 32 rfl (hb hby d7_31) rfl rfl ?_
  exact g_retA X5 hx hret hlk rfl rfl rfl (hb hby d7_32) (by rw [e5]; exact ⟨b, rfl, N5, (((Keep.refl h0 []).ext E1).trans K5 (allS (Or.inr hz_b) all0)), A5⟩) (by decide) (by decide)
theorem d6_0 : decode prog_41_method_17_code 0 = .ok (.aload_n 0, 1) := by decide +kernel
theorem d6_1 : decode prog_41_method_17_code 1 = .ok (.getfield 7, 3) := by decide +kernel
theorem d6_4 : decode prog_41_method_17_code 4 = .ok (.aload_n 0, 1) := by decide +kernel
theorem d6_5 : decode prog_41_method_17_code 5 = .ok (.getfield 13, 3) := by decide +kernel
theorem d6_8 : decode prog_41_method_17_code 8 = .ok (.invokestatic 17, 3) := by decide +kernel
theorem d6_11 : decode prog_41_method_17_code 11 = .ok (.areturn, 1) := by decide +kernel
theorem pf_2 : plainFor (⟨"com/example/rowgraph/rowgraph/graph/Rows$Writer", "bytes", "()[B"⟩ : MethodName) = true := by first | exact plainFor_of_name (by first | (simp [plainName, overriddenIn]; done) | decide +kernel) | decide +kernel
theorem pd_2 : parseMethodDescriptor "([BI)[B" = some ⟨[.array .byte, .int], some (.array .byte)⟩ := by decide +kernel
theorem ef_6_rmB (m : MethodId) (a : Addr) (b : Addr) (vs : List Value)  : entryFrame m #[(.ref a)] 1 = mkF m 0 #[.val (.ref a)] [] := by first | (simp [entryFrame, mkF, argsToLocals, Value.category, maxLocals]; done) | rfl
def Q_rmB (Z : State) (a : Addr) (b : Addr) (vs : List Value) (h0 : Heap) (n0 : Nat) (v : Option Value) (h : Heap) (L : List Loc) : Prop := ∃ b, v = some (.ref b) ∧ Fr n0 L ∧ Keep h0 h [] ∧ Al Z h b .byte (vs.take 8)
set_option maxRecDepth 65536 in
set_option maxHeartbeats 40000000 in
theorem rmB (l : Launch) (Z : State) (a0 : Array Value) (hw : ∀ d ∈ tables_1, d.before a0 Z = true) (ws : List Jvm.Cond) (a : Addr) (b : Addr) (vs : List Value) (h0 : Heap) (n0 : Nat) (Z0 : n0 ≤ h0.size) (Fb : Fld Z h0 a "com/example/rowgraph/rowgraph/graph/Rows$Writer" "bytes" "[B" (.ref b)) (Fl : Fld Z h0 a "com/example/rowgraph/rowgraph/graph/Rows$Writer" "length" "I" (.int 8)) (Ab : Al Z h0 b .byte vs) (hl : vs.length = 64) (hfit : ∀ v ∈ vs, fits .byte v = true) :
    OwnMet l Z (⟨"com/example/rowgraph/rowgraph/graph/Rows$Writer", "bytes", "()[B"⟩ : MethodName) prog_41_method_17_code 1 (some (.array .byte)) ws ({ frames := 2, cells := 1, slots := 8, locals := 32 } : Room) #[(.ref a)] h0 (Q_rmB Z a b vs h0 n0) := by
  refine own_body pf_2 ?_
  intro p e s m below meth c s₁ hx hby hml hown hnm hret hlk hZ X0 e0
  have N0 := Fr.nil n0
  refine own_cast (ef_6_rmB m a b vs ) ?_
  refine g_aload_n X0 hx 1 rfl (hb hby d6_0) rfl rfl ?_
  refine g_getF X0 hx hZ 4 rfl hown (hw _ (List.mem_of_getElem? (i := 14) rfl)) e0 Fb (hb hby d6_1) ?_
  intro T1 X1 e1
  refine g_aload_n X1 hx 5 rfl (hb hby d6_4) rfl rfl ?_
  refine g_getF X1 hx hZ 8 rfl hown (hw _ (List.mem_of_getElem? (i := 25) rfl)) e1 Fl (hb hby d6_5) ?_
  intro T2 X2 e2
  refine g_callS X2 hx hZ 11 rfl (y := (⟨"java/util/Arrays", "copyOf", "([BI)[B"⟩ : MethodName)) hown (hw _ (List.mem_of_getElem? (i := 32) rfl)) (hw _ (List.mem_of_getElem? (i := 33) rfl)) (hw _ (List.mem_of_getElem? (i := 34) rfl)) (hw _ (List.mem_of_getElem? (i := 35) rfl)) (by decide) [.ref b, .int (8 : Int32)] [] (rmC l Z a0 hw [] b vs h0 n0 Z0 Ab hl hfit) e2 (lenOf pd_2 rfl) rfl (by rw [hml]; rfl) (hb hby d6_8) (by decide) 0 (Nat.le_of_eq rfl) (by decide) (by decide) (by decide) ?_
  rintro _ T3 L3 X3 ⟨r3, rfl, N3q, K3, Ar3⟩
  have N3 := Fr.app N0 N3q
  show Goes p e below (T3.setTop (mkF m 11 #[.val (.ref a)] [.ref r3])) _
  exact g_retA X3 hx hret hlk rfl rfl rfl (hb hby d6_11) ⟨r3, rfl, N3, ((Keep.refl h0 []).trans K3 all0), Ar3⟩ (by decide) (by decide)
theorem d5_0 : decode prog_41_method_2_code 0 = .ok (.aload_n 0, 1) := by decide +kernel
theorem d5_1 : decode prog_41_method_2_code 1 = .ok (.getfield 13, 3) := by decide +kernel
theorem d5_4 : decode prog_41_method_2_code 4 = .ok (.aload_n 0, 1) := by decide +kernel
theorem d5_5 : decode prog_41_method_2_code 5 = .ok (.getfield 7, 3) := by decide +kernel
theorem d5_8 : decode prog_41_method_2_code 8 = .ok (.arraylength, 1) := by decide +kernel
theorem d5_9 : decode prog_41_method_2_code 9 = .ok (.if_icmp .ne 20, 3) := by decide +kernel
theorem d5_12 : decode prog_41_method_2_code 12 = .ok (.aload_n 0, 1) := by decide +kernel
theorem d5_13 : decode prog_41_method_2_code 13 = .ok (.aload_n 0, 1) := by decide +kernel
theorem d5_14 : decode prog_41_method_2_code 14 = .ok (.getfield 7, 3) := by decide +kernel
theorem d5_17 : decode prog_41_method_2_code 17 = .ok (.aload_n 0, 1) := by decide +kernel
theorem d5_18 : decode prog_41_method_2_code 18 = .ok (.getfield 13, 3) := by decide +kernel
theorem d5_21 : decode prog_41_method_2_code 21 = .ok (.iconst 2, 1) := by decide +kernel
theorem d5_22 : decode prog_41_method_2_code 22 = .ok (.imul, 1) := by decide +kernel
theorem d5_23 : decode prog_41_method_2_code 23 = .ok (.invokestatic 17, 3) := by decide +kernel
theorem d5_26 : decode prog_41_method_2_code 26 = .ok (.putfield 7, 3) := by decide +kernel
theorem d5_29 : decode prog_41_method_2_code 29 = .ok (.aload_n 0, 1) := by decide +kernel
theorem d5_30 : decode prog_41_method_2_code 30 = .ok (.getfield 7, 3) := by decide +kernel
theorem d5_33 : decode prog_41_method_2_code 33 = .ok (.aload_n 0, 1) := by decide +kernel
theorem d5_34 : decode prog_41_method_2_code 34 = .ok (.dup, 1) := by decide +kernel
theorem d5_35 : decode prog_41_method_2_code 35 = .ok (.getfield 13, 3) := by decide +kernel
theorem d5_38 : decode prog_41_method_2_code 38 = .ok (.dup_x1, 1) := by decide +kernel
theorem d5_39 : decode prog_41_method_2_code 39 = .ok (.iconst 1, 1) := by decide +kernel
theorem d5_40 : decode prog_41_method_2_code 40 = .ok (.iadd, 1) := by decide +kernel
theorem d5_41 : decode prog_41_method_2_code 41 = .ok (.putfield 13, 3) := by decide +kernel
theorem d5_44 : decode prog_41_method_2_code 44 = .ok (.iload_n 1, 1) := by decide +kernel
theorem d5_45 : decode prog_41_method_2_code 45 = .ok (.bastore, 1) := by decide +kernel
theorem d5_46 : decode prog_41_method_2_code 46 = .ok (.aload_n 0, 1) := by decide +kernel
theorem d5_47 : decode prog_41_method_2_code 47 = .ok (.areturn, 1) := by decide +kernel
theorem pf_3 : plainFor (⟨"com/example/rowgraph/rowgraph/graph/Rows$Writer", "put", "(B)Lcom/example/rowgraph/rowgraph/graph/Rows$Writer;"⟩ : MethodName) = true := by first | exact plainFor_of_name (by first | (simp [plainName, overriddenIn]; done) | decide +kernel) | decide +kernel
theorem ef_5_rmP (m : MethodId) (a : Addr) (b : Addr) (j : Int32) (x : Int32) (i : Nat) (vs : List Value)  : entryFrame m #[(.ref a), (.int x)] 2 = mkF m 0 #[.val (.ref a), .val (.int x)] [] := by first | (simp [entryFrame, mkF, argsToLocals, Value.category, maxLocals]; done) | rfl
def Q_rmP (Z : State) (a : Addr) (b : Addr) (j : Int32) (x : Int32) (i : Nat) (vs : List Value) (h0 : Heap) (n0 : Nat) (v : Option Value) (h : Heap) (L : List Loc) : Prop := v = some (.ref a) ∧ Fr n0 L ∧ Keep h0 h [a, b] ∧ Exa Z h a "com/example/rowgraph/rowgraph/graph/Rows$Writer" ∧ Fld Z h a "com/example/rowgraph/rowgraph/graph/Rows$Writer" "bytes" "[B" (.ref b) ∧ Fld Z h a "com/example/rowgraph/rowgraph/graph/Rows$Writer" "length" "I" (.int (j + (1 : Int32))) ∧ Al Z h b .byte (vs.set i (.int x))
set_option maxRecDepth 65536 in
set_option maxHeartbeats 40000000 in
theorem rmP (l : Launch) (Z : State) (a0 : Array Value) (hw : ∀ d ∈ tables_1, d.before a0 Z = true) (ws : List Jvm.Cond) (a : Addr) (b : Addr) (j : Int32) (x : Int32) (i : Nat) (vs : List Value) (h0 : Heap) (n0 : Nat) (Z0 : n0 ≤ h0.size) (Ea : Exa Z h0 a "com/example/rowgraph/rowgraph/graph/Rows$Writer") (Fb : Fld Z h0 a "com/example/rowgraph/rowgraph/graph/Rows$Writer" "bytes" "[B" (.ref b)) (Fl : Fld Z h0 a "com/example/rowgraph/rowgraph/graph/Rows$Writer" "length" "I" (.int j)) (Ab : Al Z h0 b .byte vs) (hl : vs.length = 64) (hj : j.toInt = (i : Int)) (hi : i < 64) (hn : nar .byte x = x) (ga : n0 ≤ a) (gb : n0 ≤ b) (nab : a ≠ b) :
    OwnMet l Z (⟨"com/example/rowgraph/rowgraph/graph/Rows$Writer", "put", "(B)Lcom/example/rowgraph/rowgraph/graph/Rows$Writer;"⟩ : MethodName) prog_41_method_2_code 2 (some (.object "com/example/rowgraph/rowgraph/graph/Rows$Writer")) ws ({ frames := 0, cells := 0, slots := 0, locals := 0 } : Room) #[(.ref a), (.int x)] h0 (Q_rmP Z a b j x i vs h0 n0) := by
  refine own_body pf_3 ?_
  intro p e s m below meth c s₁ hx hby hml hown hnm hret hlk hZ X0 e0
  have N0 := Fr.nil n0
  refine own_cast (ef_5_rmP m a b j x i vs ) ?_
  have e64 : (64 : Int32).toInt = 64 := rfl
  refine g_aload_n X0 hx 1 rfl (hb hby d5_0) rfl rfl ?_
  refine g_getF X0 hx hZ 4 rfl hown (hw _ (List.mem_of_getElem? (i := 25) rfl)) e0 Fl (hb hby d5_1) ?_
  intro T1 X1 e1
  refine g_aload_n X1 hx 5 rfl (hb hby d5_4) rfl rfl ?_
  refine g_getF X1 hx hZ 8 rfl hown (hw _ (List.mem_of_getElem? (i := 14) rfl)) e1 Fb (hb hby d5_5) ?_
  intro T2 X2 e2
  refine g_alen X2 hx hZ 9 rfl (hb hby d5_8) e2 Ab (64 : Int32) (by rw [hl]; rfl) ?_
  refine g_icmpY X2 hx 29 (hb hby d5_9) (XT.ii_ne_t (fun q => by rw [q, e64] at hj; omega)) (by decide) (by decide) ?_
  refine g_aload_n X2 hx 30 rfl (hb hby d5_29) rfl rfl ?_
  refine g_getF X2 hx hZ 33 rfl hown (hw _ (List.mem_of_getElem? (i := 14) rfl)) e2 Fb (hb hby d5_30) ?_
  intro T3 X3 e3
  refine g_aload_n X3 hx 34 rfl (hb hby d5_33) rfl rfl ?_
  refine g_dup X3 hx 35 rfl (hb hby d5_34) rfl ?_
  refine g_getF X3 hx hZ 38 rfl hown (hw _ (List.mem_of_getElem? (i := 25) rfl)) e3 Fl (hb hby d5_35) ?_
  intro T4 X4 e4
  refine g_dup_x1 X4 hx 39 rfl (hb hby d5_38) rfl rfl ?_
  refine g_iconst X4 hx 40 rfl (1 : Int32) rfl (hb hby d5_39) ?_
  refine g_iadd X4 hx 41 rfl (hb hby d5_40) ?_
  refine g_putF X4 hx hZ 44 rfl hown (hw _ (List.mem_of_getElem? (i := 25) rfl)) e4 Fl Ea (Or.inl (hw _ (List.mem_of_getElem? (i := 26) rfl))) (hw _ (List.mem_of_getElem? (i := 5) rfl)) (ty := .int) (by decide) rfl rfl (hb hby d5_41) ?_
  intro T5 h5 X5 e5 W5
  have Fw5 := Fl.same W5
  have N5 := Fr.snoc X5 N0 ga
  refine g_iload_n X5 hx 45 rfl (hb hby d5_44) rfl ?_
  have Al6 := (Ab.other W5 (Ne.symm nab))
  refine g_bastore X5 hx hZ 46 rfl (hb hby d5_45) e5 Al6 i hj (by omega) ?_
  intro T7 h7 X7 e7 W7 B7
  rw [show nar .byte x = x from hn] at B7
  have N7 := Fr.snoc X7 N5 gb
  refine g_aload_n X7 hx 47 rfl (hb hby d5_46) rfl rfl ?_
  have Exa8 := ((Ea.wr W5).wr W7)
  have Fld9 := ((Fb.other W5 (Or.inr (slot_ne (Or.inl (hw _ (List.mem_of_getElem? (i := 15) rfl))) (Or.inl (hw _ (List.mem_of_getElem? (i := 26) rfl))) (by decide) (t := .array .byte) (t' := .int) (by decide) (by decide)))).other W7 (Or.inl nab))
  have Fld10 := (Fw5.other W7 (Or.inl nab))
  exact g_retA X7 hx hret hlk rfl rfl rfl (hb hby d5_47) (by rw [e7]; exact ⟨rfl, N7, (((Keep.refl h0 [a, b]).wr W5 (Or.inl (List.mem_of_getElem? (i := 0) rfl))).wr W7 (Or.inl (List.mem_of_getElem? (i := 1) rfl))), Exa8, Fld9, Fld10, B7⟩) (by decide) (by decide)
theorem d4_0 : decode prog_41_method_15_code 0 = .ok (.iload_n 1, 1) := by decide +kernel
theorem d4_1 : decode prog_41_method_15_code 1 = .ok (.iconst 1, 1) := by decide +kernel
theorem d4_2 : decode prog_41_method_15_code 2 = .ok (.isub, 1) := by decide +kernel
theorem d4_3 : decode prog_41_method_15_code 3 = .ok (.bipush 8, 2) := by decide +kernel
theorem d4_5 : decode prog_41_method_15_code 5 = .ok (.imul, 1) := by decide +kernel
theorem d4_6 : decode prog_41_method_15_code 6 = .ok (.istore 4, 2) := by decide +kernel
theorem d4_8 : decode prog_41_method_15_code 8 = .ok (.iload 4, 2) := by decide +kernel
theorem d4_10 : decode prog_41_method_15_code 10 = .ok (.ifCond .lt 20, 3) := by decide +kernel
theorem d4_13 : decode prog_41_method_15_code 13 = .ok (.aload_n 0, 1) := by decide +kernel
theorem d4_14 : decode prog_41_method_15_code 14 = .ok (.lload_n 2, 1) := by decide +kernel
theorem d4_15 : decode prog_41_method_15_code 15 = .ok (.iload 4, 2) := by decide +kernel
theorem d4_17 : decode prog_41_method_15_code 17 = .ok (.lushr, 1) := by decide +kernel
theorem d4_18 : decode prog_41_method_15_code 18 = .ok (.l2i, 1) := by decide +kernel
theorem d4_19 : decode prog_41_method_15_code 19 = .ok (.i2b, 1) := by decide +kernel
theorem d4_20 : decode prog_41_method_15_code 20 = .ok (.invokevirtual 23, 3) := by decide +kernel
theorem d4_23 : decode prog_41_method_15_code 23 = .ok (.pop, 1) := by decide +kernel
theorem d4_24 : decode prog_41_method_15_code 24 = .ok (.iinc 4 (-8), 3) := by decide +kernel
theorem d4_27 : decode prog_41_method_15_code 27 = .ok (.goto (-19), 3) := by decide +kernel
theorem d4_30 : decode prog_41_method_15_code 30 = .ok (.aload_n 0, 1) := by decide +kernel
theorem d4_31 : decode prog_41_method_15_code 31 = .ok (.areturn, 1) := by decide +kernel
theorem pf_4 : plainFor (⟨"com/example/rowgraph/rowgraph/graph/Rows$Writer", "fixed", "(IJ)Lcom/example/rowgraph/rowgraph/graph/Rows$Writer;"⟩ : MethodName) = true := by first | exact plainFor_of_name (by first | (simp [plainName, overriddenIn]; done) | decide +kernel) | decide +kernel
theorem pd_3 : parseMethodDescriptor "(B)Lcom/example/rowgraph/rowgraph/graph/Rows$Writer;" = some ⟨[.byte], some (.object "com/example/rowgraph/rowgraph/graph/Rows$Writer")⟩ := by decide +kernel
theorem ef_4_rmF (m : MethodId) (a : Addr) (b : Addr) (q : Int64) (vs : List Value)  : entryFrame m #[(.ref a), (.int (8 : Int32)), (.long q)] 5 = mkF m 0 #[.val (.ref a), .val (.int (8 : Int32)), .val (.long q), .second, .unset] [] := by first | (simp [entryFrame, mkF, argsToLocals, Value.category, maxLocals]; done) | rfl
def Q_rmF (Z : State) (a : Addr) (b : Addr) (q : Int64) (vs : List Value) (h0 : Heap) (n0 : Nat) (v : Option Value) (h : Heap) (L : List Loc) : Prop := v = some (.ref a) ∧ Fr n0 L ∧ Keep h0 h [a, b] ∧ Exa Z h a "com/example/rowgraph/rowgraph/graph/Rows$Writer" ∧ Fld Z h a "com/example/rowgraph/rowgraph/graph/Rows$Writer" "bytes" "[B" (.ref b) ∧ Fld Z h a "com/example/rowgraph/rowgraph/graph/Rows$Writer" "length" "I" (.int (8 : Int32)) ∧ Al Z h b .byte ((((((((vs.set 0 (.int (own_by q (56 : Int32)))).set 1 (.int (own_by q (48 : Int32)))).set 2 (.int (own_by q (40 : Int32)))).set 3 (.int (own_by q (32 : Int32)))).set 4 (.int (own_by q (24 : Int32)))).set 5 (.int (own_by q (16 : Int32)))).set 6 (.int (own_by q (8 : Int32)))).set 7 (.int (own_by q (0 : Int32))))
set_option maxRecDepth 65536 in
set_option maxHeartbeats 40000000 in
theorem rmF (l : Launch) (Z : State) (a0 : Array Value) (hw : ∀ d ∈ tables_1, d.before a0 Z = true) (ws : List Jvm.Cond) (a : Addr) (b : Addr) (q : Int64) (vs : List Value) (h0 : Heap) (n0 : Nat) (Z0 : n0 ≤ h0.size) (Ea : Exa Z h0 a "com/example/rowgraph/rowgraph/graph/Rows$Writer") (Fb : Fld Z h0 a "com/example/rowgraph/rowgraph/graph/Rows$Writer" "bytes" "[B" (.ref b)) (Fl : Fld Z h0 a "com/example/rowgraph/rowgraph/graph/Rows$Writer" "length" "I" (.int (0 : Int32))) (Ab : Al Z h0 b .byte vs) (hl : vs.length = 64) (ga : n0 ≤ a) (gb : n0 ≤ b) (nab : a ≠ b) :
    OwnMet l Z (⟨"com/example/rowgraph/rowgraph/graph/Rows$Writer", "fixed", "(IJ)Lcom/example/rowgraph/rowgraph/graph/Rows$Writer;"⟩ : MethodName) prog_41_method_15_code 5 (some (.object "com/example/rowgraph/rowgraph/graph/Rows$Writer")) ws ({ frames := 1, cells := 0, slots := 0, locals := 13 } : Room) #[(.ref a), (.int (8 : Int32)), (.long q)] h0 (Q_rmF Z a b q vs h0 n0) := by
  refine own_body pf_4 ?_
  intro p e s m below meth c s₁ hx hby hml hown hnm hret hlk hZ X0 e0
  have N0 := Fr.nil n0
  refine own_cast (ef_4_rmF m a b q vs ) ?_
  refine g_iload_n X0 hx 1 rfl (hb hby d4_0) rfl ?_
  refine g_iconst X0 hx 2 rfl (1 : Int32) rfl (hb hby d4_1) ?_
  refine g_isub X0 hx 3 rfl (hb hby d4_2) ?_
  show Goes p e below (s₁.setTop (mkF m 3 #[.val (.ref a), .val (.int (8 : Int32)), .val (.long q), .second, .unset] [.int (7 : Int32)])) _
  refine g_bipush X0 hx 5 rfl (8 : Int32) rfl (hb hby d4_3) ?_
  refine g_imul X0 hx 6 rfl (hb hby d4_5) ?_
  show Goes p e below (s₁.setTop (mkF m 6 #[.val (.ref a), .val (.int (8 : Int32)), .val (.long q), .second, .unset] [.int (56 : Int32)])) _
  refine g_istore X0 hx 8 rfl (hb hby d4_6) #[.val (.ref a), .val (.int (8 : Int32)), .val (.long q), .second, .val (.int (56 : Int32))] rfl ?_
  refine g_iload X0 hx 10 rfl (hb hby d4_8) rfl ?_
  refine g_ifN X0 hx 13 rfl (hb hby d4_10) (XT.i0_lt_f (by decide)) ?_
  refine g_aload_n X0 hx 14 rfl (hb hby d4_13) rfl rfl ?_
  refine g_lload_n X0 hx 15 rfl (hb hby d4_14) rfl ?_
  refine g_iload X0 hx 17 rfl (hb hby d4_15) rfl ?_
  refine g_lushr X0 hx 18 rfl (hb hby d4_17) ?_
  refine g_l2i X0 hx 19 rfl (hb hby d4_18) ?_
  refine g_i2b X0 hx 20 rfl (hb hby d4_19) ?_
  show Goes p e below (s₁.setTop (mkF m 20 #[.val (.ref a), .val (.int (8 : Int32)), .val (.long q), .second, .val (.int (56 : Int32))] [.int (own_by q (56 : Int32)), .ref a])) _
  refine g_callV X0 hx hZ 23 rfl (y := (⟨"com/example/rowgraph/rowgraph/graph/Rows$Writer", "put", "(B)Lcom/example/rowgraph/rowgraph/graph/Rows$Writer;"⟩ : MethodName)) hown (hw _ (List.mem_of_getElem? (i := 20) rfl)) (hw _ (List.mem_of_getElem? (i := 21) rfl)) (hw _ (List.mem_of_getElem? (i := 23) rfl)) (hw _ (List.mem_of_getElem? (i := 22) rfl)) (hw _ (List.mem_of_getElem? (i := 6) rfl)) (hw _ (List.mem_of_getElem? (i := 24) rfl)) (by decide) a [.int (own_by q (56 : Int32))] [] (rmP l Z a0 hw [] a b (0 : Int32) (own_by q (56 : Int32)) 0 vs h0 n0 Z0 Ea Fb Fl Ab hl rfl (by decide) (own_byn _ _) ga gb nab) e0 Ea (lenOf pd_3 rfl) rfl (by rw [hml]; rfl) (hb hby d4_20) (by decide) 0 (Nat.le_of_eq rfl) (by decide) (by decide) (by decide) ?_
  rintro _ T1 L1 X1 ⟨rfl, N1q, K1, E1, B1, L1q, A1⟩
  have N1 := Fr.app N0 N1q
  show Goes p e below (T1.setTop (mkF m 23 #[.val (.ref a), .val (.int (8 : Int32)), .val (.long q), .second, .val (.int (56 : Int32))] [.ref a])) _
  have L1r : Fld Z T1.heap a "com/example/rowgraph/rowgraph/graph/Rows$Writer" "length" "I" (.int (1 : Int32)) := L1q
  refine g_pop X1 hx 24 rfl (hb hby d4_23) rfl ?_
  refine g_iinc X1 hx 27 rfl (hb hby d4_24) (48 : Int32) (by decide) rfl #[.val (.ref a), .val (.int (8 : Int32)), .val (.long q), .second, .val (.int (48 : Int32))] rfl ?_
  refine g_goto X1 hx 8 (hb hby d4_27) (by decide) (by decide) ?_
  refine g_iload X1 hx 10 rfl (hb hby d4_8) rfl ?_
  refine g_ifN X1 hx 13 rfl (hb hby d4_10) (XT.i0_lt_f (by decide)) ?_
  refine g_aload_n X1 hx 14 rfl (hb hby d4_13) rfl rfl ?_
  refine g_lload_n X1 hx 15 rfl (hb hby d4_14) rfl ?_
  refine g_iload X1 hx 17 rfl (hb hby d4_15) rfl ?_
  refine g_lushr X1 hx 18 rfl (hb hby d4_17) ?_
  refine g_l2i X1 hx 19 rfl (hb hby d4_18) ?_
  refine g_i2b X1 hx 20 rfl (hb hby d4_19) ?_
  show Goes p e below (T1.setTop (mkF m 20 #[.val (.ref a), .val (.int (8 : Int32)), .val (.long q), .second, .val (.int (48 : Int32))] [.int (own_by q (48 : Int32)), .ref a])) _
  have Zl3 : n0 ≤ T1.heap.size := (Nat.le_trans Z0 K1.1)
  refine g_callV X1 hx hZ 23 rfl (y := (⟨"com/example/rowgraph/rowgraph/graph/Rows$Writer", "put", "(B)Lcom/example/rowgraph/rowgraph/graph/Rows$Writer;"⟩ : MethodName)) hown (hw _ (List.mem_of_getElem? (i := 20) rfl)) (hw _ (List.mem_of_getElem? (i := 21) rfl)) (hw _ (List.mem_of_getElem? (i := 23) rfl)) (hw _ (List.mem_of_getElem? (i := 22) rfl)) (hw _ (List.mem_of_getElem? (i := 6) rfl)) (hw _ (List.mem_of_getElem? (i := 24) rfl)) (by decide) a [.int (own_by q (48 : Int32))] [] (rmP l Z a0 hw [] a b (1 : Int32) (own_by q (48 : Int32)) 1 (vs.set 0 (.int (own_by q (56 : Int32)))) T1.heap n0 Zl3 E1 B1 L1r A1 (by simp only [List.length_set]; exact hl) rfl (by decide) (own_byn _ _) ga gb nab) rfl E1 (lenOf pd_3 rfl) rfl (by rw [hml]; rfl) (hb hby d4_20) (by decide) 0 (Nat.le_of_eq rfl) (by decide) (by decide) (by decide) ?_
  rintro _ T2 L2 X2 ⟨rfl, N2q, K2, E2, B2, L2q, A2⟩
  have N2 := Fr.app N1 N2q
  show Goes p e below (T2.setTop (mkF m 23 #[.val (.ref a), .val (.int (8 : Int32)), .val (.long q), .second, .val (.int (48 : Int32))] [.ref a])) _
  have L2r : Fld Z T2.heap a "com/example/rowgraph/rowgraph/graph/Rows$Writer" "length" "I" (.int (2 : Int32)) := L2q
  refine g_pop X2 hx 24 rfl (hb hby d4_23) rfl ?_
  refine g_iinc X2 hx 27 rfl (hb hby d4_24) (40 : Int32) (by decide) rfl #[.val (.ref a), .val (.int (8 : Int32)), .val (.long q), .second, .val (.int (40 : Int32))] rfl ?_
  refine g_goto X2 hx 8 (hb hby d4_27) (by decide) (by decide) ?_
  refine g_iload X2 hx 10 rfl (hb hby d4_8) rfl ?_
  refine g_ifN X2 hx 13 rfl (hb hby d4_10) (XT.i0_lt_f (by decide)) ?_
  refine g_aload_n X2 hx 14 rfl (hb hby d4_13) rfl rfl ?_
  refine g_lload_n X2 hx 15 rfl (hb hby d4_14) rfl ?_
  refine g_iload X2 hx 17 rfl (hb hby d4_15) rfl ?_
  refine g_lushr X2 hx 18 rfl (hb hby d4_17) ?_
  refine g_l2i X2 hx 19 rfl (hb hby d4_18) ?_
  refine g_i2b X2 hx 20 rfl (hb hby d4_19) ?_
  show Goes p e below (T2.setTop (mkF m 20 #[.val (.ref a), .val (.int (8 : Int32)), .val (.long q), .second, .val (.int (40 : Int32))] [.int (own_by q (40 : Int32)), .ref a])) _
  have Zl5 : n0 ≤ T2.heap.size := (Nat.le_trans Zl3 K2.1)
  refine g_callV X2 hx hZ 23 rfl (y := (⟨"com/example/rowgraph/rowgraph/graph/Rows$Writer", "put", "(B)Lcom/example/rowgraph/rowgraph/graph/Rows$Writer;"⟩ : MethodName)) hown (hw _ (List.mem_of_getElem? (i := 20) rfl)) (hw _ (List.mem_of_getElem? (i := 21) rfl)) (hw _ (List.mem_of_getElem? (i := 23) rfl)) (hw _ (List.mem_of_getElem? (i := 22) rfl)) (hw _ (List.mem_of_getElem? (i := 6) rfl)) (hw _ (List.mem_of_getElem? (i := 24) rfl)) (by decide) a [.int (own_by q (40 : Int32))] [] (rmP l Z a0 hw [] a b (2 : Int32) (own_by q (40 : Int32)) 2 ((vs.set 0 (.int (own_by q (56 : Int32)))).set 1 (.int (own_by q (48 : Int32)))) T2.heap n0 Zl5 E2 B2 L2r A2 (by simp only [List.length_set]; exact hl) rfl (by decide) (own_byn _ _) ga gb nab) rfl E2 (lenOf pd_3 rfl) rfl (by rw [hml]; rfl) (hb hby d4_20) (by decide) 0 (Nat.le_of_eq rfl) (by decide) (by decide) (by decide) ?_
  rintro _ T4 L4 X4 ⟨rfl, N4q, K4, E4, B4, L4q, A4⟩
  have N4 := Fr.app N2 N4q
  show Goes p e below (T4.setTop (mkF m 23 #[.val (.ref a), .val (.int (8 : Int32)), .val (.long q), .second, .val (.int (40 : Int32))] [.ref a])) _
  have L4r : Fld Z T4.heap a "com/example/rowgraph/rowgraph/graph/Rows$Writer" "length" "I" (.int (3 : Int32)) := L4q
  refine g_pop X4 hx 24 rfl (hb hby d4_23) rfl ?_
  refine g_iinc X4 hx 27 rfl (hb hby d4_24) (32 : Int32) (by decide) rfl #[.val (.ref a), .val (.int (8 : Int32)), .val (.long q), .second, .val (.int (32 : Int32))] rfl ?_
  refine g_goto X4 hx 8 (hb hby d4_27) (by decide) (by decide) ?_
  refine g_iload X4 hx 10 rfl (hb hby d4_8) rfl ?_
  refine g_ifN X4 hx 13 rfl (hb hby d4_10) (XT.i0_lt_f (by decide)) ?_
  refine g_aload_n X4 hx 14 rfl (hb hby d4_13) rfl rfl ?_
  refine g_lload_n X4 hx 15 rfl (hb hby d4_14) rfl ?_
  refine g_iload X4 hx 17 rfl (hb hby d4_15) rfl ?_
  refine g_lushr X4 hx 18 rfl (hb hby d4_17) ?_
  refine g_l2i X4 hx 19 rfl (hb hby d4_18) ?_
  refine g_i2b X4 hx 20 rfl (hb hby d4_19) ?_
  show Goes p e below (T4.setTop (mkF m 20 #[.val (.ref a), .val (.int (8 : Int32)), .val (.long q), .second, .val (.int (32 : Int32))] [.int (own_by q (32 : Int32)), .ref a])) _
  have Zl7 : n0 ≤ T4.heap.size := (Nat.le_trans Zl5 K4.1)
  refine g_callV X4 hx hZ 23 rfl (y := (⟨"com/example/rowgraph/rowgraph/graph/Rows$Writer", "put", "(B)Lcom/example/rowgraph/rowgraph/graph/Rows$Writer;"⟩ : MethodName)) hown (hw _ (List.mem_of_getElem? (i := 20) rfl)) (hw _ (List.mem_of_getElem? (i := 21) rfl)) (hw _ (List.mem_of_getElem? (i := 23) rfl)) (hw _ (List.mem_of_getElem? (i := 22) rfl)) (hw _ (List.mem_of_getElem? (i := 6) rfl)) (hw _ (List.mem_of_getElem? (i := 24) rfl)) (by decide) a [.int (own_by q (32 : Int32))] [] (rmP l Z a0 hw [] a b (3 : Int32) (own_by q (32 : Int32)) 3 (((vs.set 0 (.int (own_by q (56 : Int32)))).set 1 (.int (own_by q (48 : Int32)))).set 2 (.int (own_by q (40 : Int32)))) T4.heap n0 Zl7 E4 B4 L4r A4 (by simp only [List.length_set]; exact hl) rfl (by decide) (own_byn _ _) ga gb nab) rfl E4 (lenOf pd_3 rfl) rfl (by rw [hml]; rfl) (hb hby d4_20) (by decide) 0 (Nat.le_of_eq rfl) (by decide) (by decide) (by decide) ?_
  rintro _ T6 L6 X6 ⟨rfl, N6q, K6, E6, B6, L6q, A6⟩
  have N6 := Fr.app N4 N6q
  show Goes p e below (T6.setTop (mkF m 23 #[.val (.ref a), .val (.int (8 : Int32)), .val (.long q), .second, .val (.int (32 : Int32))] [.ref a])) _
  have L6r : Fld Z T6.heap a "com/example/rowgraph/rowgraph/graph/Rows$Writer" "length" "I" (.int (4 : Int32)) := L6q
  refine g_pop X6 hx 24 rfl (hb hby d4_23) rfl ?_
  refine g_iinc X6 hx 27 rfl (hb hby d4_24) (24 : Int32) (by decide) rfl #[.val (.ref a), .val (.int (8 : Int32)), .val (.long q), .second, .val (.int (24 : Int32))] rfl ?_
  refine g_goto X6 hx 8 (hb hby d4_27) (by decide) (by decide) ?_
  refine g_iload X6 hx 10 rfl (hb hby d4_8) rfl ?_
  refine g_ifN X6 hx 13 rfl (hb hby d4_10) (XT.i0_lt_f (by decide)) ?_
  refine g_aload_n X6 hx 14 rfl (hb hby d4_13) rfl rfl ?_
  refine g_lload_n X6 hx 15 rfl (hb hby d4_14) rfl ?_
  refine g_iload X6 hx 17 rfl (hb hby d4_15) rfl ?_
  refine g_lushr X6 hx 18 rfl (hb hby d4_17) ?_
  refine g_l2i X6 hx 19 rfl (hb hby d4_18) ?_
  refine g_i2b X6 hx 20 rfl (hb hby d4_19) ?_
  show Goes p e below (T6.setTop (mkF m 20 #[.val (.ref a), .val (.int (8 : Int32)), .val (.long q), .second, .val (.int (24 : Int32))] [.int (own_by q (24 : Int32)), .ref a])) _
  have Zl9 : n0 ≤ T6.heap.size := (Nat.le_trans Zl7 K6.1)
  refine g_callV X6 hx hZ 23 rfl (y := (⟨"com/example/rowgraph/rowgraph/graph/Rows$Writer", "put", "(B)Lcom/example/rowgraph/rowgraph/graph/Rows$Writer;"⟩ : MethodName)) hown (hw _ (List.mem_of_getElem? (i := 20) rfl)) (hw _ (List.mem_of_getElem? (i := 21) rfl)) (hw _ (List.mem_of_getElem? (i := 23) rfl)) (hw _ (List.mem_of_getElem? (i := 22) rfl)) (hw _ (List.mem_of_getElem? (i := 6) rfl)) (hw _ (List.mem_of_getElem? (i := 24) rfl)) (by decide) a [.int (own_by q (24 : Int32))] [] (rmP l Z a0 hw [] a b (4 : Int32) (own_by q (24 : Int32)) 4 ((((vs.set 0 (.int (own_by q (56 : Int32)))).set 1 (.int (own_by q (48 : Int32)))).set 2 (.int (own_by q (40 : Int32)))).set 3 (.int (own_by q (32 : Int32)))) T6.heap n0 Zl9 E6 B6 L6r A6 (by simp only [List.length_set]; exact hl) rfl (by decide) (own_byn _ _) ga gb nab) rfl E6 (lenOf pd_3 rfl) rfl (by rw [hml]; rfl) (hb hby d4_20) (by decide) 0 (Nat.le_of_eq rfl) (by decide) (by decide) (by decide) ?_
  rintro _ T8 L8 X8 ⟨rfl, N8q, K8, E8, B8, L8q, A8⟩
  have N8 := Fr.app N6 N8q
  show Goes p e below (T8.setTop (mkF m 23 #[.val (.ref a), .val (.int (8 : Int32)), .val (.long q), .second, .val (.int (24 : Int32))] [.ref a])) _
  have L8r : Fld Z T8.heap a "com/example/rowgraph/rowgraph/graph/Rows$Writer" "length" "I" (.int (5 : Int32)) := L8q
  refine g_pop X8 hx 24 rfl (hb hby d4_23) rfl ?_
  refine g_iinc X8 hx 27 rfl (hb hby d4_24) (16 : Int32) (by decide) rfl #[.val (.ref a), .val (.int (8 : Int32)), .val (.long q), .second, .val (.int (16 : Int32))] rfl ?_
  refine g_goto X8 hx 8 (hb hby d4_27) (by decide) (by decide) ?_
  refine g_iload X8 hx 10 rfl (hb hby d4_8) rfl ?_
  refine g_ifN X8 hx 13 rfl (hb hby d4_10) (XT.i0_lt_f (by decide)) ?_
  refine g_aload_n X8 hx 14 rfl (hb hby d4_13) rfl rfl ?_
  refine g_lload_n X8 hx 15 rfl (hb hby d4_14) rfl ?_
  refine g_iload X8 hx 17 rfl (hb hby d4_15) rfl ?_
  refine g_lushr X8 hx 18 rfl (hb hby d4_17) ?_
  refine g_l2i X8 hx 19 rfl (hb hby d4_18) ?_
  refine g_i2b X8 hx 20 rfl (hb hby d4_19) ?_
  show Goes p e below (T8.setTop (mkF m 20 #[.val (.ref a), .val (.int (8 : Int32)), .val (.long q), .second, .val (.int (16 : Int32))] [.int (own_by q (16 : Int32)), .ref a])) _
  have Zl11 : n0 ≤ T8.heap.size := (Nat.le_trans Zl9 K8.1)
  refine g_callV X8 hx hZ 23 rfl (y := (⟨"com/example/rowgraph/rowgraph/graph/Rows$Writer", "put", "(B)Lcom/example/rowgraph/rowgraph/graph/Rows$Writer;"⟩ : MethodName)) hown (hw _ (List.mem_of_getElem? (i := 20) rfl)) (hw _ (List.mem_of_getElem? (i := 21) rfl)) (hw _ (List.mem_of_getElem? (i := 23) rfl)) (hw _ (List.mem_of_getElem? (i := 22) rfl)) (hw _ (List.mem_of_getElem? (i := 6) rfl)) (hw _ (List.mem_of_getElem? (i := 24) rfl)) (by decide) a [.int (own_by q (16 : Int32))] [] (rmP l Z a0 hw [] a b (5 : Int32) (own_by q (16 : Int32)) 5 (((((vs.set 0 (.int (own_by q (56 : Int32)))).set 1 (.int (own_by q (48 : Int32)))).set 2 (.int (own_by q (40 : Int32)))).set 3 (.int (own_by q (32 : Int32)))).set 4 (.int (own_by q (24 : Int32)))) T8.heap n0 Zl11 E8 B8 L8r A8 (by simp only [List.length_set]; exact hl) rfl (by decide) (own_byn _ _) ga gb nab) rfl E8 (lenOf pd_3 rfl) rfl (by rw [hml]; rfl) (hb hby d4_20) (by decide) 0 (Nat.le_of_eq rfl) (by decide) (by decide) (by decide) ?_
  rintro _ T10 L10 X10 ⟨rfl, N10q, K10, E10, B10, L10q, A10⟩
  have N10 := Fr.app N8 N10q
  show Goes p e below (T10.setTop (mkF m 23 #[.val (.ref a), .val (.int (8 : Int32)), .val (.long q), .second, .val (.int (16 : Int32))] [.ref a])) _
  have L10r : Fld Z T10.heap a "com/example/rowgraph/rowgraph/graph/Rows$Writer" "length" "I" (.int (6 : Int32)) := L10q
  refine g_pop X10 hx 24 rfl (hb hby d4_23) rfl ?_
  refine g_iinc X10 hx 27 rfl (hb hby d4_24) (8 : Int32) (by decide) rfl #[.val (.ref a), .val (.int (8 : Int32)), .val (.long q), .second, .val (.int (8 : Int32))] rfl ?_
  refine g_goto X10 hx 8 (hb hby d4_27) (by decide) (by decide) ?_
  refine g_iload X10 hx 10 rfl (hb hby d4_8) rfl ?_
  refine g_ifN X10 hx 13 rfl (hb hby d4_10) (XT.i0_lt_f (by decide)) ?_
  refine g_aload_n X10 hx 14 rfl (hb hby d4_13) rfl rfl ?_
  refine g_lload_n X10 hx 15 rfl (hb hby d4_14) rfl ?_
  refine g_iload X10 hx 17 rfl (hb hby d4_15) rfl ?_
  refine g_lushr X10 hx 18 rfl (hb hby d4_17) ?_
  refine g_l2i X10 hx 19 rfl (hb hby d4_18) ?_
  refine g_i2b X10 hx 20 rfl (hb hby d4_19) ?_
  show Goes p e below (T10.setTop (mkF m 20 #[.val (.ref a), .val (.int (8 : Int32)), .val (.long q), .second, .val (.int (8 : Int32))] [.int (own_by q (8 : Int32)), .ref a])) _
  have Zl13 : n0 ≤ T10.heap.size := (Nat.le_trans Zl11 K10.1)
  refine g_callV X10 hx hZ 23 rfl (y := (⟨"com/example/rowgraph/rowgraph/graph/Rows$Writer", "put", "(B)Lcom/example/rowgraph/rowgraph/graph/Rows$Writer;"⟩ : MethodName)) hown (hw _ (List.mem_of_getElem? (i := 20) rfl)) (hw _ (List.mem_of_getElem? (i := 21) rfl)) (hw _ (List.mem_of_getElem? (i := 23) rfl)) (hw _ (List.mem_of_getElem? (i := 22) rfl)) (hw _ (List.mem_of_getElem? (i := 6) rfl)) (hw _ (List.mem_of_getElem? (i := 24) rfl)) (by decide) a [.int (own_by q (8 : Int32))] [] (rmP l Z a0 hw [] a b (6 : Int32) (own_by q (8 : Int32)) 6 ((((((vs.set 0 (.int (own_by q (56 : Int32)))).set 1 (.int (own_by q (48 : Int32)))).set 2 (.int (own_by q (40 : Int32)))).set 3 (.int (own_by q (32 : Int32)))).set 4 (.int (own_by q (24 : Int32)))).set 5 (.int (own_by q (16 : Int32)))) T10.heap n0 Zl13 E10 B10 L10r A10 (by simp only [List.length_set]; exact hl) rfl (by decide) (own_byn _ _) ga gb nab) rfl E10 (lenOf pd_3 rfl) rfl (by rw [hml]; rfl) (hb hby d4_20) (by decide) 0 (Nat.le_of_eq rfl) (by decide) (by decide) (by decide) ?_
  rintro _ T12 L12 X12 ⟨rfl, N12q, K12, E12, B12, L12q, A12⟩
  have N12 := Fr.app N10 N12q
  show Goes p e below (T12.setTop (mkF m 23 #[.val (.ref a), .val (.int (8 : Int32)), .val (.long q), .second, .val (.int (8 : Int32))] [.ref a])) _
  have L12r : Fld Z T12.heap a "com/example/rowgraph/rowgraph/graph/Rows$Writer" "length" "I" (.int (7 : Int32)) := L12q
  refine g_pop X12 hx 24 rfl (hb hby d4_23) rfl ?_
  refine g_iinc X12 hx 27 rfl (hb hby d4_24) (0 : Int32) (by decide) rfl #[.val (.ref a), .val (.int (8 : Int32)), .val (.long q), .second, .val (.int (0 : Int32))] rfl ?_
  refine g_goto X12 hx 8 (hb hby d4_27) (by decide) (by decide) ?_
  refine g_iload X12 hx 10 rfl (hb hby d4_8) rfl ?_
  refine g_ifN X12 hx 13 rfl (hb hby d4_10) (XT.i0_lt_f (by decide)) ?_
  refine g_aload_n X12 hx 14 rfl (hb hby d4_13) rfl rfl ?_
  refine g_lload_n X12 hx 15 rfl (hb hby d4_14) rfl ?_
  refine g_iload X12 hx 17 rfl (hb hby d4_15) rfl ?_
  refine g_lushr X12 hx 18 rfl (hb hby d4_17) ?_
  refine g_l2i X12 hx 19 rfl (hb hby d4_18) ?_
  refine g_i2b X12 hx 20 rfl (hb hby d4_19) ?_
  show Goes p e below (T12.setTop (mkF m 20 #[.val (.ref a), .val (.int (8 : Int32)), .val (.long q), .second, .val (.int (0 : Int32))] [.int (own_by q (0 : Int32)), .ref a])) _
  have Zl15 : n0 ≤ T12.heap.size := (Nat.le_trans Zl13 K12.1)
  refine g_callV X12 hx hZ 23 rfl (y := (⟨"com/example/rowgraph/rowgraph/graph/Rows$Writer", "put", "(B)Lcom/example/rowgraph/rowgraph/graph/Rows$Writer;"⟩ : MethodName)) hown (hw _ (List.mem_of_getElem? (i := 20) rfl)) (hw _ (List.mem_of_getElem? (i := 21) rfl)) (hw _ (List.mem_of_getElem? (i := 23) rfl)) (hw _ (List.mem_of_getElem? (i := 22) rfl)) (hw _ (List.mem_of_getElem? (i := 6) rfl)) (hw _ (List.mem_of_getElem? (i := 24) rfl)) (by decide) a [.int (own_by q (0 : Int32))] [] (rmP l Z a0 hw [] a b (7 : Int32) (own_by q (0 : Int32)) 7 (((((((vs.set 0 (.int (own_by q (56 : Int32)))).set 1 (.int (own_by q (48 : Int32)))).set 2 (.int (own_by q (40 : Int32)))).set 3 (.int (own_by q (32 : Int32)))).set 4 (.int (own_by q (24 : Int32)))).set 5 (.int (own_by q (16 : Int32)))).set 6 (.int (own_by q (8 : Int32)))) T12.heap n0 Zl15 E12 B12 L12r A12 (by simp only [List.length_set]; exact hl) rfl (by decide) (own_byn _ _) ga gb nab) rfl E12 (lenOf pd_3 rfl) rfl (by rw [hml]; rfl) (hb hby d4_20) (by decide) 0 (Nat.le_of_eq rfl) (by decide) (by decide) (by decide) ?_
  rintro _ T14 L14 X14 ⟨rfl, N14q, K14, E14, B14, L14q, A14⟩
  have N14 := Fr.app N12 N14q
  show Goes p e below (T14.setTop (mkF m 23 #[.val (.ref a), .val (.int (8 : Int32)), .val (.long q), .second, .val (.int (0 : Int32))] [.ref a])) _
  have L14r : Fld Z T14.heap a "com/example/rowgraph/rowgraph/graph/Rows$Writer" "length" "I" (.int (8 : Int32)) := L14q
  refine g_pop X14 hx 24 rfl (hb hby d4_23) rfl ?_
  refine g_iinc X14 hx 27 rfl (hb hby d4_24) (-8 : Int32) (by decide) rfl #[.val (.ref a), .val (.int (8 : Int32)), .val (.long q), .second, .val (.int (-8 : Int32))] rfl ?_
  refine g_goto X14 hx 8 (hb hby d4_27) (by decide) (by decide) ?_
  refine g_iload X14 hx 10 rfl (hb hby d4_8) rfl ?_
  refine g_ifY X14 hx 30 (hb hby d4_10) (XT.i0_lt_t (by decide)) (by decide) (by decide) ?_
  refine g_aload_n X14 hx 31 rfl (hb hby d4_30) rfl rfl ?_
  exact g_retA X14 hx hret hlk rfl rfl rfl (hb hby d4_31) ⟨rfl, N14, (((((((((Keep.refl h0 [a, b]).trans K1 (allS (Or.inl (List.mem_of_getElem? (i := 0) rfl)) (allS (Or.inl (List.mem_of_getElem? (i := 1) rfl)) all0))).trans K2 (allS (Or.inl (List.mem_of_getElem? (i := 0) rfl)) (allS (Or.inl (List.mem_of_getElem? (i := 1) rfl)) all0))).trans K4 (allS (Or.inl (List.mem_of_getElem? (i := 0) rfl)) (allS (Or.inl (List.mem_of_getElem? (i := 1) rfl)) all0))).trans K6 (allS (Or.inl (List.mem_of_getElem? (i := 0) rfl)) (allS (Or.inl (List.mem_of_getElem? (i := 1) rfl)) all0))).trans K8 (allS (Or.inl (List.mem_of_getElem? (i := 0) rfl)) (allS (Or.inl (List.mem_of_getElem? (i := 1) rfl)) all0))).trans K10 (allS (Or.inl (List.mem_of_getElem? (i := 0) rfl)) (allS (Or.inl (List.mem_of_getElem? (i := 1) rfl)) all0))).trans K12 (allS (Or.inl (List.mem_of_getElem? (i := 0) rfl)) (allS (Or.inl (List.mem_of_getElem? (i := 1) rfl)) all0))).trans K14 (allS (Or.inl (List.mem_of_getElem? (i := 0) rfl)) (allS (Or.inl (List.mem_of_getElem? (i := 1) rfl)) all0))), E14, B14, L14r, A14⟩ (by decide) (by decide)
theorem d2_0 : decode prog_41_method_1_code 0 = .ok (.aload_n 0, 1) := by decide +kernel
theorem d2_1 : decode prog_41_method_1_code 1 = .ok (.invokespecial 1, 3) := by decide +kernel
theorem d2_4 : decode prog_41_method_1_code 4 = .ok (.aload_n 0, 1) := by decide +kernel
theorem d2_5 : decode prog_41_method_1_code 5 = .ok (.bipush 64, 2) := by decide +kernel
theorem d2_7 : decode prog_41_method_1_code 7 = .ok (.newarray .byte, 2) := by decide +kernel
theorem d2_9 : decode prog_41_method_1_code 9 = .ok (.putfield 7, 3) := by decide +kernel
theorem d2_12 : decode prog_41_method_1_code 12 = .ok (.return_, 1) := by decide +kernel
theorem pf_5 : plainFor (⟨"com/example/rowgraph/rowgraph/graph/Rows$Writer", "<init>", "()V"⟩ : MethodName) = true := by first | exact plainFor_of_name (by first | (simp [plainName, overriddenIn]; done) | decide +kernel) | decide +kernel
theorem pd_4 : parseMethodDescriptor "()V" = some ⟨[], none⟩ := by decide +kernel
theorem ef_2_rmI (m : MethodId) (a : Addr) (u1 : Value)  : entryFrame m #[(.ref a)] 1 = mkF m 0 #[.val (.ref a)] [] := by first | (simp [entryFrame, mkF, argsToLocals, Value.category, maxLocals]; done) | rfl
def Q_rmI (Z : State) (a : Addr) (u1 : Value) (h0 : Heap) (n0 : Nat) (v : Option Value) (h : Heap) (L : List Loc) : Prop := ∃ b, v = none ∧ Fr n0 L ∧ Keep h0 h [a] ∧ n0 ≤ b ∧ a ≠ b ∧ Exa Z h a "com/example/rowgraph/rowgraph/graph/Rows$Writer" ∧ Fld Z h a "com/example/rowgraph/rowgraph/graph/Rows$Writer" "bytes" "[B" (.ref b) ∧ Fld Z h a "com/example/rowgraph/rowgraph/graph/Rows$Writer" "length" "I" (.int (0 : Int32)) ∧ Al Z h b .byte (List.replicate 64 (.int (0 : Int32)))
set_option maxRecDepth 65536 in
set_option maxHeartbeats 40000000 in
theorem rmI (l : Launch) (Z : State) (a0 : Array Value) (hw : ∀ d ∈ tables_1, d.before a0 Z = true) (ws : List Jvm.Cond) (a : Addr) (u1 : Value) (h0 : Heap) (n0 : Nat) (Z0 : n0 ≤ h0.size) (Ea : Exa Z h0 a "com/example/rowgraph/rowgraph/graph/Rows$Writer") (Fb : Fld Z h0 a "com/example/rowgraph/rowgraph/graph/Rows$Writer" "bytes" "[B" u1) (Fl : Fld Z h0 a "com/example/rowgraph/rowgraph/graph/Rows$Writer" "length" "I" (.int (0 : Int32))) (ga : n0 ≤ a) :
    OwnMet l Z (⟨"com/example/rowgraph/rowgraph/graph/Rows$Writer", "<init>", "()V"⟩ : MethodName) prog_41_method_1_code 1 none ws ({ frames := 1, cells := 1, slots := 64, locals := 12 } : Room) #[(.ref a)] h0 (Q_rmI Z a u1 h0 n0) := by
  refine own_body pf_5 ?_
  intro p e s m below meth c s₁ hx hby hml hown hnm hret hlk hZ X0 e0
  have N0 := Fr.nil n0
  refine own_cast (ef_2_rmI m a u1 ) ?_
  refine g_aload_n X0 hx 1 rfl (hb hby d2_0) rfl rfl ?_
  refine g_initO X0 hx hZ 4 rfl hown (hw _ (List.mem_of_getElem? (i := 10) rfl)) (hw _ (List.mem_of_getElem? (i := 11) rfl)) (hw _ (List.mem_of_getElem? (i := 12) rfl)) e0 (by rw [hml]; rfl) (hb hby d2_1) (by decide) 0 (Nat.le_of_eq rfl) (by decide) ?_
  intro T1 X1 e1
  refine g_aload_n X1 hx 5 rfl (hb hby d2_4) rfl rfl ?_
  refine g_bipush X1 hx 7 rfl (64 : Int32) rfl (hb hby d2_5) ?_
  refine g_newarr X1 hx hZ 9 rfl (hw _ (List.mem_of_getElem? (i := 13) rfl)) e1 (hb hby d2_7) 64 rfl 64 (Nat.le_refl _) (by decide) (by decide) (by decide) "[B" (by decide) ?_
  intro T2 h2 b g2 X2 e2 E2 A2 Ex2
  have ne_a_b : a ≠ b := Nat.ne_of_lt (Nat.lt_of_lt_of_eq Ea.lt g2.symm)
  have ge_b : n0 ≤ b := Nat.le_trans Z0 (Nat.le_of_eq g2.symm)
  have hz_b : h0.size ≤ b := Nat.le_trans (Keep.refl h0 [a]).1 (Nat.le_of_eq g2.symm)
  have Fld3 := (Fb.ext E2)
  have Exa4 := (Ea.ext E2)
  refine g_putF X2 hx hZ 12 rfl hown (hw _ (List.mem_of_getElem? (i := 14) rfl)) e2 Fld3 Exa4 (Or.inl (hw _ (List.mem_of_getElem? (i := 15) rfl))) (hw _ (List.mem_of_getElem? (i := 5) rfl)) (ty := .array .byte) (by decide) rfl rfl (hb hby d2_9) ?_
  intro T5 h5 X5 e5 W5
  have Fw5 := Fld3.same W5
  have N5 := Fr.snoc X5 N0 ga
  have Exa6 := (Exa4.wr W5)
  have Fld7 := ((Fl.ext E2).other W5 (Or.inr (slot_ne (Or.inl (hw _ (List.mem_of_getElem? (i := 26) rfl))) (Or.inl (hw _ (List.mem_of_getElem? (i := 15) rfl))) (by decide) (t := .int) (t' := .array .byte) (by decide) (by decide))))
  have Al8 := (A2.other W5 (Ne.symm ne_a_b))
  exact g_ret0 X5 hx hret hlk (hb hby d2_12) (by rw [e5]; exact ⟨b, rfl, N5, (((Keep.refl h0 [a]).ext E2).wr W5 (Or.inl (List.mem_of_getElem? (i := 0) rfl))), ge_b, ne_a_b, Exa6, Fw5, Fld7, Al8⟩) (by decide) (by decide)
theorem d1_0 : decode prog_37_method_22_code 0 = .ok (.new 7, 3) := by decide +kernel
theorem d1_3 : decode prog_37_method_22_code 3 = .ok (.dup, 1) := by decide +kernel
theorem d1_4 : decode prog_37_method_22_code 4 = .ok (.invokespecial 9, 3) := by decide +kernel
theorem d1_7 : decode prog_37_method_22_code 7 = .ok (.bipush 8, 2) := by decide +kernel
theorem d1_9 : decode prog_37_method_22_code 9 = .ok (.lload_n 0, 1) := by decide +kernel
theorem d1_10 : decode prog_37_method_22_code 10 = .ok (.invokevirtual 184, 3) := by decide +kernel
theorem d1_13 : decode prog_37_method_22_code 13 = .ok (.invokevirtual 20, 3) := by decide +kernel
theorem d1_16 : decode prog_37_method_22_code 16 = .ok (.areturn, 1) := by decide +kernel
theorem pf_6 : plainFor (⟨"com/example/rowgraph/rowgraph/graph/Rows", "count", "(J)[B"⟩ : MethodName) = true := by first | exact plainFor_of_name (by first | (simp [plainName, overriddenIn]; done) | decide +kernel) | decide +kernel
theorem pd_5 : parseMethodDescriptor "(IJ)Lcom/example/rowgraph/rowgraph/graph/Rows$Writer;" = some ⟨[.int, .long], some (.object "com/example/rowgraph/rowgraph/graph/Rows$Writer")⟩ := by decide +kernel
theorem pd_6 : parseMethodDescriptor "()[B" = some ⟨[], some (.array .byte)⟩ := by decide +kernel
theorem ef_1_rmN (m : MethodId) (q : Int64)  : entryFrame m #[(.long q)] 2 = mkF m 0 #[.val (.long q), .second] [] := by first | (simp [entryFrame, mkF, argsToLocals, Value.category, maxLocals]; done) | rfl
def Q_rmN (Z : State) (q : Int64) (h0 : Heap) (n0 : Nat) (v : Option Value) (h : Heap) (L : List Loc) : Prop := ∃ b, v = some (.ref b) ∧ Fr n0 L ∧ Al Z h b .byte [.int (own_by q (56 : Int32)), .int (own_by q (48 : Int32)), .int (own_by q (40 : Int32)), .int (own_by q (32 : Int32)), .int (own_by q (24 : Int32)), .int (own_by q (16 : Int32)), .int (own_by q (8 : Int32)), .int (own_by q (0 : Int32))]
set_option maxRecDepth 65536 in
set_option maxHeartbeats 40000000 in
theorem rmN (l : Launch) (Z : State) (a0 : Array Value) (hw : ∀ d ∈ tables_1, d.before a0 Z = true) (ws : List Jvm.Cond) (q : Int64) (h0 : Heap) (n0 : Nat) (Z0 : n0 ≤ h0.size)  :
    OwnMet l Z (⟨"com/example/rowgraph/rowgraph/graph/Rows", "count", "(J)[B"⟩ : MethodName) prog_37_method_22_code 2 (some (.array .byte)) ws ({ frames := 3, cells := 3, slots := 74, locals := 44 } : Room) #[(.long q)] h0 (Q_rmN Z q h0 n0) := by
  refine own_body pf_6 ?_
  intro p e s m below meth c s₁ hx hby hml hown hnm hret hlk hZ X0 e0
  have N0 := Fr.nil n0
  refine own_cast (ef_1_rmN m q ) ?_
  refine g_new X0 hx hZ 3 rfl hown (hw _ (List.mem_of_getElem? (i := 4) rfl)) (hw _ (List.mem_of_getElem? (i := 5) rfl)) (hw _ (List.mem_of_getElem? (i := 6) rfl)) e0 (hb hby d1_0) (by decide) (by decide) ?_
  intro T1 h1 o1 g1 X1 e1 E1 A1 D1
  have ge_o1 : n0 ≤ o1 := Nat.le_trans Z0 (Nat.le_of_eq g1.symm)
  refine g_dup X1 hx 4 rfl (hb hby d1_3) rfl ?_
  have Zl3 : n0 ≤ h1.size := (Nat.le_trans Z0 E1.1)
  refine g_callIR X1 hx hZ 7 rfl (y := (⟨"com/example/rowgraph/rowgraph/graph/Rows$Writer", "<init>", "()V"⟩ : MethodName)) rfl hown (hw _ (List.mem_of_getElem? (i := 7) rfl)) (hw _ (List.mem_of_getElem? (i := 8) rfl)) (hw _ (List.mem_of_getElem? (i := 6) rfl)) (hw _ (List.mem_of_getElem? (i := 9) rfl)) (by decide) o1 [] [.ref o1] (rmI l Z a0 hw [] o1 _ h1 n0 Zl3 A1 (D1 (Or.inl (hw _ (List.mem_of_getElem? (i := 15) rfl))) (ty := .array .byte) (by decide)) (D1 (Or.inl (hw _ (List.mem_of_getElem? (i := 26) rfl))) (ty := .int) (by decide)) ge_o1) e1 (lenOf pd_4 rfl) rfl (by rw [hml]; rfl) (hb hby d1_4) (by decide) 1 (Nat.le_of_eq rfl) (by decide) (by decide) (by decide) ?_
  rintro _ T2 L2 X2 ⟨b2, rfl, N2q, K2, gb2, nb2, E2, B2, L2q, A2⟩
  have N2 := Fr.app N0 N2q
  show Goes p e below (T2.setTop (mkF m 7 #[.val (.long q), .second] [.ref o1])) _
  refine g_bipush X2 hx 9 rfl (8 : Int32) rfl (hb hby d1_7) ?_
  refine g_lload_n X2 hx 10 rfl (hb hby d1_9) rfl ?_
  have Zl5 : n0 ≤ T2.heap.size := (Nat.le_trans Zl3 K2.1)
  refine g_callPR X2 hx hZ 13 rfl (y := (⟨"com/example/rowgraph/rowgraph/graph/Rows$Writer", "fixed", "(IJ)Lcom/example/rowgraph/rowgraph/graph/Rows$Writer;"⟩ : MethodName)) hown (hw _ (List.mem_of_getElem? (i := 16) rfl)) (hw _ (List.mem_of_getElem? (i := 17) rfl)) (hw _ (List.mem_of_getElem? (i := 18) rfl)) (hw _ (List.mem_of_getElem? (i := 5) rfl)) (hw _ (List.mem_of_getElem? (i := 6) rfl)) (hw _ (List.mem_of_getElem? (i := 19) rfl)) (by decide) o1 [.int (8 : Int32), .long q] [] (rmF l Z a0 hw [] o1 b2 q (List.replicate 64 (.int (0 : Int32))) T2.heap n0 Zl5 E2 B2 L2q A2 rfl ge_o1 gb2 nb2) rfl E2 (lenOf pd_5 rfl) rfl (by rw [hml]; rfl) (hb hby d1_10) (by decide) 0 (Nat.le_of_eq rfl) (by decide) (by decide) (by decide) ?_
  rintro _ T4 L4 X4 ⟨rfl, N4q, K4, E4, B4, L4q, A4⟩
  have N4 := Fr.app N2 N4q
  show Goes p e below (T4.setTop (mkF m 13 #[.val (.long q), .second] [.ref o1])) _
  have Zl7 : n0 ≤ T4.heap.size := (Nat.le_trans Zl5 K4.1)
  refine g_callV X4 hx hZ 16 rfl (y := (⟨"com/example/rowgraph/rowgraph/graph/Rows$Writer", "bytes", "()[B"⟩ : MethodName)) hown (hw _ (List.mem_of_getElem? (i := 27) rfl)) (hw _ (List.mem_of_getElem? (i := 28) rfl)) (hw _ (List.mem_of_getElem? (i := 30) rfl)) (hw _ (List.mem_of_getElem? (i := 29) rfl)) (hw _ (List.mem_of_getElem? (i := 6) rfl)) (hw _ (List.mem_of_getElem? (i := 31) rfl)) (by decide) o1 [] [] (rmB l Z a0 hw [] o1 b2 (((((((((List.replicate 64 (.int (0 : Int32))).set 0 (.int (own_by q (56 : Int32)))).set 1 (.int (own_by q (48 : Int32)))).set 2 (.int (own_by q (40 : Int32)))).set 3 (.int (own_by q (32 : Int32)))).set 4 (.int (own_by q (24 : Int32)))).set 5 (.int (own_by q (16 : Int32)))).set 6 (.int (own_by q (8 : Int32)))).set 7 (.int (own_by q (0 : Int32)))) T4.heap n0 Zl7 B4 L4q A4 rfl (own_fset (own_fset (own_fset (own_fset (own_fset (own_fset (own_fset (own_fset (fun v hv => by rw [List.eq_of_mem_replicate hv]; rfl) 0 _ (own_byf _ _)) 1 _ (own_byf _ _)) 2 _ (own_byf _ _)) 3 _ (own_byf _ _)) 4 _ (own_byf _ _)) 5 _ (own_byf _ _)) 6 _ (own_byf _ _)) 7 _ (own_byf _ _))) rfl E4 (lenOf pd_6 rfl) rfl (by rw [hml]; rfl) (hb hby d1_13) (by decide) 0 (Nat.le_of_eq rfl) (by decide) (by decide) (by decide) ?_
  rintro _ T6 L6 X6 ⟨r6, rfl, N6q, K6, Ar6⟩
  have N6 := Fr.app N4 N6q
  show Goes p e below (T6.setTop (mkF m 16 #[.val (.long q), .second] [.ref r6])) _
  have Af : Al Z T6.heap r6 .byte [.int (own_by q (56 : Int32)), .int (own_by q (48 : Int32)), .int (own_by q (40 : Int32)), .int (own_by q (32 : Int32)), .int (own_by q (24 : Int32)), .int (own_by q (16 : Int32)), .int (own_by q (8 : Int32)), .int (own_by q (0 : Int32))] := Ar6
  exact g_retA X6 hx hret hlk rfl rfl rfl (hb hby d1_16) ⟨r6, rfl, N6, Af⟩ (by decide) (by decide)
theorem pf_7 : plainFor (⟨"com/example/rowgraph/rowgraph/graph/RowsCountPinLaw", "law", "(J)Z"⟩ : MethodName) = true := by first | exact plainFor_of_name (by first | (simp [plainName, overriddenIn]; done) | decide +kernel) | decide +kernel
theorem pd_7 : parseMethodDescriptor "(J)[B" = some ⟨[.long], some (.array .byte)⟩ := by decide +kernel
theorem ef_0_rm0 (m : MethodId) (p1 : Int64)  : entryFrame m #[(.long p1)] maxLocals = mkF m 0 #[.val (.long p1), .second, .unset] [] := by first | (simp [entryFrame, mkF, argsToLocals, Value.category, maxLocals]; done) | rfl
def Q_rm0 (Z : State) (p1 : Int64) (h0 : Heap) (n0 : Nat) (v : Option Value) (h : Heap) (L : List Loc) : Prop := v = some (.int 1) ∧ Fr n0 L
set_option maxRecDepth 65536 in
set_option maxHeartbeats 40000000 in
theorem rm0 (l : Launch) (Z : State) (a0 : Array Value) (hw : ∀ d ∈ tables_1, d.before a0 Z = true) (ws : List Jvm.Cond) (p1 : Int64) (h0 : Heap) (n0 : Nat) (Z0 : n0 ≤ h0.size)  :
    OwnMet l Z x code maxLocals ret ws room_1 #[(.long p1)] h0 (Q_rm0 Z p1 h0 n0) := by
  refine own_body pf_7 ?_
  intro p e s m below meth c s₁ hx hby hml hown hnm hret hlk hZ X0 e0
  have N0 := Fr.nil n0
  refine own_cast (ef_0_rm0 m p1 ) ?_
  refine g_lload_n X0 hx 1 rfl (hb hby at_0) rfl ?_
  refine g_callS X0 hx hZ 4 rfl (y := (⟨"com/example/rowgraph/rowgraph/graph/Rows", "count", "(J)[B"⟩ : MethodName)) hown (hw _ (List.mem_of_getElem? (i := 0) rfl)) (hw _ (List.mem_of_getElem? (i := 1) rfl)) (hw _ (List.mem_of_getElem? (i := 2) rfl)) (hw _ (List.mem_of_getElem? (i := 3) rfl)) (by decide) [.long p1] [] (rmN l Z a0 hw [] p1 h0 n0 Z0 ) e0 (lenOf pd_7 rfl) rfl (by rw [hml]; rfl) (hb hby at_1) (by decide) 0 (Nat.le_of_eq rfl) (by decide) (by decide) (by decide) ?_
  rintro _ T1 L1 X1 ⟨r1, rfl, N1q, Ar1⟩
  have N1 := Fr.app N0 N1q
  show Goes p e below (T1.setTop (mkF m 4 #[.val (.long p1), .second, .unset] [.ref r1])) _
  refine g_astore_n X1 hx 5 rfl (hb hby at_4) rfl #[.val (.long p1), .second, .val (.ref r1)] rfl ?_
  refine g_aload_n X1 hx 6 rfl (hb hby at_5) rfl rfl ?_
  refine g_alen X1 hx hZ 7 rfl (hb hby at_6) rfl Ar1 (8 : Int32) rfl ?_
  refine g_bipush X1 hx 9 rfl (8 : Int32) rfl (hb hby at_7) ?_
  refine g_icmpY X1 hx 14 (hb hby at_9) (XT.ii_eq_t (by decide)) (by decide) (by decide) ?_
  refine g_aload_n X1 hx 15 rfl (hb hby at_14) rfl rfl ?_
  refine g_iconst X1 hx 16 rfl (0 : Int32) rfl (hb hby at_15) ?_
  refine g_baload X1 hx hZ 17 rfl (hb hby at_16) rfl Ar1 0 rfl (.int (own_by p1 (56 : Int32))) rfl ?_
  refine g_lload_n X1 hx 18 rfl (hb hby at_17) rfl ?_
  refine g_bipush X1 hx 20 rfl (56 : Int32) rfl (hb hby at_18) ?_
  refine g_lushr X1 hx 21 rfl (hb hby at_20) ?_
  refine g_l2i X1 hx 22 rfl (hb hby at_21) ?_
  refine g_i2b X1 hx 23 rfl (hb hby at_22) ?_
  refine g_icmpN X1 hx 26 rfl (hb hby at_23) (XT.ii_ne_f rfl) ?_
  refine g_aload_n X1 hx 27 rfl (hb hby at_26) rfl rfl ?_
  refine g_iconst X1 hx 28 rfl (1 : Int32) rfl (hb hby at_27) ?_
  refine g_baload X1 hx hZ 29 rfl (hb hby at_28) rfl Ar1 1 rfl (.int (own_by p1 (48 : Int32))) rfl ?_
  refine g_lload_n X1 hx 30 rfl (hb hby at_29) rfl ?_
  refine g_bipush X1 hx 32 rfl (48 : Int32) rfl (hb hby at_30) ?_
  refine g_lushr X1 hx 33 rfl (hb hby at_32) ?_
  refine g_l2i X1 hx 34 rfl (hb hby at_33) ?_
  refine g_i2b X1 hx 35 rfl (hb hby at_34) ?_
  refine g_icmpN X1 hx 38 rfl (hb hby at_35) (XT.ii_ne_f rfl) ?_
  refine g_aload_n X1 hx 39 rfl (hb hby at_38) rfl rfl ?_
  refine g_iconst X1 hx 40 rfl (2 : Int32) rfl (hb hby at_39) ?_
  refine g_baload X1 hx hZ 41 rfl (hb hby at_40) rfl Ar1 2 rfl (.int (own_by p1 (40 : Int32))) rfl ?_
  refine g_lload_n X1 hx 42 rfl (hb hby at_41) rfl ?_
  refine g_bipush X1 hx 44 rfl (40 : Int32) rfl (hb hby at_42) ?_
  refine g_lushr X1 hx 45 rfl (hb hby at_44) ?_
  refine g_l2i X1 hx 46 rfl (hb hby at_45) ?_
  refine g_i2b X1 hx 47 rfl (hb hby at_46) ?_
  refine g_icmpN X1 hx 50 rfl (hb hby at_47) (XT.ii_ne_f rfl) ?_
  refine g_aload_n X1 hx 51 rfl (hb hby at_50) rfl rfl ?_
  refine g_iconst X1 hx 52 rfl (3 : Int32) rfl (hb hby at_51) ?_
  refine g_baload X1 hx hZ 53 rfl (hb hby at_52) rfl Ar1 3 rfl (.int (own_by p1 (32 : Int32))) rfl ?_
  refine g_lload_n X1 hx 54 rfl (hb hby at_53) rfl ?_
  refine g_bipush X1 hx 56 rfl (32 : Int32) rfl (hb hby at_54) ?_
  refine g_lushr X1 hx 57 rfl (hb hby at_56) ?_
  refine g_l2i X1 hx 58 rfl (hb hby at_57) ?_
  refine g_i2b X1 hx 59 rfl (hb hby at_58) ?_
  refine g_icmpN X1 hx 62 rfl (hb hby at_59) (XT.ii_ne_f rfl) ?_
  refine g_aload_n X1 hx 63 rfl (hb hby at_62) rfl rfl ?_
  refine g_iconst X1 hx 64 rfl (4 : Int32) rfl (hb hby at_63) ?_
  refine g_baload X1 hx hZ 65 rfl (hb hby at_64) rfl Ar1 4 rfl (.int (own_by p1 (24 : Int32))) rfl ?_
  refine g_lload_n X1 hx 66 rfl (hb hby at_65) rfl ?_
  refine g_bipush X1 hx 68 rfl (24 : Int32) rfl (hb hby at_66) ?_
  refine g_lushr X1 hx 69 rfl (hb hby at_68) ?_
  refine g_l2i X1 hx 70 rfl (hb hby at_69) ?_
  refine g_i2b X1 hx 71 rfl (hb hby at_70) ?_
  refine g_icmpN X1 hx 74 rfl (hb hby at_71) (XT.ii_ne_f rfl) ?_
  refine g_aload_n X1 hx 75 rfl (hb hby at_74) rfl rfl ?_
  refine g_iconst X1 hx 76 rfl (5 : Int32) rfl (hb hby at_75) ?_
  refine g_baload X1 hx hZ 77 rfl (hb hby at_76) rfl Ar1 5 rfl (.int (own_by p1 (16 : Int32))) rfl ?_
  refine g_lload_n X1 hx 78 rfl (hb hby at_77) rfl ?_
  refine g_bipush X1 hx 80 rfl (16 : Int32) rfl (hb hby at_78) ?_
  refine g_lushr X1 hx 81 rfl (hb hby at_80) ?_
  refine g_l2i X1 hx 82 rfl (hb hby at_81) ?_
  refine g_i2b X1 hx 83 rfl (hb hby at_82) ?_
  refine g_icmpN X1 hx 86 rfl (hb hby at_83) (XT.ii_ne_f rfl) ?_
  refine g_aload_n X1 hx 87 rfl (hb hby at_86) rfl rfl ?_
  refine g_bipush X1 hx 89 rfl (6 : Int32) rfl (hb hby at_87) ?_
  refine g_baload X1 hx hZ 90 rfl (hb hby at_89) rfl Ar1 6 rfl (.int (own_by p1 (8 : Int32))) rfl ?_
  refine g_lload_n X1 hx 91 rfl (hb hby at_90) rfl ?_
  refine g_bipush X1 hx 93 rfl (8 : Int32) rfl (hb hby at_91) ?_
  refine g_lushr X1 hx 94 rfl (hb hby at_93) ?_
  refine g_l2i X1 hx 95 rfl (hb hby at_94) ?_
  refine g_i2b X1 hx 96 rfl (hb hby at_95) ?_
  refine g_icmpN X1 hx 99 rfl (hb hby at_96) (XT.ii_ne_f rfl) ?_
  refine g_aload_n X1 hx 100 rfl (hb hby at_99) rfl rfl ?_
  refine g_bipush X1 hx 102 rfl (7 : Int32) rfl (hb hby at_100) ?_
  refine g_baload X1 hx hZ 103 rfl (hb hby at_102) rfl Ar1 7 rfl (.int (own_by p1 (0 : Int32))) rfl ?_
  refine g_lload_n X1 hx 104 rfl (hb hby at_103) rfl ?_
  refine g_l2i X1 hx 105 rfl (hb hby at_104) ?_
  refine g_i2b X1 hx 106 rfl (hb hby at_105) ?_
  refine g_icmpN X1 hx 109 rfl (hb hby at_106) (XT.ii_ne_f (own_by0 _)) ?_
  refine g_iconst X1 hx 110 rfl (1 : Int32) rfl (hb hby at_109) ?_
  refine g_goto X1 hx 114 (hb hby at_110) (by decide) (by decide) ?_
  exact g_retZ X1 hx hret hlk rfl (hb hby at_114) ⟨rfl, N1⟩ (by decide) (by decide)
set_option maxRecDepth 65536 in
set_option maxHeartbeats 40000000 in
theorem comes_1 {Post : Tables → Env → Array Value → State → Outcome → State → Prop} (hpost : ∀ tb e args s v u, (limb_1_1.after args s (.returned v) u = true ∧ limb_1_2.after args s (.returned v) u = true ∧ True) → FrameEnd s (.returned v) u (Jvm.fieldLocs frame_1_writes args s ++ Jvm.arrayLocs frame_1_arrays args s ++ Jvm.staticLocs frame_1_statics s) 16 256 → Post tb e args s (.returned v) u) :
    ArmFor flags0 classFile x code maxLocals ret World_1 tables_1 room_1 Calls_1 rest_1 Pre_1 Post := by
  intro l hfl _ _ p e ha hc hk s m args below hf hA hF happ hP
  obtain ⟨hcalls, hrest, hpre⟩ := hP
  obtain ⟨-, -, -, hnamed, -, -, -, hat⟩ := (Spec.applies_iff hf).mp happ
  obtain ⟨hg, hn⟩ := and_e (Cond.before_iff.mp (show (Jvm.Cond.and given_1 narrow_1).before args s = true from hpre))
  obtain ⟨h1, hr1⟩ := and_e hg
  obtain ⟨w0, rfl⟩ : ∃ w0 : Value, args = #[w0] := by
    have hs : args.size = 1 := by simpa [Cond.value, given_1] using h1
    obtain ⟨L⟩ := args
    match L, hs with
    | [w0], _ => exact ⟨w0, rfl⟩
  have hw := fun d (hd : d ∈ tables_1) => atoms_spec (ws := Jvm.Cond.code x code maxLocals ret :: tables_1) hat d (List.mem_cons_of_mem _ hd)
  have hfit : Fit s := fun {y c} hc i hi => by
    obtain ⟨ha, rfl⟩ := Array.getElem?_eq_some_iff.mp hc
    have q := List.all_eq_true.mp ((Array.all_eq_true_iff_forall_mem.mp hF) _ (Array.getElem_mem ha)) i (List.mem_range.mpr hi)
    simpa [Array.getElem?_eq_getElem hi] using q
  obtain ⟨i0, e0⟩ := isL_v hr1
  obtain rfl : w0 = (.long i0) := Option.some.inj e0
  obtain ⟨n, o, h1, h2, h3, _, L, rfl, ⟨rfl, N⟩, hq⟩ := rm0 l s _ hw tables_1 i0  s.heap s.heap.size (Nat.le_refl _)  p e ha hc hk s m _ below hf ((Spec.applies_iff_loose hf).mp happ).1 ⟨rfl, State.Warmed39.refl s, rfl⟩ trivial
  refine ⟨n, _, h1, h2, h3, hpost _ _ _ _ _ _ ⟨Cond.after_iff.mpr rfl, Cond.after_iff.mpr (eq_i res_at (Term.int_eval (1)) rfl), trivial⟩ ⟨hq.1, hq.2.1, (hq.2.2.sift fun y hy => Or.inr (N y hy)).mono (by decide) (by decide)⟩⟩
theorem main_1_1 : Claimed_1_1 := comes_1 fun _ _ _ _ _ _ h hF => ⟨h.1, hF⟩
theorem main_1_2 : Claimed_1_2 := comes_1 fun _ _ _ _ _ _ h hF => ⟨h.2.1, hF⟩
end Jvm.Pilot.@@N@@
namespace Jvm.Pilot.@@N@@
open Jvm Jvm.ClassFile Sem Op Lib Jvm.Free Jvm.Stand Jvm.Pilot.@@N@@.Jvm.D
/-! MADE BY PROGRAM (witnessworld.py) out of the Statement's table words and the real class files: 13 classes; the members and pool entries that the words name. The judged class is class 1, her method 1. -/
namespace start1
open Jvm.ClassFile
def u (s : String) : CpInfo := .utf8 (stringToUtf16 s)
/-- a pool by its gaps: so many unusable entries, then the entry; so many at the end -/
def gap : Nat → List CpInfo → List CpInfo
  | 0, r => r
  | n + 1, r => .unusable :: gap n r
def poolList (es : List (Nat × CpInfo)) (last : Nat) : List CpInfo := es.foldr (fun e r => gap e.1 (e.2 :: r)) (gap last [])
def pool (es : List (Nat × CpInfo)) (last : Nat) : Array CpInfo := ⟨poolList es last⟩
def fileOf (pool : Array CpInfo) (this : Nat) (attrs : Array Attribute := #[]) (ms : Array MethodInfo := #[]) (fl : Nat := 33) (sup : Nat := 0) (ifs : Array Nat := #[]) (fds : Array FieldInfo := #[]) : ClassFile where
  minorVersion := 0
  majorVersion := 65
  constantPool := pool
  accessFlags := fl
  thisClass := this
  superClass := sup
  interfaces := ifs
  fields := fds
  methods := ms
  attributes := attrs
def plain (name : String) (sup : Option ClassId) : Class where
  name := name
  kind := .ordinary
  loader := none
  accessFlags := 33
  super := sup
  interfaces := #[]
  cf := none
  fields := #[]
  methods := #[]
  instanceTypes := #[]
  staticTypes := #[]
  resolved := #[]
  callSites := []
  init := .initialized
  statics := none
  mirror := none

def pool0 : Array CpInfo := pool [(5, u "<init>"), (0, u "()V"), (1, .class_ 10), (1, u "java/lang/Object")] 113

def k0c0 : Code := { maxStack := 0, maxLocals := 1, code := object_method_1_code, exceptionTable := #[], attributes := #[] }
def k0m0 : Method := { name := "<init>", desc := "()V", sig := { parameters := [], returnType := none }, accessFlags := 1, code := some k0c0 }
/-- java/lang/Object -/
def k0 : Class := { plain "java/lang/Object" none with
  accessFlags := 33
  interfaces := #[]
  cf := some (fileOf pool0 8 #[] #[{ accessFlags := 1, nameIndex := 5, descriptorIndex := 6, attributes := #[] }] 33 0 #[] #[])
  fields := #[]
  methods := #[k0m0]
  instanceTypes := #[]
  staticTypes := #[]
  resolved := Array.replicate 124 none
  statics := none }

def pool1 : Array CpInfo := pool [(2, .class_ 4), (1, u "java/lang/Object"), (0, u "<init>"), (0, u "()V"), (0, .methodref 8 9), (0, .class_ 10), (0, .nameAndType 11 12), (0, u "com/example/rowgraph/rowgraph/graph/Rows"), (0, u "count"), (0, u "(J)[B"), (0, .class_ 14), (0, u "com/example/rowgraph/rowgraph/graph/RowsCountPinLaw"), (2, u "law"), (0, u "(J)Z")] 5

def k1m0 : Method := { name := "<init>", desc := "()V", sig := { parameters := [], returnType := none }, accessFlags := 2, code := none }
def k1c1 : Code := { maxStack := 4, maxLocals := 3, code := code, exceptionTable := #[], attributes := #[] }
def k1m1 : Method := { name := "law", desc := "(J)Z", sig := { parameters := [.long], returnType := some .boolean }, accessFlags := 9, code := some k1c1 }
/-- com/example/rowgraph/rowgraph/graph/RowsCountPinLaw -/
def k1 : Class := { plain "com/example/rowgraph/rowgraph/graph/RowsCountPinLaw" (some 0) with
  accessFlags := 49
  interfaces := #[]
  cf := some (fileOf pool1 13 #[] #[{ accessFlags := 2, nameIndex := 5, descriptorIndex := 6, attributes := #[] }, { accessFlags := 9, nameIndex := 17, descriptorIndex := 18, attributes := #[] }] 49 2 #[] #[])
  fields := #[]
  methods := #[k1m0, k1m1]
  instanceTypes := #[]
  staticTypes := #[]
  resolved := Array.replicate 24 none
  statics := none }

def pool2 : Array CpInfo := pool [(2, .class_ 4), (0, .nameAndType 5 6), (0, u "java/lang/Object"), (0, u "<init>"), (0, u "()V"), (0, .class_ 8), (0, u "com/example/rowgraph/rowgraph/graph/Rows$Writer"), (0, .methodref 7 3), (0, .class_ 11), (0, u "com/example/rowgraph/rowgraph/graph/Rows"), (8, .methodref 7 21), (0, .nameAndType 22 23), (0, u "bytes"), (0, u "()[B"), (35, u "OUT"), (1, .class_ 62), (0, u "com/example/rowgraph/rowgraph/graph/Rows$Reader"), (40, u "ROW_ENTRIES"), (0, u "[B"), (16, .class_ 122), (0, u "com/example/rowgraph/rowgraph/graph/Rows$Half"), (2, u "IN"), (34, u "KEY_ENTRIES"), (10, u "VERTEX_COUNTS"), (5, u "EDGE_COUNTS"), (6, .methodref 7 185), (0, .nameAndType 186 187), (0, u "fixed"), (0, u "(IJ)Lcom/example/rowgraph/rowgraph/graph/Rows$Writer;"), (29, u "LOAD_MARK"), (32, u "HEX"), (0, u "Ljava/util/HexFormat;"), (86, u "TYPES"), (0, u "Ljava/util/List;"), (3, u "COUNTS"), (0, u "B"), (2, u "ROWS"), (1, u "KEYS"), (1, u "LOAD"), (1, u "VERTEX_COUNT"), (0, u "EDGE_COUNT"), (0, u "OWN_ENTRY"), (34, u "count"), (0, u "(J)[B"), (29, .class_ 422), (0, u "com/example/rowgraph/rowgraph/graph/Rows$1")] 68

def k2m0 : Method := { name := "<init>", desc := "()V", sig := { parameters := [], returnType := none }, accessFlags := 2, code := none }
def k2c1 : Code := { maxStack := 4, maxLocals := 2, code := prog_37_method_22_code, exceptionTable := #[], attributes := #[] }
def k2m1 : Method := { name := "count", desc := "(J)[B", sig := { parameters := [.long], returnType := some (.array .byte) }, accessFlags := 8, code := some k2c1 }
/-- com/example/rowgraph/rowgraph/graph/Rows -/
def k2 : Class := { plain "com/example/rowgraph/rowgraph/graph/Rows" (some 0) with
  accessFlags := 48
  interfaces := #[]
  cf := some (fileOf pool2 10 #[.nestMembers #[421, 61, 7, 121]] #[{ accessFlags := 2, nameIndex := 5, descriptorIndex := 6, attributes := #[] }, { accessFlags := 8, nameIndex := 390, descriptorIndex := 391, attributes := #[] }] 48 2 #[] #[{ accessFlags := 26, nameIndex := 343, descriptorIndex := 344, attributes := #[] }, { accessFlags := 26, nameIndex := 347, descriptorIndex := 344, attributes := #[] }, { accessFlags := 26, nameIndex := 349, descriptorIndex := 344, attributes := #[] }, { accessFlags := 26, nameIndex := 351, descriptorIndex := 344, attributes := #[] }, { accessFlags := 26, nameIndex := 353, descriptorIndex := 344, attributes := #[] }, { accessFlags := 26, nameIndex := 354, descriptorIndex := 344, attributes := #[] }, { accessFlags := 26, nameIndex := 355, descriptorIndex := 344, attributes := #[] }, { accessFlags := 26, nameIndex := 59, descriptorIndex := 344, attributes := #[] }, { accessFlags := 26, nameIndex := 125, descriptorIndex := 344, attributes := #[] }, { accessFlags := 26, nameIndex := 338, descriptorIndex := 339, attributes := #[] }, { accessFlags := 26, nameIndex := 250, descriptorIndex := 251, attributes := #[] }, { accessFlags := 24, nameIndex := 103, descriptorIndex := 104, attributes := #[] }, { accessFlags := 24, nameIndex := 171, descriptorIndex := 104, attributes := #[] }, { accessFlags := 24, nameIndex := 177, descriptorIndex := 104, attributes := #[] }, { accessFlags := 24, nameIndex := 160, descriptorIndex := 104, attributes := #[] }, { accessFlags := 24, nameIndex := 217, descriptorIndex := 104, attributes := #[] }])
  fields := #[{ name := "COUNTS", type := .byte, accessFlags := 26, slot := 0, constantValue := 0 }, { name := "ROWS", type := .byte, accessFlags := 26, slot := 1, constantValue := 0 }, { name := "KEYS", type := .byte, accessFlags := 26, slot := 2, constantValue := 0 }, { name := "LOAD", type := .byte, accessFlags := 26, slot := 3, constantValue := 0 }, { name := "VERTEX_COUNT", type := .byte, accessFlags := 26, slot := 4, constantValue := 0 }, { name := "EDGE_COUNT", type := .byte, accessFlags := 26, slot := 5, constantValue := 0 }, { name := "OWN_ENTRY", type := .byte, accessFlags := 26, slot := 6, constantValue := 0 }, { name := "OUT", type := .byte, accessFlags := 26, slot := 7, constantValue := 0 }, { name := "IN", type := .byte, accessFlags := 26, slot := 8, constantValue := 0 }, { name := "TYPES", type := (.object "java/util/List"), accessFlags := 26, slot := 9, constantValue := 0 }, { name := "HEX", type := (.object "java/util/HexFormat"), accessFlags := 26, slot := 10, constantValue := 0 }, { name := "ROW_ENTRIES", type := (.array .byte), accessFlags := 24, slot := 11, constantValue := 0 }, { name := "VERTEX_COUNTS", type := (.array .byte), accessFlags := 24, slot := 12, constantValue := 0 }, { name := "EDGE_COUNTS", type := (.array .byte), accessFlags := 24, slot := 13, constantValue := 0 }, { name := "KEY_ENTRIES", type := (.array .byte), accessFlags := 24, slot := 14, constantValue := 0 }, { name := "LOAD_MARK", type := (.array .byte), accessFlags := 24, slot := 15, constantValue := 0 }]
  methods := #[k2m0, k2m1]
  instanceTypes := #[]
  staticTypes := #[.byte, .byte, .byte, .byte, .byte, .byte, .byte, .byte, .byte, (.object "java/util/List"), (.object "java/util/HexFormat"), (.array .byte), (.array .byte), (.array .byte), (.array .byte), (.array .byte)]
  resolved := (((Array.replicate 491 none).setIfInBounds 7 (some (.cls 3))).setIfInBounds 9 (some (.method ⟨3, 0⟩))).setIfInBounds 184 (some (.method ⟨3, 2⟩))
  statics := none }

def pool3 : Array CpInfo := pool [(1, .methodref 2 3), (0, .class_ 4), (0, .nameAndType 5 6), (0, u "java/lang/Object"), (0, u "<init>"), (0, u "()V"), (0, .fieldref 8 9), (0, .class_ 10), (0, .nameAndType 11 12), (0, u "com/example/rowgraph/rowgraph/graph/Rows$Writer"), (0, u "bytes"), (0, u "[B"), (0, .fieldref 8 14), (0, .nameAndType 15 16), (0, u "length"), (0, u "I"), (0, .methodref 18 19), (0, .class_ 20), (0, .nameAndType 21 22), (0, u "java/util/Arrays"), (0, u "copyOf"), (0, u "([BI)[B"), (0, .methodref 8 24), (0, .nameAndType 25 26), (0, u "put"), (0, u "(B)Lcom/example/rowgraph/rowgraph/graph/Rows$Writer;"), (53, u "fixed"), (0, u "(IJ)Lcom/example/rowgraph/rowgraph/graph/Rows$Writer;"), (104, .class_ 188), (1, u "com/example/rowgraph/rowgraph/graph/Rows"), (28, u "()[B")] 6

def k3c0 : Code := { maxStack := 2, maxLocals := 1, code := prog_41_method_1_code, exceptionTable := #[], attributes := #[] }
def k3m0 : Method := { name := "<init>", desc := "()V", sig := { parameters := [], returnType := none }, accessFlags := 2, code := some k3c0 }
def k3c1 : Code := { maxStack := 5, maxLocals := 2, code := prog_41_method_2_code, exceptionTable := #[], attributes := #[] }
def k3m1 : Method := { name := "put", desc := "(B)Lcom/example/rowgraph/rowgraph/graph/Rows$Writer;", sig := { parameters := [.byte], returnType := some (.object "com/example/rowgraph/rowgraph/graph/Rows$Writer") }, accessFlags := 0, code := some k3c1 }
def k3c2 : Code := { maxStack := 4, maxLocals := 5, code := prog_41_method_15_code, exceptionTable := #[], attributes := #[] }
def k3m2 : Method := { name := "fixed", desc := "(IJ)Lcom/example/rowgraph/rowgraph/graph/Rows$Writer;", sig := { parameters := [.int, .long], returnType := some (.object "com/example/rowgraph/rowgraph/graph/Rows$Writer") }, accessFlags := 2, code := some k3c2 }
def k3c3 : Code := { maxStack := 2, maxLocals := 1, code := prog_41_method_17_code, exceptionTable := #[], attributes := #[] }
def k3m3 : Method := { name := "bytes", desc := "()[B", sig := { parameters := [], returnType := some (.array .byte) }, accessFlags := 0, code := some k3c3 }
/-- com/example/rowgraph/rowgraph/graph/Rows$Writer -/
def k3 : Class := { plain "com/example/rowgraph/rowgraph/graph/Rows$Writer" (some 0) with
  accessFlags := 48
  interfaces := #[]
  cf := some (fileOf pool3 8 #[.nestHost 186] #[{ accessFlags := 2, nameIndex := 5, descriptorIndex := 6, attributes := #[] }, { accessFlags := 0, nameIndex := 25, descriptorIndex := 26, attributes := #[] }, { accessFlags := 2, nameIndex := 80, descriptorIndex := 81, attributes := #[] }, { accessFlags := 0, nameIndex := 11, descriptorIndex := 217, attributes := #[] }] 48 2 #[] #[{ accessFlags := 2, nameIndex := 11, descriptorIndex := 12, attributes := #[] }, { accessFlags := 2, nameIndex := 15, descriptorIndex := 16, attributes := #[] }])
  fields := #[{ name := "bytes", type := (.array .byte), accessFlags := 2, slot := 0, constantValue := 0 }, { name := "length", type := .int, accessFlags := 2, slot := 1, constantValue := 0 }]
  methods := #[k3m0, k3m1, k3m2, k3m3]
  instanceTypes := #[(.array .byte), .int]
  staticTypes := #[]
  resolved := Array.replicate 224 none
  statics := none }

def pool4 : Array CpInfo := pool [(2, .class_ 4), (1, u "java/lang/Object"), (0, u "<init>"), (0, u "()V"), (7, .class_ 16), (1, u "java/util/Arrays"), (57, .class_ 76), (1, u "java/util/Arrays$NaturalOrder"), (36, .class_ 115), (1, u "java/util/Arrays$LegacyMergeSort"), (1, u "Z"), (32, .methodref 151 152), (0, .class_ 153), (0, .nameAndType 154 155), (0, u "java/lang/System"), (0, u "arraycopy"), (0, u "(Ljava/lang/Object;ILjava/lang/Object;II)V"), (146, u "copyOf"), (1, .methodref 305 306), (0, .class_ 307), (0, .nameAndType 308 309), (0, u "java/lang/Math"), (0, u "min"), (0, u "(II)I"), (65, .class_ 376), (0, u "java/util/Arrays$ArrayList"), (68, u "$assertionsDisabled"), (269, u "MIN_ARRAY_SORT_GRAN"), (0, u "I"), (2, u "INSERTIONSORT_THRESHOLD"), (149, u "([BI)[B"), (105, .class_ 976), (0, u "java/util/Arrays$ArrayItr")] 52

def k4m0 : Method := { name := "<init>", desc := "()V", sig := { parameters := [], returnType := none }, accessFlags := 2, code := none }
def k4c1 : Code := { maxStack := 6, maxLocals := 3, code := jdk_65_method_121_code, exceptionTable := #[], attributes := #[] }
def k4m1 : Method := { name := "copyOf", desc := "([BI)[B", sig := { parameters := [(.array .byte), .int], returnType := some (.array .byte) }, accessFlags := 9, code := some k4c1 }
/-- java/util/Arrays -/
def k4 : Class := { plain "java/util/Arrays" (some 0) with
  accessFlags := 49
  interfaces := #[]
  cf := some (fileOf pool4 14 #[.nestMembers #[975, 375, 113, 74]] #[{ accessFlags := 2, nameIndex := 5, descriptorIndex := 6, attributes := #[] }, { accessFlags := 9, nameIndex := 302, descriptorIndex := 869, attributes := #[] }] 49 2 #[] #[{ accessFlags := 26, nameIndex := 715, descriptorIndex := 716, attributes := #[] }, { accessFlags := 26, nameIndex := 719, descriptorIndex := 716, attributes := #[] }, { accessFlags := 4120, nameIndex := 445, descriptorIndex := 117, attributes := #[] }])
  fields := #[{ name := "MIN_ARRAY_SORT_GRAN", type := .int, accessFlags := 26, slot := 0, constantValue := 0 }, { name := "INSERTIONSORT_THRESHOLD", type := .int, accessFlags := 26, slot := 1, constantValue := 0 }, { name := "$assertionsDisabled", type := .boolean, accessFlags := 4120, slot := 2, constantValue := 0 }]
  methods := #[k4m0, k4m1]
  instanceTypes := #[]
  staticTypes := #[.int, .int, .boolean]
  resolved := Array.replicate 1029 none
  statics := none }

def pool5 : Array CpInfo := pool [(1, .class_ 2), (0, u "java/lang/Math"), (1, .class_ 6), (1, u "java/lang/Object"), (0, u "<init>"), (0, u "()V"), (89, .class_ 100), (1, u "java/lang/Math$RandomNumberGeneratorHolder"), (71, u "negativeZeroFloatBits"), (0, u "J"), (2, u "negativeZeroDoubleBits"), (24, u "min"), (43, u "$assertionsDisabled"), (0, u "Z"), (88, u "(II)I"), (2, u "twoToTheDoubleScaleDown"), (0, u "D"), (4, u "twoToTheDoubleScaleUp"), (9, u "E"), (3, u "PI"), (2, u "TAU"), (2, u "DEGREES_TO_RADIANS"), (0, u "RADIANS_TO_DEGREES")] 94

def k5m0 : Method := { name := "<init>", desc := "()V", sig := { parameters := [], returnType := none }, accessFlags := 2, code := none }
def k5c1 : Code := { maxStack := 2, maxLocals := 2, code := jdk_29_method_69_code, exceptionTable := #[], attributes := #[] }
def k5m1 : Method := { name := "min", desc := "(II)I", sig := { parameters := [.int, .int], returnType := some .int }, accessFlags := 9, code := some k5c1 }
/-- java/lang/Math -/
def k5 : Class := { plain "java/lang/Math" (some 0) with
  accessFlags := 49
  interfaces := #[]
  cf := some (fileOf pool5 1 #[.nestMembers #[98]] #[{ accessFlags := 2, nameIndex := 7, descriptorIndex := 8, attributes := #[] }, { accessFlags := 9, nameIndex := 201, descriptorIndex := 335, attributes := #[] }] 49 4 #[] #[{ accessFlags := 25, nameIndex := 354, descriptorIndex := 339, attributes := #[] }, { accessFlags := 25, nameIndex := 358, descriptorIndex := 339, attributes := #[] }, { accessFlags := 25, nameIndex := 361, descriptorIndex := 339, attributes := #[] }, { accessFlags := 26, nameIndex := 364, descriptorIndex := 339, attributes := #[] }, { accessFlags := 26, nameIndex := 365, descriptorIndex := 339, attributes := #[] }, { accessFlags := 26, nameIndex := 172, descriptorIndex := 173, attributes := #[] }, { accessFlags := 26, nameIndex := 176, descriptorIndex := 173, attributes := #[] }, { accessFlags := 8, nameIndex := 344, descriptorIndex := 339, attributes := #[] }, { accessFlags := 8, nameIndex := 338, descriptorIndex := 339, attributes := #[] }, { accessFlags := 4120, nameIndex := 245, descriptorIndex := 246, attributes := #[] }])
  fields := #[{ name := "E", type := .double, accessFlags := 25, slot := 0, constantValue := 0 }, { name := "PI", type := .double, accessFlags := 25, slot := 1, constantValue := 0 }, { name := "TAU", type := .double, accessFlags := 25, slot := 2, constantValue := 0 }, { name := "DEGREES_TO_RADIANS", type := .double, accessFlags := 26, slot := 3, constantValue := 0 }, { name := "RADIANS_TO_DEGREES", type := .double, accessFlags := 26, slot := 4, constantValue := 0 }, { name := "negativeZeroFloatBits", type := .long, accessFlags := 26, slot := 5, constantValue := 0 }, { name := "negativeZeroDoubleBits", type := .long, accessFlags := 26, slot := 6, constantValue := 0 }, { name := "twoToTheDoubleScaleUp", type := .double, accessFlags := 8, slot := 7, constantValue := 0 }, { name := "twoToTheDoubleScaleDown", type := .double, accessFlags := 8, slot := 8, constantValue := 0 }, { name := "$assertionsDisabled", type := .boolean, accessFlags := 4120, slot := 9, constantValue := 0 }]
  methods := #[k5m0, k5m1]
  instanceTypes := #[]
  staticTypes := #[.double, .double, .double, .double, .double, .long, .long, .double, .double, .boolean]
  resolved := Array.replicate 460 none
  statics := none }

def pool6 : Array CpInfo := pool [(2, .class_ 4), (1, u "java/lang/Object"), (0, u "<init>"), (0, u "()V"), (1, .class_ 10), (1, u "java/lang/System"), (0, u "allowSecurityManager"), (0, u "I"), (16, u "cons"), (0, u "Ljava/io/Console;"), (77, .class_ 110), (1, u "java/lang/System$CallersHolder"), (43, u "initialErrStream"), (0, u "Ljava/io/PrintStream;"), (19, u "security"), (0, u "Ljava/lang/SecurityManager;"), (31, .class_ 209), (0, u "java/lang/System$1"), (7, u "props"), (0, u "Ljava/util/Properties;"), (2, u "lineSeparator"), (0, u "Ljava/lang/String;"), (96, .class_ 321), (1, u "java/lang/System$LoggerFinder"), (5, .class_ 328), (0, u "java/lang/System$Logger"), (67, u "err"), (2, u "out"), (91, u "notSupportedJnuEncoding"), (15, u "in"), (17, u "initialIn"), (0, u "Ljava/io/InputStream;"), (35, u "bootLayer"), (0, u "Ljava/lang/ModuleLayer;"), (99, .class_ 664), (0, u "java/lang/System$2"), (9, u "NEVER"), (2, u "MAYBE"), (49, u "arraycopy"), (0, u "(Ljava/lang/Object;ILjava/lang/Object;II)V"), (72, .class_ 802), (0, u "java/lang/System$Logger$Level")] 31

def k6m0 : Method := { name := "<init>", desc := "()V", sig := { parameters := [], returnType := none }, accessFlags := 2, code := none }
def k6m1 : Method := { name := "arraycopy", desc := "(Ljava/lang/Object;ILjava/lang/Object;II)V", sig := { parameters := [(.object "java/lang/Object"), .int, (.object "java/lang/Object"), .int, .int], returnType := none }, accessFlags := 265, code := none }
/-- java/lang/System -/
def k6 : Class := { plain "java/lang/System" (some 0) with
  accessFlags := 49
  interfaces := #[]
  cf := some (fileOf pool6 8 #[.nestMembers #[319, 327, 801, 108, 663, 208]] #[{ accessFlags := 2, nameIndex := 5, descriptorIndex := 6, attributes := #[] }, { accessFlags := 265, nameIndex := 727, descriptorIndex := 728, attributes := #[] }] 49 2 #[] #[{ accessFlags := 25, nameIndex := 507, descriptorIndex := 526, attributes := #[] }, { accessFlags := 25, nameIndex := 399, descriptorIndex := 155, attributes := #[] }, { accessFlags := 25, nameIndex := 396, descriptorIndex := 155, attributes := #[] }, { accessFlags := 10, nameIndex := 525, descriptorIndex := 526, attributes := #[] }, { accessFlags := 26, nameIndex := 674, descriptorIndex := 12, attributes := #[] }, { accessFlags := 26, nameIndex := 677, descriptorIndex := 12, attributes := #[] }, { accessFlags := 10, nameIndex := 11, descriptorIndex := 12, attributes := #[] }, { accessFlags := 74, nameIndex := 175, descriptorIndex := 176, attributes := #[] }, { accessFlags := 10, nameIndex := 491, descriptorIndex := 222, attributes := #[] }, { accessFlags := 74, nameIndex := 29, descriptorIndex := 30, attributes := #[] }, { accessFlags := 74, nameIndex := 154, descriptorIndex := 155, attributes := #[] }, { accessFlags := 10, nameIndex := 217, descriptorIndex := 218, attributes := #[] }, { accessFlags := 10, nameIndex := 221, descriptorIndex := 222, attributes := #[] }, { accessFlags := 8, nameIndex := 562, descriptorIndex := 563, attributes := #[] }])
  fields := #[{ name := "in", type := (.object "java/io/InputStream"), accessFlags := 25, slot := 0, constantValue := 0 }, { name := "out", type := (.object "java/io/PrintStream"), accessFlags := 25, slot := 1, constantValue := 0 }, { name := "err", type := (.object "java/io/PrintStream"), accessFlags := 25, slot := 2, constantValue := 0 }, { name := "initialIn", type := (.object "java/io/InputStream"), accessFlags := 10, slot := 3, constantValue := 0 }, { name := "NEVER", type := .int, accessFlags := 26, slot := 4, constantValue := 0 }, { name := "MAYBE", type := .int, accessFlags := 26, slot := 5, constantValue := 0 }, { name := "allowSecurityManager", type := .int, accessFlags := 10, slot := 6, constantValue := 0 }, { name := "security", type := (.object "java/lang/SecurityManager"), accessFlags := 74, slot := 7, constantValue := 0 }, { name := "notSupportedJnuEncoding", type := (.object "java/lang/String"), accessFlags := 10, slot := 8, constantValue := 0 }, { name := "cons", type := (.object "java/io/Console"), accessFlags := 74, slot := 9, constantValue := 0 }, { name := "initialErrStream", type := (.object "java/io/PrintStream"), accessFlags := 74, slot := 10, constantValue := 0 }, { name := "props", type := (.object "java/util/Properties"), accessFlags := 10, slot := 11, constantValue := 0 }, { name := "lineSeparator", type := (.object "java/lang/String"), accessFlags := 10, slot := 12, constantValue := 0 }, { name := "bootLayer", type := (.object "java/lang/ModuleLayer"), accessFlags := 8, slot := 13, constantValue := 0 }]
  methods := #[k6m0, k6m1]
  instanceTypes := #[]
  staticTypes := #[(.object "java/io/InputStream"), (.object "java/io/PrintStream"), (.object "java/io/PrintStream"), (.object "java/io/InputStream"), .int, .int, .int, (.object "java/lang/SecurityManager"), (.object "java/lang/String"), (.object "java/io/Console"), (.object "java/io/PrintStream"), (.object "java/util/Properties"), (.object "java/lang/String"), (.object "java/lang/ModuleLayer")]
  resolved := Array.replicate 834 none
  statics := none }

def pool7 : Array CpInfo := pool [(1, u "java/lang/Cloneable"), (0, .class_ 1), (0, u "java/lang/Object"), (0, .class_ 3)] 3

/-- java/lang/Cloneable -/
def k7 : Class := { plain "java/lang/Cloneable" (some 0) with
  accessFlags := 1537
  interfaces := #[]
  cf := some (fileOf pool7 2 #[] #[] 1537 4 #[] #[])
  fields := #[]
  methods := #[]
  instanceTypes := #[]
  staticTypes := #[]
  resolved := Array.replicate 8 none
  statics := none }

def pool8 : Array CpInfo := pool [(1, u "java/io/Serializable"), (0, .class_ 1), (0, u "java/lang/Object"), (0, .class_ 3)] 3

/-- java/io/Serializable -/
def k8 : Class := { plain "java/io/Serializable" (some 0) with
  accessFlags := 1537
  interfaces := #[]
  cf := some (fileOf pool8 2 #[] #[] 1537 4 #[] #[])
  fields := #[]
  methods := #[]
  instanceTypes := #[]
  staticTypes := #[]
  resolved := Array.replicate 8 none
  statics := none }

/-- the primitive byte -/
def k9 : Class := { plain "byte" none with kind := .primitive 'B', accessFlags := 0x411 }
/-- [B -/
def k10 : Class := { plain "[B" (some 0) with kind := .array 9 .byte, interfaces := #[7, 8], accessFlags := 1041 }

/-- the primitive int -/
def k11 : Class := { plain "int" none with kind := .primitive 'I', accessFlags := 0x411 }
/-- [I -/
def k12 : Class := { plain "[I" (some 0) with kind := .array 11 .int, interfaces := #[7, 8], accessFlags := 1041 }

def heap : Heap := #[]
def classes : Array Class := #[k0, k1, k2, k3, k4, k5, k6, k7, k8, k9, k10, k11, k12]
def interned : List (Array UInt16 × Addr) := []
def slotsUsed : Nat := 0
def theMethod : MethodId := ⟨1, 1⟩
def args0 : Array Value := #[.long 5]
def aboutOver (below : List Frame) : State where
  vm := { classes := classes, interned := interned.toArray }
  heap := heap
  slotsUsed := slotsUsed
  threads := #[{ frames := .invoking theMethod args0 :: below }]
def below0 : List Frame := [.native { method := ⟨0, 0⟩, args := #[] }]
def about1 : State := aboutOver below0
def p0 : Program := .bare "" "" ""
def e0 : Env := launch0.env 0 0 0
theorem w_frames : about1.frames = Frame.invoking theMethod args0 :: below0 := rfl
set_option maxRecDepth 65536 in
theorem w_args : argsFit about1.vm theMethod args0 = true := by decide +kernel
set_option maxRecDepth 65536 in
theorem w_heap : heapFits about1 = true := by decide +kernel
set_option maxRecDepth 65536 in
theorem w_runnable : about1.curStatus? = some .runnable := by decide +kernel
set_option maxRecDepth 65536 in
theorem w_alone : about1.alone = true := by decide +kernel
set_option maxRecDepth 65536 in
theorem w_named : about1.methodNamed? x = some theMethod := by decide +kernel
set_option maxRecDepth 65536 in
theorem w_hears : about1.hears theMethod below0 = true := by decide +kernel
set_option maxRecDepth 65536 in
theorem w_ripe : about1.ripe theMethod args0 below0 = true := by decide +kernel
theorem w_running : about1.status = .running := rfl
set_option maxRecDepth 65536 in
theorem w_room : about1.hasRoom e0.platform room_1 = true :=
  launch0.hasRoom_least _ room_1 (by decide +kernel) (by decide +kernel) (by decide +kernel) (by decide +kernel) (by decide +kernel) (by decide +kernel)
theorem allAtoms_all (ts : List Jvm.Cond) (a : Array Jvm.Value) (st : Jvm.State) : (allAtoms ts).before a st = ts.all (fun c => c.before a st) := by
  induction ts with
  | nil => rfl
  | cons c t ih =>
    show (Jvm.Cond.and c (allAtoms t)).before a st = _
    rw [Jvm.Cond.before_and, ih, List.all_cons]
def words1 : List Jvm.Cond := Jvm.Cond.code x code maxLocals ret :: tables_1
/-- a 'code' word, met by the world's own term for the bytes: nothing is compared byte by byte -/
theorem code_word {y : MethodName} {bytes : ByteArray} {mx : Nat} {rt : Option FieldType} {a : Array Value} {s : State} {m : MethodId} {meth : Method} {c : Code} (h1 : s.methodNamed? y = some m) (h2 : s.vm.method? m = some meth) (h3 : meth.code = some c) (h4 : c.code = bytes)
    (h5 : (c.maxLocals == mx && c.exceptionTable.isEmpty && decide (c.maxStack ≤ mostOperands) && decide (meth.sig.returnType = rt) && !meth.locks && decide (parseMethodDescriptor y.desc = some meth.sig)) = true) : (Jvm.Cond.code y bytes mx rt).before a s = true := by
  simp only [Bool.and_eq_true, beq_iff_eq, Bool.not_eq_true', decide_eq_true_eq] at h5
  obtain ⟨⟨⟨⟨⟨g1, g2⟩, g3⟩, g4⟩, g5⟩, g6⟩ := h5
  simp [Cond.before, Cond.holds, Cond.value, h1, h2, h3, h4, g1, g2, g3, g4, g5, g6]
def isCode : Jvm.Cond → Bool
  | .code _ _ _ _ => true
  | _ => false
theorem all_split {L : List Jvm.Cond} {P : Jvm.Cond → Bool} (h1 : L.all (fun c => isCode c || P c) = true) (h2 : ∀ c ∈ L.filter isCode, P c = true) : L.all P = true := by
  refine List.all_eq_true.mpr fun c hc => ?_
  have h := List.all_eq_true.mp h1 c hc
  rcases Bool.eq_false_or_eq_true (isCode c) with hi | hi
  · exact h2 c (List.mem_filter.mpr ⟨hc, hi⟩)
  · simpa [hi] using h
set_option maxRecDepth 65536 in
theorem w_c0 : (Jvm.Cond.code x code maxLocals ret).before args0 about1 = true := code_word (m := ⟨1, 1⟩) (meth := k1m1) (c := k1c1) (by decide +kernel) rfl rfl rfl (by decide +kernel)
set_option maxRecDepth 65536 in
theorem w_c1 : (Jvm.Cond.code ({ cls := "com/example/rowgraph/rowgraph/graph/Rows", name := "count", desc := "(J)[B" } : Jvm.MethodName) prog_37_method_22_code (2 : Nat) (Option.some (Jvm.ClassFile.FieldType.array Jvm.ClassFile.FieldType.byte))).before args0 about1 = true := code_word (m := ⟨2, 1⟩) (meth := k2m1) (c := k2c1) (by decide +kernel) rfl rfl rfl (by decide +kernel)
set_option maxRecDepth 65536 in
theorem w_c2 : (Jvm.Cond.code ({ cls := "com/example/rowgraph/rowgraph/graph/Rows$Writer", name := "<init>", desc := "()V" } : Jvm.MethodName) prog_41_method_1_code (1 : Nat) (Option.none : Option Jvm.ClassFile.FieldType)).before args0 about1 = true := code_word (m := ⟨3, 0⟩) (meth := k3m0) (c := k3c0) (by decide +kernel) rfl rfl rfl (by decide +kernel)
set_option maxRecDepth 65536 in
theorem w_c3 : (Jvm.Cond.code ({ cls := "java/lang/Object", name := "<init>", desc := "()V" } : Jvm.MethodName) object_method_1_code (1 : Nat) (Option.none : Option Jvm.ClassFile.FieldType)).before args0 about1 = true := code_word (m := ⟨0, 0⟩) (meth := k0m0) (c := k0c0) (by decide +kernel) rfl rfl rfl (by decide +kernel)
set_option maxRecDepth 65536 in
theorem w_c4 : (Jvm.Cond.code ({ cls := "com/example/rowgraph/rowgraph/graph/Rows$Writer", name := "fixed", desc := "(IJ)Lcom/example/rowgraph/rowgraph/graph/Rows$Writer;" } : Jvm.MethodName) prog_41_method_15_code (5 : Nat) (Option.some (Jvm.ClassFile.FieldType.object "com/example/rowgraph/rowgraph/graph/Rows$Writer"))).before args0 about1 = true := code_word (m := ⟨3, 2⟩) (meth := k3m2) (c := k3c2) (by decide +kernel) rfl rfl rfl (by decide +kernel)
set_option maxRecDepth 65536 in
theorem w_c5 : (Jvm.Cond.code ({ cls := "com/example/rowgraph/rowgraph/graph/Rows$Writer", name := "put", desc := "(B)Lcom/example/rowgraph/rowgraph/graph/Rows$Writer;" } : Jvm.MethodName) prog_41_method_2_code (2 : Nat) (Option.some (Jvm.ClassFile.FieldType.object "com/example/rowgraph/rowgraph/graph/Rows$Writer"))).before args0 about1 = true := code_word (m := ⟨3, 1⟩) (meth := k3m1) (c := k3c1) (by decide +kernel) rfl rfl rfl (by decide +kernel)
set_option maxRecDepth 65536 in
theorem w_c6 : (Jvm.Cond.code ({ cls := "com/example/rowgraph/rowgraph/graph/Rows$Writer", name := "bytes", desc := "()[B" } : Jvm.MethodName) prog_41_method_17_code (1 : Nat) (Option.some (Jvm.ClassFile.FieldType.array Jvm.ClassFile.FieldType.byte))).before args0 about1 = true := code_word (m := ⟨3, 3⟩) (meth := k3m3) (c := k3c3) (by decide +kernel) rfl rfl rfl (by decide +kernel)
set_option maxRecDepth 65536 in
theorem w_c7 : (Jvm.Cond.code ({ cls := "java/util/Arrays", name := "copyOf", desc := "([BI)[B" } : Jvm.MethodName) jdk_65_method_121_code (3 : Nat) (Option.some (Jvm.ClassFile.FieldType.array Jvm.ClassFile.FieldType.byte))).before args0 about1 = true := code_word (m := ⟨4, 1⟩) (meth := k4m1) (c := k4c1) (by decide +kernel) rfl rfl rfl (by decide +kernel)
set_option maxRecDepth 65536 in
theorem w_c8 : (Jvm.Cond.code ({ cls := "java/lang/Math", name := "min", desc := "(II)I" } : Jvm.MethodName) jdk_29_method_69_code (2 : Nat) (Option.some Jvm.ClassFile.FieldType.int)).before args0 about1 = true := code_word (m := ⟨5, 1⟩) (meth := k5m1) (c := k5c1) (by decide +kernel) rfl rfl rfl (by decide +kernel)
def codes1 : List Jvm.Cond := [Jvm.Cond.code x code maxLocals ret, Jvm.Cond.code ({ cls := "com/example/rowgraph/rowgraph/graph/Rows", name := "count", desc := "(J)[B" } : Jvm.MethodName) prog_37_method_22_code (2 : Nat) (Option.some (Jvm.ClassFile.FieldType.array Jvm.ClassFile.FieldType.byte)), Jvm.Cond.code ({ cls := "com/example/rowgraph/rowgraph/graph/Rows$Writer", name := "<init>", desc := "()V" } : Jvm.MethodName) prog_41_method_1_code (1 : Nat) (Option.none : Option Jvm.ClassFile.FieldType), Jvm.Cond.code ({ cls := "java/lang/Object", name := "<init>", desc := "()V" } : Jvm.MethodName) object_method_1_code (1 : Nat) (Option.none : Option Jvm.ClassFile.FieldType), Jvm.Cond.code ({ cls := "com/example/rowgraph/rowgraph/graph/Rows$Writer", name := "fixed", desc := "(IJ)Lcom/example/rowgraph/rowgraph/graph/Rows$Writer;" } : Jvm.MethodName) prog_41_method_15_code (5 : Nat) (Option.some (Jvm.ClassFile.FieldType.object "com/example/rowgraph/rowgraph/graph/Rows$Writer")), Jvm.Cond.code ({ cls := "com/example/rowgraph/rowgraph/graph/Rows$Writer", name := "put", desc := "(B)Lcom/example/rowgraph/rowgraph/graph/Rows$Writer;" } : Jvm.MethodName) prog_41_method_2_code (2 : Nat) (Option.some (Jvm.ClassFile.FieldType.object "com/example/rowgraph/rowgraph/graph/Rows$Writer")), Jvm.Cond.code ({ cls := "com/example/rowgraph/rowgraph/graph/Rows$Writer", name := "bytes", desc := "()[B" } : Jvm.MethodName) prog_41_method_17_code (1 : Nat) (Option.some (Jvm.ClassFile.FieldType.array Jvm.ClassFile.FieldType.byte)), Jvm.Cond.code ({ cls := "java/util/Arrays", name := "copyOf", desc := "([BI)[B" } : Jvm.MethodName) jdk_65_method_121_code (3 : Nat) (Option.some (Jvm.ClassFile.FieldType.array Jvm.ClassFile.FieldType.byte)), Jvm.Cond.code ({ cls := "java/lang/Math", name := "min", desc := "(II)I" } : Jvm.MethodName) jdk_29_method_69_code (2 : Nat) (Option.some Jvm.ClassFile.FieldType.int)]
set_option maxRecDepth 65536 in
theorem codes_eq : words1.filter isCode = codes1 := rfl
theorem w_codes : ∀ c ∈ words1.filter isCode, c.before args0 about1 = true := by
  rw [codes_eq]
  intro c hc
  simp only [codes1, List.mem_cons, List.not_mem_nil, or_false] at hc
  rcases hc with rfl | rfl | rfl | rfl | rfl | rfl | rfl | rfl | rfl
  · exact w_c0
  · exact w_c1
  · exact w_c2
  · exact w_c3
  · exact w_c4
  · exact w_c5
  · exact w_c6
  · exact w_c7
  · exact w_c8
set_option maxRecDepth 65536 in
theorem w_t1 : (words1.take 24).all (fun c => isCode c || c.before args0 about1) = true := by decide +kernel
set_option maxRecDepth 65536 in
theorem w_t2 : (words1.drop 24).all (fun c => isCode c || c.before args0 about1) = true := by decide +kernel
theorem w_tables : (allAtoms (Jvm.Cond.code x code maxLocals ret :: tables_1)).before args0 about1 = true := by
  rw [allAtoms_all]
  show words1.all (fun c => c.before args0 about1) = true
  refine all_split ?_ w_codes
  rw [← List.take_append_drop 24 words1, List.all_append, w_t1, w_t2]
  rfl
set_option maxRecDepth 65536 in
theorem w_case : (Jvm.Cond.and given_1 narrow_1).before args0 about1 = true := by decide +kernel
theorem w_applies : (headSpec (Jvm.Cond.code x code maxLocals ret :: tables_1) room_1).applies x e0.platform about1 = true :=
  (Spec.applies_iff w_frames).mpr ⟨w_running, w_runnable, w_alone, w_named, w_hears, w_ripe, w_room, w_tables⟩
theorem atStart : AtStart classFile x code maxLocals ret World_1 tables_1 room_1 Calls_1 rest_1 Pre_1 launch0 p0 e0 about1 theMethod args0 below0 :=
  ⟨lists_1, trivial, launch0.admits_env _ _ _, launch0.least_env, fairChoices_fair.cas, fairChoices_fair.clock, w_frames, w_args, w_heap, w_applies, trivial, trivial, w_case⟩
end start1
theorem witness_1 : WitnessClaimed_1 := ⟨start1.p0, start1.e0, start1.about1, start1.theMethod, start1.args0, start1.below0, start1.atStart⟩
end Jvm.Pilot.@@N@@
