import JvmDerived
import JvmDerived.Pilot.@@N@@Statement
import JvmDerived.Pilot.@@N@@Code
set_option linter.unusedVariables false
set_option linter.unusedSimpArgs false
namespace Jvm.Pilot.@@N@@
open Jvm Jvm.ClassFile Sem Op Lib Jvm.Free Jvm.Stand Jvm.LawKit Jvm.RoadKit Bundle Jvm.Pilot.@@N@@.Jvm.D
section OwnKit
variable {p : Program} {l : Launch} {e : Env} {R : Room} {s : State} {m : MethodId} {args : Array Value} {below : List Frame} {meth : Method} {c : Code} {T : State} {locs : List Loc} {cells slots : Nat} {P : State → Outcome → Prop} {Z : State} {a0 : Array Value} {h : Heap} {pc : Nat} {Ls : Array Slot} {st : List Value}
def Goes (p : Program) (e : Env) (below : List Frame) (S : State) (P : State → Outcome → Prop) : Prop := ∃ (U : State) (o : Outcome), Steps p.tables e below S U ∧ U.status = .running ∧ Ended U below o ∧ P U o
def Endz (s : State) (kc ks : Nat) (Q : Option Value → Heap → List Loc → Prop) (U : State) (o : Outcome) : Prop := ∃ v L, o = .returned v ∧ Q v U.heap L ∧ FrameEnd s o U L kc ks
theorem go {S S' : State} (hs : ∀ t, Steps p.tables e below S' t → Steps p.tables e below S t) (k : Goes p e below S' P) : Goes p e below S P := by
  obtain ⟨U, o, k1, k2⟩ := k
  exact ⟨U, o, hs U k1, k2⟩
theorem goT {S S' : State} (hs : Steps p.tables e below S S') (k : Goes p e below S' P) : Goes p e below S P := by
  obtain ⟨U, o, k1, k2⟩ := k
  exact ⟨U, o, hs.trans k1, k2⟩
theorem own_cast {g g' : JFrame} (q : g = g') (k : Goes p e below (T.setTop g') P) : Goes p e below (T.setTop g) P := q ▸ k
abbrev OwnMet (l : Launch) (Z : State) (y : MethodName) (bytes : ByteArray) (maxL : Nat) (ret : Option FieldType) (ws : List Jvm.Cond) (rm : Room) (as' : Array Value) (h : Heap) (Q : Option Value → Heap → List Loc → Prop) : Prop := MetFree l y (head1 (Jvm.Cond.code y bytes maxL ret :: ws) rm) (fun a U => a = as' ∧ Z.Warmed39 U.vm ∧ U.heap = h) (fun _ _ _ _ _ => True) (fun _ U o U' => ∃ v L, o = .returned v ∧ Q v U'.heap L ∧ FrameEnd U o U' L rm.cells rm.slots)
theorem own_body {y : MethodName} {bytes : ByteArray} {maxL : Nat} {ret : Option FieldType} {ws : List Jvm.Cond} {rm : Room} {as' : Array Value} {Q : Option Value → Heap → List Loc → Prop} (hpn : plainFor y = true)
    (B : ∀ (p : Program) (e : Env) (s : State) (m : MethodId) (below : List Frame) (meth : Method) (c : Code) (s₁ : State), p.tables.exec = Jvm.exec → c.code = bytes → c.maxLocals = maxL → s.vm.findClass y.cls = some m.cls → meth.name = y.name → meth.sig.returnType = ret → meth.locks = false → Z.Warmed39 s.vm → Stand p l e rm s m as' below meth c s₁ [] 0 0 → s₁.heap = h → Goes p e below (s₁.setTop (entryFrame m as' maxL)) (Endz s rm.cells rm.slots Q)) : OwnMet l Z y bytes maxL ret ws rm as' h Q := by
  refine MetFree.of_bodySF hpn hisR ?_
  intro p e s m args below meth c s₁ Bd hml0 hP hK
  obtain ⟨rfl, hZ, hh⟩ := hP
  exact B p e s m below meth c s₁ Bd.exec Bd.bytes hml0 (findClass_of_methodNamed Bd.named) (name_of_methodNamed Bd.named Bd.method).1 Bd.returns (BodyLoose.notSynchronized Bd) hZ (Stand.of_body Bd) (by rw [← hh, Bd.state]; rfl)
theorem g_ret {w : Value} {t : FieldType} {i : Instr} {kc ks : Nat} {Q : Option Value → Heap → List Loc → Prop} (X : Stand p l e R s m args below meth c T locs cells slots) (hx : p.tables.exec = Jvm.exec) (hret : meth.sig.returnType = some t) (hlk : meth.locks = false) (hn : narrow t w = w)
    (hi : (i = .ireturn ∧ (t = .int ∨ t = .boolean ∨ t = .byte ∨ t = .char ∨ t = .short) ∧ ∃ z, w = .int z) ∨ (i = .lreturn ∧ t = .long ∧ ∃ z, w = .long z) ∨ (i = .dreturn ∧ t = .double ∧ ∃ z, w = .double z) ∨ (i = .freturn ∧ t = .float ∧ ∃ z, w = .float z) ∨ (i = .areturn ∧ t.isReference = true ∧ w.isRef = true))
    (hd : decode c.code pc = .ok (i, 1)) (hQ : Q (some w) T.heap locs) (hc : cells ≤ kc) (hs : slots ≤ ks) : Goes p e below (T.setTop (mkF m pc Ls (w :: st))) (Endz s kc ks Q) := by
  obtain ⟨fs, hr, hrun, hended, hW, hsame⟩ := X.leave (v := some w) (fun h => by rw [hret] at h; cases h) hlk
  exact ⟨_, _, retOut X hx hret hn hi hd hr, hrun, hended, _, _, rfl, hQ, ⟨_, rfl⟩, hW, hsame.mono hc hs⟩
theorem g_retI {z : Int32} {kc ks : Nat} {Q : Option Value → Heap → List Loc → Prop} (X : Stand p l e R s m args below meth c T locs cells slots) (hx : p.tables.exec = Jvm.exec) (hret : meth.sig.returnType = some .int) (hlk : meth.locks = false) (hd : decode c.code pc = .ok (.ireturn, 1)) (hQ : Q (some (.int z)) T.heap locs) (hc : cells ≤ kc) (hs : slots ≤ ks) : Goes p e below (T.setTop (mkF m pc Ls (.int z :: st))) (Endz s kc ks Q) :=
  g_ret X hx hret hlk rfl (Or.inl ⟨rfl, Or.inl rfl, z, rfl⟩) hd hQ hc hs
theorem g_retZ {z : Int32} {kc ks : Nat} {Q : Option Value → Heap → List Loc → Prop} (X : Stand p l e R s m args below meth c T locs cells slots) (hx : p.tables.exec = Jvm.exec) (hret : meth.sig.returnType = some .boolean) (hlk : meth.locks = false) (hn : narrow .boolean (.int z) = .int z) (hd : decode c.code pc = .ok (.ireturn, 1)) (hQ : Q (some (.int z)) T.heap locs) (hc : cells ≤ kc) (hs : slots ≤ ks) : Goes p e below (T.setTop (mkF m pc Ls (.int z :: st))) (Endz s kc ks Q) :=
  g_ret X hx hret hlk hn (Or.inl ⟨rfl, Or.inr (Or.inl rfl), z, rfl⟩) hd hQ hc hs
theorem g_retJ {z : Int64} {kc ks : Nat} {Q : Option Value → Heap → List Loc → Prop} (X : Stand p l e R s m args below meth c T locs cells slots) (hx : p.tables.exec = Jvm.exec) (hret : meth.sig.returnType = some .long) (hlk : meth.locks = false) (hd : decode c.code pc = .ok (.lreturn, 1)) (hQ : Q (some (.long z)) T.heap locs) (hc : cells ≤ kc) (hs : slots ≤ ks) : Goes p e below (T.setTop (mkF m pc Ls (.long z :: st))) (Endz s kc ks Q) :=
  g_ret X hx hret hlk rfl (Or.inr (Or.inl ⟨rfl, rfl, z, rfl⟩)) hd hQ hc hs
theorem g_retA {w : Value} {t : FieldType} {kc ks : Nat} {Q : Option Value → Heap → List Loc → Prop} (X : Stand p l e R s m args below meth c T locs cells slots) (hx : p.tables.exec = Jvm.exec) (hret : meth.sig.returnType = some t) (hlk : meth.locks = false) (hn : narrow t w = w) (ht : t.isReference = true) (hw : w.isRef = true) (hd : decode c.code pc = .ok (.areturn, 1)) (hQ : Q (some w) T.heap locs) (hc : cells ≤ kc) (hs : slots ≤ ks) : Goes p e below (T.setTop (mkF m pc Ls (w :: st))) (Endz s kc ks Q) :=
  g_ret X hx hret hlk hn (Or.inr (Or.inr (Or.inr (Or.inr ⟨rfl, ht, hw⟩)))) hd hQ hc hs
theorem g_ret0 {kc ks : Nat} {Q : Option Value → Heap → List Loc → Prop} (X : Stand p l e R s m args below meth c T locs cells slots) (hx : p.tables.exec = Jvm.exec) (hret : meth.sig.returnType = none) (hlk : meth.locks = false) (hd : decode c.code pc = .ok (.return_, 1)) (hQ : Q none T.heap locs) (hc : cells ≤ kc) (hs : slots ≤ ks) : Goes p e below (T.setTop (mkF m pc Ls [])) (Endz s kc ks Q) := by
  obtain ⟨fs, hr, hrun, hended, hW, hsame⟩ := X.leave (v := none) (fun _ => rfl) hlk
  exact ⟨_, _, X.returnOut hx hret hd hr, hrun, hended, _, _, rfl, hQ, ⟨_, rfl⟩, hW, hsame.mono hc hs⟩
theorem g_iadd (X : Stand p l e R s m args below meth c T locs cells slots) (hx : p.tables.exec = Jvm.exec) (pc' : Nat) (hpc : pc + 1 = pc') {x y : Int32} (hd : decode c.code pc = .ok (.iadd, 1))  (K : Goes p e below (T.setTop (mkF m pc' Ls (.int (x + y) :: st))) P) : Goes p e below (T.setTop (mkF m pc Ls (.int y :: .int x :: st))) P := by
  subst hpc; exact go (fun _ q => XS.iadd X.here hx rfl hd rfl q) K
theorem g_isub (X : Stand p l e R s m args below meth c T locs cells slots) (hx : p.tables.exec = Jvm.exec) (pc' : Nat) (hpc : pc + 1 = pc') {x y : Int32} (hd : decode c.code pc = .ok (.isub, 1))  (K : Goes p e below (T.setTop (mkF m pc' Ls (.int (x - y) :: st))) P) : Goes p e below (T.setTop (mkF m pc Ls (.int y :: .int x :: st))) P := by
  subst hpc; exact go (fun _ q => XS.isub X.here hx rfl hd rfl q) K
theorem g_imul (X : Stand p l e R s m args below meth c T locs cells slots) (hx : p.tables.exec = Jvm.exec) (pc' : Nat) (hpc : pc + 1 = pc') {x y : Int32} (hd : decode c.code pc = .ok (.imul, 1))  (K : Goes p e below (T.setTop (mkF m pc' Ls (.int (x * y) :: st))) P) : Goes p e below (T.setTop (mkF m pc Ls (.int y :: .int x :: st))) P := by
  subst hpc; exact go (fun _ q => XS.imul X.here hx rfl hd rfl q) K
theorem g_iand (X : Stand p l e R s m args below meth c T locs cells slots) (hx : p.tables.exec = Jvm.exec) (pc' : Nat) (hpc : pc + 1 = pc') {x y : Int32} (hd : decode c.code pc = .ok (.iand, 1))  (K : Goes p e below (T.setTop (mkF m pc' Ls (.int (x &&& y) :: st))) P) : Goes p e below (T.setTop (mkF m pc Ls (.int y :: .int x :: st))) P := by
  subst hpc; exact go (fun _ q => XS.iand X.here hx rfl hd rfl q) K
theorem g_ior (X : Stand p l e R s m args below meth c T locs cells slots) (hx : p.tables.exec = Jvm.exec) (pc' : Nat) (hpc : pc + 1 = pc') {x y : Int32} (hd : decode c.code pc = .ok (.ior, 1))  (K : Goes p e below (T.setTop (mkF m pc' Ls (.int (x ||| y) :: st))) P) : Goes p e below (T.setTop (mkF m pc Ls (.int y :: .int x :: st))) P := by
  subst hpc; exact go (fun _ q => XT.ior X.here hx rfl hd rfl q) K
theorem g_ixor (X : Stand p l e R s m args below meth c T locs cells slots) (hx : p.tables.exec = Jvm.exec) (pc' : Nat) (hpc : pc + 1 = pc') {x y : Int32} (hd : decode c.code pc = .ok (.ixor, 1))  (K : Goes p e below (T.setTop (mkF m pc' Ls (.int (x ^^^ y) :: st))) P) : Goes p e below (T.setTop (mkF m pc Ls (.int y :: .int x :: st))) P := by
  subst hpc; exact go (fun _ q => XT.ixor X.here hx rfl hd rfl q) K
theorem g_ishl (X : Stand p l e R s m args below meth c T locs cells slots) (hx : p.tables.exec = Jvm.exec) (pc' : Nat) (hpc : pc + 1 = pc') {x y : Int32} (hd : decode c.code pc = .ok (.ishl, 1))  (K : Goes p e below (T.setTop (mkF m pc' Ls (.int (x <<< (y &&& 31)) :: st))) P) : Goes p e below (T.setTop (mkF m pc Ls (.int y :: .int x :: st))) P := by
  subst hpc; exact go (fun _ q => XT.ishl X.here hx rfl hd rfl q) K
theorem g_ishr (X : Stand p l e R s m args below meth c T locs cells slots) (hx : p.tables.exec = Jvm.exec) (pc' : Nat) (hpc : pc + 1 = pc') {x y : Int32} (hd : decode c.code pc = .ok (.ishr, 1))  (K : Goes p e below (T.setTop (mkF m pc' Ls (.int (x >>> (y &&& 31)) :: st))) P) : Goes p e below (T.setTop (mkF m pc Ls (.int y :: .int x :: st))) P := by
  subst hpc; exact go (fun _ q => XT.ishr X.here hx rfl hd rfl q) K
theorem g_iushr (X : Stand p l e R s m args below meth c T locs cells slots) (hx : p.tables.exec = Jvm.exec) (pc' : Nat) (hpc : pc + 1 = pc') {x y : Int32} (hd : decode c.code pc = .ok (.iushr, 1))  (K : Goes p e below (T.setTop (mkF m pc' Ls (.int (XT.ushr x y) :: st))) P) : Goes p e below (T.setTop (mkF m pc Ls (.int y :: .int x :: st))) P := by
  subst hpc; exact go (fun _ q => XT.iushr X.here hx rfl hd rfl q) K
theorem g_idiv (X : Stand p l e R s m args below meth c T locs cells slots) (hx : p.tables.exec = Jvm.exec) (pc' : Nat) (hpc : pc + 1 = pc') {x y : Int32} (hd : decode c.code pc = .ok (.idiv, 1)) (hy : y ≠ 0) (K : Goes p e below (T.setTop (mkF m pc' Ls (.int (x / y) :: st))) P) : Goes p e below (T.setTop (mkF m pc Ls (.int y :: .int x :: st))) P := by
  subst hpc; exact go (fun _ q => XS.idiv X.here hx rfl hd rfl hy q) K
theorem g_irem (X : Stand p l e R s m args below meth c T locs cells slots) (hx : p.tables.exec = Jvm.exec) (pc' : Nat) (hpc : pc + 1 = pc') {x y : Int32} (hd : decode c.code pc = .ok (.irem, 1)) (hy : y ≠ 0) (K : Goes p e below (T.setTop (mkF m pc' Ls (.int (x % y) :: st))) P) : Goes p e below (T.setTop (mkF m pc Ls (.int y :: .int x :: st))) P := by
  subst hpc; exact go (fun _ q => iremM X hx rfl hd rfl hy q) K
theorem g_ineg (X : Stand p l e R s m args below meth c T locs cells slots) (hx : p.tables.exec = Jvm.exec) (pc' : Nat) (hpc : pc + 1 = pc') {x : Int32} (hd : decode c.code pc = .ok (.ineg, 1))  (K : Goes p e below (T.setTop (mkF m pc' Ls (.int (-x) :: st))) P) : Goes p e below (T.setTop (mkF m pc Ls (.int x :: st))) P := by
  subst hpc; exact go (fun _ q => XS.ineg X.here hx rfl hd rfl q) K
theorem g_ladd (X : Stand p l e R s m args below meth c T locs cells slots) (hx : p.tables.exec = Jvm.exec) (pc' : Nat) (hpc : pc + 1 = pc') {x y : Int64} (hd : decode c.code pc = .ok (.ladd, 1))  (K : Goes p e below (T.setTop (mkF m pc' Ls (.long (x + y) :: st))) P) : Goes p e below (T.setTop (mkF m pc Ls (.long y :: .long x :: st))) P := by
  subst hpc; exact go (fun _ q => XT.ladd X.here hx rfl hd rfl q) K
theorem g_lsub (X : Stand p l e R s m args below meth c T locs cells slots) (hx : p.tables.exec = Jvm.exec) (pc' : Nat) (hpc : pc + 1 = pc') {x y : Int64} (hd : decode c.code pc = .ok (.lsub, 1))  (K : Goes p e below (T.setTop (mkF m pc' Ls (.long (x - y) :: st))) P) : Goes p e below (T.setTop (mkF m pc Ls (.long y :: .long x :: st))) P := by
  subst hpc; exact go (fun _ q => XT.lsub X.here hx rfl hd rfl q) K
theorem g_lmul (X : Stand p l e R s m args below meth c T locs cells slots) (hx : p.tables.exec = Jvm.exec) (pc' : Nat) (hpc : pc + 1 = pc') {x y : Int64} (hd : decode c.code pc = .ok (.lmul, 1))  (K : Goes p e below (T.setTop (mkF m pc' Ls (.long (x * y) :: st))) P) : Goes p e below (T.setTop (mkF m pc Ls (.long y :: .long x :: st))) P := by
  subst hpc; exact go (fun _ q => XT.lmul X.here hx rfl hd rfl q) K
theorem g_land (X : Stand p l e R s m args below meth c T locs cells slots) (hx : p.tables.exec = Jvm.exec) (pc' : Nat) (hpc : pc + 1 = pc') {x y : Int64} (hd : decode c.code pc = .ok (.land, 1))  (K : Goes p e below (T.setTop (mkF m pc' Ls (.long (x &&& y) :: st))) P) : Goes p e below (T.setTop (mkF m pc Ls (.long y :: .long x :: st))) P := by
  subst hpc; exact go (fun _ q => XT.land X.here hx rfl hd rfl q) K
theorem g_lor (X : Stand p l e R s m args below meth c T locs cells slots) (hx : p.tables.exec = Jvm.exec) (pc' : Nat) (hpc : pc + 1 = pc') {x y : Int64} (hd : decode c.code pc = .ok (.lor, 1))  (K : Goes p e below (T.setTop (mkF m pc' Ls (.long (x ||| y) :: st))) P) : Goes p e below (T.setTop (mkF m pc Ls (.long y :: .long x :: st))) P := by
  subst hpc; exact go (fun _ q => XT.lor X.here hx rfl hd rfl q) K
theorem g_lxor (X : Stand p l e R s m args below meth c T locs cells slots) (hx : p.tables.exec = Jvm.exec) (pc' : Nat) (hpc : pc + 1 = pc') {x y : Int64} (hd : decode c.code pc = .ok (.lxor, 1))  (K : Goes p e below (T.setTop (mkF m pc' Ls (.long (x ^^^ y) :: st))) P) : Goes p e below (T.setTop (mkF m pc Ls (.long y :: .long x :: st))) P := by
  subst hpc; exact go (fun _ q => XT.lxor X.here hx rfl hd rfl q) K
theorem g_lshl (X : Stand p l e R s m args below meth c T locs cells slots) (hx : p.tables.exec = Jvm.exec) (pc' : Nat) (hpc : pc + 1 = pc') {x : Int64} {y : Int32} (hd : decode c.code pc = .ok (.lshl, 1))  (K : Goes p e below (T.setTop (mkF m pc' Ls (.long (x <<< (y.toInt64 &&& 63)) :: st))) P) : Goes p e below (T.setTop (mkF m pc Ls (.int y :: .long x :: st))) P := by
  subst hpc; exact go (fun _ q => XT.lshl X.here hx rfl hd rfl q) K
theorem g_lshr (X : Stand p l e R s m args below meth c T locs cells slots) (hx : p.tables.exec = Jvm.exec) (pc' : Nat) (hpc : pc + 1 = pc') {x : Int64} {y : Int32} (hd : decode c.code pc = .ok (.lshr, 1))  (K : Goes p e below (T.setTop (mkF m pc' Ls (.long (x >>> (y.toInt64 &&& 63)) :: st))) P) : Goes p e below (T.setTop (mkF m pc Ls (.int y :: .long x :: st))) P := by
  subst hpc; exact go (fun _ q => XT.lshr X.here hx rfl hd rfl q) K
theorem g_lushr (X : Stand p l e R s m args below meth c T locs cells slots) (hx : p.tables.exec = Jvm.exec) (pc' : Nat) (hpc : pc + 1 = pc') {x : Int64} {y : Int32} (hd : decode c.code pc = .ok (.lushr, 1))  (K : Goes p e below (T.setTop (mkF m pc' Ls (.long (XT.ushrL x y) :: st))) P) : Goes p e below (T.setTop (mkF m pc Ls (.int y :: .long x :: st))) P := by
  subst hpc; exact go (fun _ q => XT.lushr X.here hx rfl hd rfl q) K
theorem g_ldiv (X : Stand p l e R s m args below meth c T locs cells slots) (hx : p.tables.exec = Jvm.exec) (pc' : Nat) (hpc : pc + 1 = pc') {x y : Int64} (hd : decode c.code pc = .ok (.ldiv, 1)) (hy : y ≠ 0) (K : Goes p e below (T.setTop (mkF m pc' Ls (.long (x / y) :: st))) P) : Goes p e below (T.setTop (mkF m pc Ls (.long y :: .long x :: st))) P := by
  subst hpc; exact go (fun _ q => XT.ldiv X.here hx rfl hd rfl hy q) K
theorem g_lrem (X : Stand p l e R s m args below meth c T locs cells slots) (hx : p.tables.exec = Jvm.exec) (pc' : Nat) (hpc : pc + 1 = pc') {x y : Int64} (hd : decode c.code pc = .ok (.lrem, 1)) (hy : y ≠ 0) (K : Goes p e below (T.setTop (mkF m pc' Ls (.long (x % y) :: st))) P) : Goes p e below (T.setTop (mkF m pc Ls (.long y :: .long x :: st))) P := by
  subst hpc; exact go (fun _ q => XT.lrem X.here hx rfl hd rfl hy (by rw [lrem_mod]; exact q)) K
theorem g_lneg (X : Stand p l e R s m args below meth c T locs cells slots) (hx : p.tables.exec = Jvm.exec) (pc' : Nat) (hpc : pc + 1 = pc') {x : Int64} (hd : decode c.code pc = .ok (.lneg, 1))  (K : Goes p e below (T.setTop (mkF m pc' Ls (.long (-x) :: st))) P) : Goes p e below (T.setTop (mkF m pc Ls (.long x :: st))) P := by
  subst hpc; exact go (fun _ q => XT.lneg X.here hx rfl hd rfl q) K
theorem g_i2l (X : Stand p l e R s m args below meth c T locs cells slots) (hx : p.tables.exec = Jvm.exec) (pc' : Nat) (hpc : pc + 1 = pc') {x : Int32} (hd : decode c.code pc = .ok (.i2l, 1))  (K : Goes p e below (T.setTop (mkF m pc' Ls (.long x.toInt64 :: st))) P) : Goes p e below (T.setTop (mkF m pc Ls (.int x :: st))) P := by
  subst hpc; exact go (fun _ q => XT.i2l X.here hx rfl hd rfl q) K
theorem g_l2i (X : Stand p l e R s m args below meth c T locs cells slots) (hx : p.tables.exec = Jvm.exec) (pc' : Nat) (hpc : pc + 1 = pc') {x : Int64} (hd : decode c.code pc = .ok (.l2i, 1))  (K : Goes p e below (T.setTop (mkF m pc' Ls (.int x.toInt32 :: st))) P) : Goes p e below (T.setTop (mkF m pc Ls (.long x :: st))) P := by
  subst hpc; exact go (fun _ q => XT.l2i X.here hx rfl hd rfl q) K
theorem g_i2b (X : Stand p l e R s m args below meth c T locs cells slots) (hx : p.tables.exec = Jvm.exec) (pc' : Nat) (hpc : pc + 1 = pc') {x : Int32} (hd : decode c.code pc = .ok (.i2b, 1))  (K : Goes p e below (T.setTop (mkF m pc' Ls (.int x.toInt8.toInt32 :: st))) P) : Goes p e below (T.setTop (mkF m pc Ls (.int x :: st))) P := by
  subst hpc; exact go (fun _ q => XT.i2b X.here hx rfl hd rfl q) K
theorem g_i2c (X : Stand p l e R s m args below meth c T locs cells slots) (hx : p.tables.exec = Jvm.exec) (pc' : Nat) (hpc : pc + 1 = pc') {x : Int32} (hd : decode c.code pc = .ok (.i2c, 1))  (K : Goes p e below (T.setTop (mkF m pc' Ls (.int x.toUInt32.toUInt16.toUInt32.toInt32 :: st))) P) : Goes p e below (T.setTop (mkF m pc Ls (.int x :: st))) P := by
  subst hpc; exact go (fun _ q => XT.i2c X.here hx rfl hd rfl q) K
theorem g_i2s (X : Stand p l e R s m args below meth c T locs cells slots) (hx : p.tables.exec = Jvm.exec) (pc' : Nat) (hpc : pc + 1 = pc') {x : Int32} (hd : decode c.code pc = .ok (.i2s, 1))  (K : Goes p e below (T.setTop (mkF m pc' Ls (.int x.toInt16.toInt32 :: st))) P) : Goes p e below (T.setTop (mkF m pc Ls (.int x :: st))) P := by
  subst hpc; exact go (fun _ q => XT.i2s X.here hx rfl hd rfl q) K
theorem g_lcmp (X : Stand p l e R s m args below meth c T locs cells slots) (hx : p.tables.exec = Jvm.exec) (pc' : Nat) (hpc : pc + 1 = pc') {x y : Int64} (hd : decode c.code pc = .ok (.lcmp, 1))  (K : Goes p e below (T.setTop (mkF m pc' Ls (.int (XT.cmpL x y) :: st))) P) : Goes p e below (T.setTop (mkF m pc Ls (.long y :: .long x :: st))) P := by
  subst hpc; exact go (fun _ q => XT.lcmp X.here hx rfl hd rfl q) K
theorem g_dup (X : Stand p l e R s m args below meth c T locs cells slots) (hx : p.tables.exec = Jvm.exec) (pc' : Nat) (hpc : pc + 1 = pc') {x : Value} (hd : decode c.code pc = .ok (.dup, 1)) (hc : x.category = 1) (K : Goes p e below (T.setTop (mkF m pc' Ls (x :: x :: st))) P) : Goes p e below (T.setTop (mkF m pc Ls (x :: st))) P := by
  subst hpc; exact go (fun _ q => XS.dup X.here hx rfl hd rfl hc q) K
theorem g_pop (X : Stand p l e R s m args below meth c T locs cells slots) (hx : p.tables.exec = Jvm.exec) (pc' : Nat) (hpc : pc + 1 = pc') {x : Value} (hd : decode c.code pc = .ok (.pop, 1)) (hc : x.category = 1) (K : Goes p e below (T.setTop (mkF m pc' Ls (st))) P) : Goes p e below (T.setTop (mkF m pc Ls (x :: st))) P := by
  subst hpc; exact go (fun _ q => XT.pop X.here hx rfl hd rfl hc q) K
theorem g_dup_x1 (X : Stand p l e R s m args below meth c T locs cells slots) (hx : p.tables.exec = Jvm.exec) (pc' : Nat) (hpc : pc + 1 = pc') {x y : Value} (hd : decode c.code pc = .ok (.dup_x1, 1)) (hc : x.category = 1) (hc' : y.category = 1) (K : Goes p e below (T.setTop (mkF m pc' Ls (x :: y :: x :: st))) P) : Goes p e below (T.setTop (mkF m pc Ls (x :: y :: st))) P := by
  subst hpc; exact go (fun _ q => XT.dupX1 X.here hx rfl hd rfl hc hc' q) K
theorem g_dup2 (X : Stand p l e R s m args below meth c T locs cells slots) (hx : p.tables.exec = Jvm.exec) (pc' : Nat) (hpc : pc + 1 = pc') {x y : Value} (hd : decode c.code pc = .ok (.dup2, 1)) (hc : x.category = 1) (hc' : y.category = 1) (K : Goes p e below (T.setTop (mkF m pc' Ls (x :: y :: x :: y :: st))) P) : Goes p e below (T.setTop (mkF m pc Ls (x :: y :: st))) P := by
  subst hpc; exact go (fun _ q => XT.dup2 X.here hx rfl hd rfl hc hc' q) K
theorem g_dup2L (X : Stand p l e R s m args below meth c T locs cells slots) (hx : p.tables.exec = Jvm.exec) (pc' : Nat) (hpc : pc + 1 = pc') {x : Int64} (hd : decode c.code pc = .ok (.dup2, 1))  (K : Goes p e below (T.setTop (mkF m pc' Ls (.long x :: .long x :: st))) P) : Goes p e below (T.setTop (mkF m pc Ls (.long x :: st))) P := by
  subst hpc; exact go (fun _ q => XT.dup2L X.here hx rfl hd rfl q) K
theorem g_iconst (X : Stand p l e R s m args below meth c T locs cells slots) (hx : p.tables.exec = Jvm.exec) (pc' : Nat) (hpc : pc + 1 = pc') {i : Int} (v : Int32) (hv : Int32.ofInt i = v) (hd : decode c.code pc = .ok (.iconst i, 1))  (K : Goes p e below (T.setTop (mkF m pc' Ls (.int v :: st))) P) : Goes p e below (T.setTop (mkF m pc Ls (st))) P := by
  subst hpc; exact go (fun _ q => XS.iconst X.here hx rfl hd (by rw [hv]; exact q)) K
theorem g_bipush (X : Stand p l e R s m args below meth c T locs cells slots) (hx : p.tables.exec = Jvm.exec) (pc' : Nat) (hpc : pc + 2 = pc') {i : Int} (v : Int32) (hv : (Int8.ofInt i).toInt32 = v) (hd : decode c.code pc = .ok (.bipush i, 2))  (K : Goes p e below (T.setTop (mkF m pc' Ls (.int v :: st))) P) : Goes p e below (T.setTop (mkF m pc Ls (st))) P := by
  subst hpc; exact go (fun _ q => XS.bipush X.here hx rfl hd (by rw [hv]; exact q)) K
theorem g_sipush (X : Stand p l e R s m args below meth c T locs cells slots) (hx : p.tables.exec = Jvm.exec) (pc' : Nat) (hpc : pc + 3 = pc') {i : Int} (v : Int32) (hv : (Int16.ofInt i).toInt32 = v) (hd : decode c.code pc = .ok (.sipush i, 3))  (K : Goes p e below (T.setTop (mkF m pc' Ls (.int v :: st))) P) : Goes p e below (T.setTop (mkF m pc Ls (st))) P := by
  subst hpc; exact go (fun _ q => XS.sipush X.here hx rfl hd (by rw [hv]; exact q)) K
theorem g_lconst (X : Stand p l e R s m args below meth c T locs cells slots) (hx : p.tables.exec = Jvm.exec) (pc' : Nat) (hpc : pc + 1 = pc') {k : Fin 2} (v : Int64) (hv : Int64.ofNat k = v) (hd : decode c.code pc = .ok (.lconst k, 1))  (K : Goes p e below (T.setTop (mkF m pc' Ls (.long v :: st))) P) : Goes p e below (T.setTop (mkF m pc Ls (st))) P := by
  subst hpc; exact go (fun _ q => XT.lconst X.here hx rfl hd (by rw [hv]; exact q)) K
theorem g_aconst_null (X : Stand p l e R s m args below meth c T locs cells slots) (hx : p.tables.exec = Jvm.exec) (pc' : Nat) (hpc : pc + 1 = pc')  (hd : decode c.code pc = .ok (.aconst_null, 1))  (K : Goes p e below (T.setTop (mkF m pc' Ls (.null :: st))) P) : Goes p e below (T.setTop (mkF m pc Ls (st))) P := by
  subst hpc; exact go (fun _ q => XS.aconstNull X.here hx rfl hd q) K
theorem g_ldcI (X : Stand p l e R s m args below meth c T locs cells slots) (hx : p.tables.exec = Jvm.exec) (pc' : Nat) (hpc : pc + 2 = pc') {own : String} {index : Nat} {v : Int32} (hown : s.vm.findClass own = some m.cls) (hZ : Z.Warmed39 s.vm) (w : (Jvm.Cond.constant own index v).before a0 Z = true) (hd : decode c.code pc = .ok (.ldc index, 2))  (K : Goes p e below (T.setTop (mkF m pc' Ls (.int v :: st))) P) : Goes p e below (T.setTop (mkF m pc Ls (st))) P := by
  subst hpc; exact go (fun _ q => X.ldcInt hx hown (mvT hZ w) (g := mkF m pc Ls st) rfl hd _ q) K
theorem g_ldcJ (X : Stand p l e R s m args below meth c T locs cells slots) (hx : p.tables.exec = Jvm.exec) (pc' : Nat) (hpc : pc + 3 = pc') {own : String} {index : Nat} {v : Int64} (hown : s.vm.findClass own = some m.cls) (hZ : Z.Warmed39 s.vm) (w : (Jvm.Cond.constantLong own index v).before a0 Z = true) (hd : decode c.code pc = .ok (.ldc2_w index, 3))  (K : Goes p e below (T.setTop (mkF m pc' Ls (.long v :: st))) P) : Goes p e below (T.setTop (mkF m pc Ls (st))) P := by
  subst hpc; exact go (fun _ q => X.ldc2Long hx hown (mvT hZ w) (g := mkF m pc Ls st) rfl hd _ q) K
theorem g_iload_n (X : Stand p l e R s m args below meth c T locs cells slots) (hx : p.tables.exec = Jvm.exec) (pc' : Nat) (hpc : pc + 1 = pc') {k : Fin 4} {v : Int32} (hd : decode c.code pc = .ok (.iload_n k, 1)) (hl : Ls[k.val]? = some (.val (.int v))) (K : Goes p e below (T.setTop (mkF m pc' Ls (.int v :: st))) P) : Goes p e below (T.setTop (mkF m pc Ls (st))) P := by
  subst hpc; exact go (fun _ q => XS.iloadN X.here hx rfl hd hl q) K
theorem g_iload (X : Stand p l e R s m args below meth c T locs cells slots) (hx : p.tables.exec = Jvm.exec) (pc' : Nat) (hpc : pc + 2 = pc') {k : Nat} {v : Int32} (hd : decode c.code pc = .ok (.iload k, 2)) (hl : Ls[k]? = some (.val (.int v))) (K : Goes p e below (T.setTop (mkF m pc' Ls (.int v :: st))) P) : Goes p e below (T.setTop (mkF m pc Ls (st))) P := by
  subst hpc; exact go (fun _ q => XS.iload X.here hx rfl hd hl q) K
theorem g_lload_n (X : Stand p l e R s m args below meth c T locs cells slots) (hx : p.tables.exec = Jvm.exec) (pc' : Nat) (hpc : pc + 1 = pc') {k : Fin 4} {v : Int64} (hd : decode c.code pc = .ok (.lload_n k, 1)) (hl : Ls[k.val]? = some (.val (.long v))) (K : Goes p e below (T.setTop (mkF m pc' Ls (.long v :: st))) P) : Goes p e below (T.setTop (mkF m pc Ls (st))) P := by
  subst hpc; exact go (fun _ q => XT.lloadN X.here hx rfl hd hl q) K
theorem g_lload (X : Stand p l e R s m args below meth c T locs cells slots) (hx : p.tables.exec = Jvm.exec) (pc' : Nat) (hpc : pc + 2 = pc') {k : Nat} {v : Int64} (hd : decode c.code pc = .ok (.lload k, 2)) (hl : Ls[k]? = some (.val (.long v))) (K : Goes p e below (T.setTop (mkF m pc' Ls (.long v :: st))) P) : Goes p e below (T.setTop (mkF m pc Ls (st))) P := by
  subst hpc; exact go (fun _ q => XT.lload X.here hx rfl hd hl q) K
theorem g_aload_n (X : Stand p l e R s m args below meth c T locs cells slots) (hx : p.tables.exec = Jvm.exec) (pc' : Nat) (hpc : pc + 1 = pc') {k : Fin 4} {v : Value} (hd : decode c.code pc = .ok (.aload_n k, 1)) (hl : Ls[k.val]? = some (.val v)) (hv : v.isRef = true) (K : Goes p e below (T.setTop (mkF m pc' Ls (v :: st))) P) : Goes p e below (T.setTop (mkF m pc Ls (st))) P := by
  subst hpc; exact go (fun _ q => XS.aloadN X.here hx rfl hd hl hv q) K
theorem g_aload (X : Stand p l e R s m args below meth c T locs cells slots) (hx : p.tables.exec = Jvm.exec) (pc' : Nat) (hpc : pc + 2 = pc') {k : Nat} {v : Value} (hd : decode c.code pc = .ok (.aload k, 2)) (hl : Ls[k]? = some (.val v)) (hv : v.isRef = true) (K : Goes p e below (T.setTop (mkF m pc' Ls (v :: st))) P) : Goes p e below (T.setTop (mkF m pc Ls (st))) P := by
  subst hpc; exact go (fun _ q => XS.aload X.here hx rfl hd hl hv q) K
theorem g_istore_n (X : Stand p l e R s m args below meth c T locs cells slots) (hx : p.tables.exec = Jvm.exec) (pc' : Nat) (hpc : pc + 1 = pc') {k : Fin 4} {x : Int32} (hd : decode c.code pc = .ok (.istore_n k, 1))  (l' : Array Slot) (hl : storeLocals Ls k.val (.int x) = some l') (K : Goes p e below (T.setTop (mkF m pc' l' st)) P) : Goes p e below (T.setTop (mkF m pc Ls (.int x :: st))) P := by
  subst hpc; exact go (fun _ q => XS.istoreN X.here hx rfl hd rfl hl q) K
theorem g_istore (X : Stand p l e R s m args below meth c T locs cells slots) (hx : p.tables.exec = Jvm.exec) (pc' : Nat) (hpc : pc + 2 = pc') {k : Nat} {x : Int32} (hd : decode c.code pc = .ok (.istore k, 2))  (l' : Array Slot) (hl : storeLocals Ls k (.int x) = some l') (K : Goes p e below (T.setTop (mkF m pc' l' st)) P) : Goes p e below (T.setTop (mkF m pc Ls (.int x :: st))) P := by
  subst hpc; exact go (fun _ q => XS.istore X.here hx rfl hd rfl hl q) K
theorem g_lstore_n (X : Stand p l e R s m args below meth c T locs cells slots) (hx : p.tables.exec = Jvm.exec) (pc' : Nat) (hpc : pc + 1 = pc') {k : Fin 4} {x : Int64} (hd : decode c.code pc = .ok (.lstore_n k, 1))  (l' : Array Slot) (hl : storeLocals Ls k.val (.long x) = some l') (K : Goes p e below (T.setTop (mkF m pc' l' st)) P) : Goes p e below (T.setTop (mkF m pc Ls (.long x :: st))) P := by
  subst hpc; exact go (fun _ q => XT.lstoreN X.here hx rfl hd rfl hl q) K
theorem g_lstore (X : Stand p l e R s m args below meth c T locs cells slots) (hx : p.tables.exec = Jvm.exec) (pc' : Nat) (hpc : pc + 2 = pc') {k : Nat} {x : Int64} (hd : decode c.code pc = .ok (.lstore k, 2))  (l' : Array Slot) (hl : storeLocals Ls k (.long x) = some l') (K : Goes p e below (T.setTop (mkF m pc' l' st)) P) : Goes p e below (T.setTop (mkF m pc Ls (.long x :: st))) P := by
  subst hpc; exact go (fun _ q => XT.lstore X.here hx rfl hd rfl hl q) K
theorem g_astore_n (X : Stand p l e R s m args below meth c T locs cells slots) (hx : p.tables.exec = Jvm.exec) (pc' : Nat) (hpc : pc + 1 = pc') {k : Fin 4} {x : Value} (hd : decode c.code pc = .ok (.astore_n k, 1)) (hv : x.isRef = true) (l' : Array Slot) (hl : storeLocals Ls k.val x = some l') (K : Goes p e below (T.setTop (mkF m pc' l' st)) P) : Goes p e below (T.setTop (mkF m pc Ls (x :: st))) P := by
  subst hpc; exact go (fun _ q => XS.astoreN X.here hx rfl hd rfl hv hl q) K
theorem g_astore (X : Stand p l e R s m args below meth c T locs cells slots) (hx : p.tables.exec = Jvm.exec) (pc' : Nat) (hpc : pc + 2 = pc') {k : Nat} {x : Value} (hd : decode c.code pc = .ok (.astore k, 2)) (hv : x.isRef = true) (l' : Array Slot) (hl : storeLocals Ls k x = some l') (K : Goes p e below (T.setTop (mkF m pc' l' st)) P) : Goes p e below (T.setTop (mkF m pc Ls (x :: st))) P := by
  subst hpc; exact go (fun _ q => XS.astore X.here hx rfl hd rfl hv hl q) K
theorem g_iinc (X : Stand p l e R s m args below meth c T locs cells slots) (hx : p.tables.exec = Jvm.exec) (pc' : Nat) (hpc : pc + 3 = pc') {k : Nat} {cst : Int} {x : Int32} (hd : decode c.code pc = .ok (.iinc k cst, 3)) (v : Int32) (hv : x + Int32.ofInt cst = v) (hl : Ls[k]? = some (.val (.int x))) (l' : Array Slot) (hl' : storeLocals Ls k (.int v) = some l') (K : Goes p e below (T.setTop (mkF m pc' l' st)) P) : Goes p e below (T.setTop (mkF m pc Ls st)) P := by
  subst hpc; subst hv; exact go (fun _ q => XS.iinc X.here hx rfl hd hl hl' q) K
theorem g_goto (X : Stand p l e R s m args below meth c T locs cells slots) (hx : p.tables.exec = Jvm.exec) (pc' : Nat) {o : Int} (hd : decode c.code pc = .ok (.goto o, 3)) (ho : 0 ≤ (pc : Int) + o) (hp : ((pc : Int) + o).toNat = pc') (K : Goes p e below (T.setTop (mkF m pc' Ls st)) P) : Goes p e below (T.setTop (mkF m pc Ls st)) P :=
  go (fun _ q => XS.goto X.here hx rfl rfl hd ho hp q) K
theorem g_ifY (X : Stand p l e R s m args below meth c T locs cells slots) (hx : p.tables.exec = Jvm.exec) (pc' : Nat) {o : Int} {cd : ClassFile.Cond} {x : Int32} (hd : decode c.code pc = .ok (.ifCond cd o, 3)) (hc : ifCond.holds cd x = true) (ho : 0 ≤ (pc : Int) + o) (hp : ((pc : Int) + o).toNat = pc') (K : Goes p e below (T.setTop (mkF m pc' Ls st)) P) : Goes p e below (T.setTop (mkF m pc Ls (.int x :: st))) P :=
  go (fun _ q => XS.ifYes X.here hx rfl rfl hd rfl hc ho hp q) K
theorem g_ifN (X : Stand p l e R s m args below meth c T locs cells slots) (hx : p.tables.exec = Jvm.exec) (pc' : Nat) (hpc : pc + 3 = pc') {o : Int} {cd : ClassFile.Cond} {x : Int32} (hd : decode c.code pc = .ok (.ifCond cd o, 3)) (hc : ifCond.holds cd x = false) (K : Goes p e below (T.setTop (mkF m pc' Ls st)) P) : Goes p e below (T.setTop (mkF m pc Ls (.int x :: st))) P := by
  subst hpc; exact go (fun _ q => XS.ifNo X.here hx rfl hd rfl hc q) K
theorem g_icmpY (X : Stand p l e R s m args below meth c T locs cells slots) (hx : p.tables.exec = Jvm.exec) (pc' : Nat) {o : Int} {cd : ClassFile.Cond} {x y : Int32} (hd : decode c.code pc = .ok (.if_icmp cd o, 3)) (hc : if_icmp.holds cd x y = true) (ho : 0 ≤ (pc : Int) + o) (hp : ((pc : Int) + o).toNat = pc') (K : Goes p e below (T.setTop (mkF m pc' Ls st)) P) : Goes p e below (T.setTop (mkF m pc Ls (.int y :: .int x :: st))) P :=
  go (fun _ q => XS.icmpYes X.here hx rfl rfl hd rfl hc ho hp q) K
theorem g_icmpN (X : Stand p l e R s m args below meth c T locs cells slots) (hx : p.tables.exec = Jvm.exec) (pc' : Nat) (hpc : pc + 3 = pc') {o : Int} {cd : ClassFile.Cond} {x y : Int32} (hd : decode c.code pc = .ok (.if_icmp cd o, 3)) (hc : if_icmp.holds cd x y = false) (K : Goes p e below (T.setTop (mkF m pc' Ls st)) P) : Goes p e below (T.setTop (mkF m pc Ls (.int y :: .int x :: st))) P := by
  subst hpc; exact go (fun _ q => XS.icmpNo X.here hx rfl hd rfl hc q) K
theorem g_acmpY (X : Stand p l e R s m args below meth c T locs cells slots) (hx : p.tables.exec = Jvm.exec) (pc' : Nat) {o : Int} {cd : ClassFile.ACond} {x y : Value} (hd : decode c.code pc = .ok (.if_acmp cd o, 3)) (h1 : x.isRef = true) (h2 : y.isRef = true) (hc : XT.acmp cd x y = true) (ho : 0 ≤ (pc : Int) + o) (hp : ((pc : Int) + o).toNat = pc') (K : Goes p e below (T.setTop (mkF m pc' Ls st)) P) : Goes p e below (T.setTop (mkF m pc Ls (y :: x :: st))) P :=
  go (fun _ q => XT.acmpYes X.here hx rfl rfl hd rfl h1 h2 hc ho hp q) K
theorem g_acmpN (X : Stand p l e R s m args below meth c T locs cells slots) (hx : p.tables.exec = Jvm.exec) (pc' : Nat) (hpc : pc + 3 = pc') {o : Int} {cd : ClassFile.ACond} {x y : Value} (hd : decode c.code pc = .ok (.if_acmp cd o, 3)) (h1 : x.isRef = true) (h2 : y.isRef = true) (hc : XT.acmp cd x y = false) (K : Goes p e below (T.setTop (mkF m pc' Ls st)) P) : Goes p e below (T.setTop (mkF m pc Ls (y :: x :: st))) P := by
  subst hpc; exact go (fun _ q => XT.acmpNo X.here hx rfl hd rfl h1 h2 hc q) K
theorem g_ifnonnullY (X : Stand p l e R s m args below meth c T locs cells slots) (hx : p.tables.exec = Jvm.exec) (pc' : Nat) {o : Int} {b : Addr} (hd : decode c.code pc = .ok (.ifnonnull o, 3)) (ho : 0 ≤ (pc : Int) + o) (hp : ((pc : Int) + o).toNat = pc') (K : Goes p e below (T.setTop (mkF m pc' Ls st)) P) : Goes p e below (T.setTop (mkF m pc Ls (.ref b :: st))) P :=
  go (fun _ q => XT.ifnonnullYes X.here hx rfl rfl hd rfl ho hp q) K
theorem g_ifnonnullN (X : Stand p l e R s m args below meth c T locs cells slots) (hx : p.tables.exec = Jvm.exec) (pc' : Nat) (hpc : pc + 3 = pc') {o : Int} (hd : decode c.code pc = .ok (.ifnonnull o, 3)) (K : Goes p e below (T.setTop (mkF m pc' Ls st)) P) : Goes p e below (T.setTop (mkF m pc Ls (.null :: st))) P := by
  subst hpc; exact go (fun _ q => XT.ifnonnullNo X.here hx rfl hd rfl q) K
def b2i (b : Bool) : Int32 := if b then 1 else 0
theorem b2i_nar (b : Bool) : narrow .boolean (.int (b2i b)) = .int (b2i b) := by cases b <;> rfl
theorem bb_eq_t {b : Bool} (q : ¬ b = true) : ifCond.holds .eq (b2i b) = true := by cases b <;> first | rfl | exact absurd rfl q
theorem bb_eq_f {b : Bool} (q : b = true) : ifCond.holds .eq (b2i b) = false := by subst q; rfl
theorem bb_ne_t {b : Bool} (q : b = true) : ifCond.holds .ne (b2i b) = true := by subst q; rfl
theorem bb_ne_f {b : Bool} (q : ¬ b = true) : ifCond.holds .ne (b2i b) = false := by cases b <;> first | rfl | exact absurd rfl q
theorem b2_eq_t {a b : Bool} (q : a = b) : if_icmp.holds .eq (b2i a) (b2i b) = true := by subst q; cases a <;> rfl
theorem b2_eq_f {a b : Bool} (q : ¬ a = b) : if_icmp.holds .eq (b2i a) (b2i b) = false := by cases a <;> cases b <;> first | rfl | exact absurd rfl q
theorem b2_ne_t {a b : Bool} (q : ¬ a = b) : if_icmp.holds .ne (b2i a) (b2i b) = true := by cases a <;> cases b <;> first | rfl | exact absurd rfl q
theorem b2_ne_f {a b : Bool} (q : a = b) : if_icmp.holds .ne (b2i a) (b2i b) = false := by subst q; cases a <;> rfl
theorem g_getF (X : Stand p l e R s m args below meth c T locs cells slots) (hx : p.tables.exec = Jvm.exec) (hZ : Z.Warmed39 s.vm) (pc' : Nat) (hpc : pc + 3 = pc') {own O n d : String} {index : Nat} (hown : s.vm.findClass own = some m.cls) (w : (Jvm.Cond.fieldLink own index O n d).before a0 Z = true) (eT : T.heap = h) {a : Addr} {v : Value} (F : Fld Z h a O n d v) (hd : decode c.code pc = .ok (.getfield index, 3)) (K : ∀ T', Stand p l e R s m args below meth c T' locs cells slots → T'.heap = h → Goes p e below (T'.setTop (mkF m pc' Ls (v :: st))) P) : Goes p e below (T.setTop (mkF m pc Ls (.ref a :: st))) P := by
  subst hpc
  obtain ⟨T', X', e', st'⟩ := getF X hx hZ hown (host := "") (Or.inl w) Via.refl eT F (g := mkF m pc Ls (.ref a :: st)) rfl rfl hd
  exact go st' (K T' X' e')
theorem g_putF (X : Stand p l e R s m args below meth c T locs cells slots) (hx : p.tables.exec = Jvm.exec) (hZ : Z.Warmed39 s.vm) (pc' : Nat) (hpc : pc + 3 = pc') {own O n d C : String} {index kk : Nat} {ty : FieldType} (hown : s.vm.findClass own = some m.cls) (w : (Jvm.Cond.fieldLink own index O n d).before a0 Z = true) (eT : T.heap = h) {a : Addr} {v old : Value} (F : Fld Z h a O n d old) (E : Exa Z h a C) (L : (Jvm.Cond.lays C O n d).before a0 Z = true ∨ ((Jvm.Cond.laysFinal C O n d).before a0 Z = true ∧ own = O ∧ meth.name = "<init>")) (wi : (Jvm.Cond.instantiable C kk).before a0 Z = true) (hty : parseFieldDescriptor d = some ty) (hn : narrow ty v = v) (hf : fits ty v = true) (hd : decode c.code pc = .ok (.putfield index, 3)) (K : ∀ T' h', Stand p l e R s m args below meth c T' (locs ++ [⟨a, Jvm.RoadKit.slotOf Z O n d⟩]) cells slots → T'.heap = h' → Wr h h' a (Jvm.RoadKit.slotOf Z O n d) v → Goes p e below (T'.setTop (mkF m pc' Ls st)) P) : Goes p e below (T.setTop (mkF m pc Ls (v :: .ref a :: st))) P := by
  subst hpc
  obtain ⟨T', h', X', e', W', st'⟩ := putF X hx hZ hown (host := "") (Or.inl w) Via.refl eT F E L wi hty hn hf (g := mkF m pc Ls (v :: .ref a :: st)) rfl rfl hd
  exact go st' (K T' h' X' e' W')
theorem g_getS (X : Stand p l e R s m args below meth c T locs cells slots) (hx : p.tables.exec = Jvm.exec) (hZ : Z.Warmed39 s.vm) (pc' : Nat) (hpc : pc + 3 = pc') {own O n d : String} {index : Nat} (hown : s.vm.findClass own = some m.cls) (w : (Jvm.Cond.fieldLink own index O n d).before a0 Z = true) (eT : T.heap = h) {v : Value} (F : Sta Z h O n d v) (hd : decode c.code pc = .ok (.getstatic index, 3)) (K : ∀ T', Stand p l e R s m args below meth c T' locs cells slots → T'.heap = h → Goes p e below (T'.setTop (mkF m pc' Ls (v :: st))) P) : Goes p e below (T.setTop (mkF m pc Ls st)) P := by
  subst hpc
  obtain ⟨T', X', e', st'⟩ := getS (host := "") X hx hZ hown w Via.refl eT F (g := mkF m pc Ls st) rfl hd
  exact go st' (K T' X' e')
theorem g_new (X : Stand p l e R s m args below meth c T locs cells slots) (hx : p.tables.exec = Jvm.exec) (hZ : Z.Warmed39 s.vm) (pc' : Nat) (hpc : pc + 3 = pc') {own C : String} {index n : Nat} (hown : s.vm.findClass own = some m.cls) (w : (Jvm.Cond.classLink own index C).before a0 Z = true) (wi : (Jvm.Cond.instantiable C n).before a0 Z = true) (wz : (Jvm.Cond.initialized C).before a0 Z = true) (eT : T.heap = h) (hd : decode c.code pc = .ok (.new index, 3)) (hc : cells + 1 ≤ R.cells) (hl : slots + n ≤ R.slots) (K : ∀ T' h' a, a = h.size → Stand p l e R s m args below meth c T' locs (cells + 1) (slots + n) → T'.heap = h' → Ext h h' → Exa Z h' a C → (∀ {O nm d : String} {ty : FieldType}, Laid Z a0 C O nm d → parseFieldDescriptor d = some ty → Fld Z h' a O nm d (defaultValue ty)) → Goes p e below (T'.setTop (mkF m pc' Ls (.ref a :: st))) P) : Goes p e below (T.setTop (mkF m pc Ls st)) P := by
  subst hpc
  obtain ⟨T', h', X', e', E', A', D', -, st'⟩ := newO X hx hZ hown w wi wz eT (g := mkF m pc Ls st) rfl hd hc hl
  exact go st' (K T' h' _ rfl X' e' E' A' D')
theorem g_initO (X : Stand p l e R s m args below meth c T locs cells slots) (hx : p.tables.exec = Jvm.exec) (hZ : Z.Warmed39 s.vm) (pc' : Nat) (hpc : pc + 3 = pc') {own : String} {idx : Nat} (hown : s.vm.findClass own = some m.cls) (w1 : (Jvm.Cond.methodLink own idx Lib.objectInit).before a0 Z = true) (w2 : (Jvm.Cond.instanceMethod Lib.objectInit).before a0 Z = true) (w3 : (Jvm.Cond.code Lib.objectInit ⟨#[0xb1]⟩ 1 none).before a0 Z = true) (eT : T.heap = h) (hsize : Ls.size = c.maxLocals) {a : Addr} (hd : decode c.code pc = .ok (.invokespecial idx, 3)) (hf : 1 ≤ R.frames) (W : Nat) (hW : 2 * 0 + (st.map fun v => v.category).sum ≤ W) (hl : W + 12 ≤ R.locals) (K : ∀ T', Stand p l e R s m args below meth c T' locs cells slots → T'.heap = h → Goes p e below (T'.setTop (mkF m pc' Ls st)) P) : Goes p e below (T.setTop (mkF m pc Ls (.ref a :: st))) P := by
  subst hpc
  obtain ⟨T', X', e', st'⟩ := initO X hx hZ hown w1 w2 w3 eT (g := mkF m pc Ls (.ref a :: st)) rfl hsize rfl hd hf hW hl
  exact go st' (K T' X' e')
theorem g_callS (X : Stand p l e R s m args below meth c T locs cells slots) (hx : p.tables.exec = Jvm.exec) (hZ : Z.Warmed39 s.vm) (pc' : Nat) (hpc : pc + 3 = pc') {own : String} {index : Nat} {y : MethodName} {bytes : ByteArray} {maxL : Nat} {ret : Option FieldType} {rm : Room} {Q : Option Value → Heap → List Loc → Prop} (hown : s.vm.findClass own = some m.cls) (w1 : (Jvm.Cond.methodLink own index y).before a0 Z = true) (w2 : (Jvm.Cond.static y).before a0 Z = true) (w3 : (Jvm.Cond.initialized y.cls).before a0 Z = true) (w4 : (Jvm.Cond.code y bytes maxL ret).before a0 Z = true) (hy : y.cls ≠ "java/lang/invoke/MethodHandle" ∧ y.cls ≠ "java/lang/invoke/VarHandle") (argsL rest : List Value) (hM : OwnMet l Z y bytes maxL ret [] rm argsL.toArray h Q) (eT : T.heap = h) (hlen : ∀ sig, parseMethodDescriptor y.desc = some sig → argsL.length = sig.parameters.length) (hst : st = argsL.reverse ++ rest) (hsize : Ls.size = c.maxLocals) (hd : decode c.code pc = .ok (.invokestatic index, 3)) (hf : rm.frames + 1 ≤ R.frames) (W : Nat) (hW : 2 * 0 + (rest.map fun v => v.category).sum ≤ W) (hl : W + (maxL + 11) + rm.locals ≤ R.locals) (hc : cells + rm.cells ≤ R.cells) (hs : slots + rm.slots ≤ R.slots) (K : ∀ v T' L', Stand p l e R s m args below meth c T' (locs ++ L') (cells + rm.cells) (slots + rm.slots) → Q v T'.heap L' → Goes p e below (T'.setTop (mkF m pc' Ls (v.toList ++ rest))) P) : Goes p e below (T.setTop (mkF m pc Ls st)) P := by
  subst hpc; subst hst
  obtain ⟨v, _, ⟨T', L', k', n'⟩, -, X', ⟨Lc, hQ, e1, e2, e3⟩, st'⟩ := Jvm.LawKit.callS X hx (y := y) hown (mvT hZ w1) (mvT hZ w2) (mvT hZ w3) (mvT hZ w4) hy (backOf (W := W) hM hZ w4 w3 hf hl) (g := mkF m pc Ls (argsL.reverse ++ rest)) rfl hsize (argsL := argsL) (rest := rest) hlen rfl hW hd (fun _ _ => ⟨rfl, eT, hc, hs⟩)
  dsimp only [Pt.U, Pt.locs, Pt.cells, Pt.slots] at X' e1 e2 e3 st' hQ
  subst e1 e2 e3
  exact go st' (K v T' Lc X' hQ)
theorem g_callI (X : Stand p l e R s m args below meth c T locs cells slots) (hx : p.tables.exec = Jvm.exec) (hZ : Z.Warmed39 s.vm) (pc' : Nat) (hpc : pc + 3 = pc') {own : String} {index : Nat} {y : MethodName} {bytes : ByteArray} {maxL : Nat} {rm : Room} {Q : Option Value → Heap → List Loc → Prop} (hy1 : y.name = "<init>") (hown : s.vm.findClass own = some m.cls) (w1 : (Jvm.Cond.methodLink own index y).before a0 Z = true) (w2 : (Jvm.Cond.instanceMethod y).before a0 Z = true) (w3 : (Jvm.Cond.initialized y.cls).before a0 Z = true) (w4 : (Jvm.Cond.code y bytes maxL none).before a0 Z = true) (hy : y.cls ≠ "java/lang/invoke/MethodHandle" ∧ y.cls ≠ "java/lang/invoke/VarHandle") (a : Addr) (argsL rest : List Value) (hM : OwnMet l Z y bytes maxL none [] rm (.ref a :: argsL).toArray h Q) (eT : T.heap = h) (hlen : ∀ sig, parseMethodDescriptor y.desc = some sig → argsL.length = sig.parameters.length) (hst : st = argsL.reverse ++ .ref a :: rest) (hsize : Ls.size = c.maxLocals) (hd : decode c.code pc = .ok (.invokespecial index, 3)) (hf : rm.frames + 1 ≤ R.frames) (W : Nat) (hW : 2 * 0 + (rest.map fun v => v.category).sum ≤ W) (hl : W + (maxL + 11) + rm.locals ≤ R.locals) (hc : cells + rm.cells ≤ R.cells) (hs : slots + rm.slots ≤ R.slots) (K : ∀ v T' L', Stand p l e R s m args below meth c T' (locs ++ L') (cells + rm.cells) (slots + rm.slots) → Q v T'.heap L' → Goes p e below (T'.setTop (mkF m pc' Ls (v.toList ++ rest))) P) : Goes p e below (T.setTop (mkF m pc Ls st)) P := by
  subst hpc; subst hst
  obtain ⟨v, _, ⟨T', L', k', n'⟩, -, X', ⟨Lc, hQ, e1, e2, e3⟩, st'⟩ := X.specialBack hx (y := y) hy1 hown (mvT hZ w1) (mvT hZ w2) (mvT hZ w4) hy (backOf (W := W) hM hZ w4 w3 hf hl) (g := mkF m pc Ls (argsL.reverse ++ .ref a :: rest)) rfl hsize (Steps.refl _) (a := a) (argsL := argsL) (rest := rest) hlen rfl hW hd (fun _ _ => ⟨rfl, eT, hc, hs⟩)
  dsimp only [Pt.U, Pt.locs, Pt.cells, Pt.slots] at X' e1 e2 e3 st' hQ
  subst e1 e2 e3
  exact goT st' (K v T' Lc X' hQ)
theorem g_callV (X : Stand p l e R s m args below meth c T locs cells slots) (hx : p.tables.exec = Jvm.exec) (hZ : Z.Warmed39 s.vm) (pc' : Nat) (hpc : pc + 3 = pc') {own C : String} {index : Nat} {y : MethodName} {bytes : ByteArray} {maxL : Nat} {ret : Option FieldType} {rm : Room} {Q : Option Value → Heap → List Loc → Prop} (hown : s.vm.findClass own = some m.cls) (w1 : (Jvm.Cond.methodLink own index y).before a0 Z = true) (w2 : (Jvm.Cond.declares y).before a0 Z = true) (w5 : (Jvm.Cond.selects C y y).before a0 Z = true) (w6 : (Jvm.Cond.instanceMethod y).before a0 Z = true) (w3 : (Jvm.Cond.initialized y.cls).before a0 Z = true) (w4 : (Jvm.Cond.code y bytes maxL ret).before a0 Z = true) (hy : y.cls ≠ "java/lang/invoke/MethodHandle" ∧ y.cls ≠ "java/lang/invoke/VarHandle") (a : Addr) (argsL rest : List Value) (hM : OwnMet l Z y bytes maxL ret [] rm (.ref a :: argsL).toArray h Q) (eT : T.heap = h) (Ex : Exa Z h a C) (hlen : ∀ sig, parseMethodDescriptor y.desc = some sig → argsL.length = sig.parameters.length) (hst : st = argsL.reverse ++ .ref a :: rest) (hsize : Ls.size = c.maxLocals) (hd : decode c.code pc = .ok (.invokevirtual index, 3)) (hf : rm.frames + 1 ≤ R.frames) (W : Nat) (hW : 2 * 0 + (rest.map fun v => v.category).sum ≤ W) (hl : W + (maxL + 11) + rm.locals ≤ R.locals) (hc : cells + rm.cells ≤ R.cells) (hs : slots + rm.slots ≤ R.slots) (K : ∀ v T' L', Stand p l e R s m args below meth c T' (locs ++ L') (cells + rm.cells) (slots + rm.slots) → Q v T'.heap L' → Goes p e below (T'.setTop (mkF m pc' Ls (v.toList ++ rest))) P) : Goes p e below (T.setTop (mkF m pc Ls st)) P := by
  subst hpc; subst hst
  obtain ⟨cq, kq, qa, qb, qc⟩ := isOf hZ eT Ex
  obtain ⟨v, _, ⟨T', L', k', n'⟩, -, X', ⟨Lc, hQ, e1, e2, e3⟩, st'⟩ := X.virtualBack hx (y := y) (z := y) hown (mvT hZ w1) (mvT hZ w2) (notFace_of_selects (args := #[]) (mvT hZ w5)) (mvT hZ w5) (mvT hZ w6) hy (backOf (W := W) hM hZ w4 w3 hf hl) qa qc (g := mkF m pc Ls (argsL.reverse ++ .ref a :: rest)) rfl hsize (Steps.refl _) (argsL := argsL) (rest := rest) hlen rfl hW hd (fun _ _ => ⟨rfl, eT, hc, hs⟩)
  dsimp only [Pt.U, Pt.locs, Pt.cells, Pt.slots] at X' e1 e2 e3 st' hQ
  subst e1 e2 e3
  exact goT st' (K v T' Lc X' hQ)
def Al (Z : State) (h : Heap) (a : Addr) (ty : FieldType) (vs : List Value) : Prop := ∃ c : Cell, Arr Z h a c ty ∧ c.slots.toList = vs ∧ vs.length < 2147483648
theorem Al.lt {a : Addr} {ty : FieldType} {vs : List Value} (F : Al Z h a ty vs) : a < h.size := by obtain ⟨c, A, -⟩ := F; exact A.lt
theorem Al.ext {h' : Heap} {a : Addr} {ty : FieldType} {vs : List Value} (F : Al Z h a ty vs) (E : Ext h h') : Al Z h' a ty vs := by obtain ⟨c, A, r⟩ := F; exact ⟨c, A.ext E, r⟩
theorem Al.other {h' : Heap} {a b : Addr} {sl : Nat} {v : Value} {ty : FieldType} {vs : List Value} (F : Al Z h b ty vs) (W : Wr h h' a sl v) (q : b ≠ a) : Al Z h' b ty vs := by obtain ⟨c, A, r⟩ := F; exact ⟨c, A.other W q, r⟩
theorem Al.keep {h' : Heap} {a : Addr} {ws : List Addr} {ty : FieldType} {vs : List Value} (F : Al Z h a ty vs) (K : Keep h h' ws) (q : a ∉ ws) : Al Z h' a ty vs := by obtain ⟨c, A, r⟩ := F; exact ⟨c, ⟨K.2.1 a c A.1 q, A.2⟩, r⟩
theorem Al.same {h' : Heap} {a : Addr} {i : Nat} {v : Value} {ty : FieldType} {vs : List Value} (F : Al Z h a ty vs) (W : Wr h h' a i v) : Al Z h' a ty (vs.set i v) := by
  obtain ⟨c, A, r1, r2⟩ := F
  exact ⟨_, A.same W, by rw [← r1]; simp [Cell.setSlot], by rw [List.length_set]; exact r2⟩
theorem own_ix {j : Int32} {i : Nat} (hj : j.toInt = (i : Int)) : j.toNatClampNeg = i ∧ ¬ j < 0 := by
  refine ⟨by simp only [Int32.toNatClampNeg]; omega, fun q => ?_⟩
  rw [Int32.lt_iff_toInt_lt] at q; simp only [Int32.reduceToInt] at q; omega
theorem Al.cell {a : Addr} {ty : FieldType} {vs : List Value} (F : Al Z h a ty vs) {j : Int32} {i : Nat} (hj : j.toInt = (i : Int)) (hi : i < vs.length) : ∃ c : Cell, Arr Z h a c ty ∧ c.slots.toList = vs ∧ ¬ (j < 0 ∨ c.slots.size ≤ j.toNatClampNeg) ∧ c.slots[j.toNatClampNeg]? = vs[i]? := by
  obtain ⟨c, A, r1, r2⟩ := F
  obtain ⟨q1, q2⟩ := own_ix hj
  have hs : c.slots.size = vs.length := by rw [← r1]; simp
  exact ⟨c, A, r1, fun q => q.elim q2 (by rw [q1, hs]; omega), by rw [q1, ← r1, Array.getElem?_toList]⟩
theorem g_alen (X : Stand p l e R s m args below meth c T locs cells slots) (hx : p.tables.exec = Jvm.exec) (hZ : Z.Warmed39 s.vm) (pc' : Nat) (hpc : pc + 1 = pc') (hd : decode c.code pc = .ok (.arraylength, 1)) (eT : T.heap = h) {a : Addr} {ty : FieldType} {vs : List Value} (A : Al Z h a ty vs) (n : Int32) (hn : Int32.ofNat vs.length = n) (K : Goes p e below (T.setTop (mkF m pc' Ls (.int n :: st))) P) : Goes p e below (T.setTop (mkF m pc Ls (.ref a :: st))) P := by
  subst hpc
  obtain ⟨c, A, r1, r2⟩ := A
  have hs : c.slots.size.toInt32 = n := by rw [← hn, ← r1]; simp
  exact go (fun _ q => X.arraylength hx (by rw [eT]; exact A.1) (State.isArrayOf_alike hZ.alike A.2.1) (g := mkF m pc Ls (.ref a :: st)) rfl rfl hd _ (by rw [hs]; exact q)) K
theorem g_iaload (X : Stand p l e R s m args below meth c T locs cells slots) (hx : p.tables.exec = Jvm.exec) (hZ : Z.Warmed39 s.vm) (pc' : Nat) (hpc : pc + 1 = pc') (hd : decode c.code pc = .ok (.iaload, 1)) (eT : T.heap = h) {a : Addr} {vs : List Value} (A : Al Z h a .int vs) {j : Int32} (i : Nat) (hj : j.toInt = (i : Int)) (v : Value) (hv : vs[i]? = some v) (K : Goes p e below (T.setTop (mkF m pc' Ls (v :: st))) P) : Goes p e below (T.setTop (mkF m pc Ls (.int j :: .ref a :: st))) P := by
  subst hpc
  obtain ⟨c, A, r1, r2, r3⟩ := A.cell hj (List.getElem?_eq_some_iff.mp hv).1
  exact go (fun _ q => X.iaload hx (by rw [eT]; exact A.1) (State.isArrayOf_alike hZ.alike A.2.1) A.2.2 r2 (r3.trans hv) (g := mkF m pc Ls (.int j :: .ref a :: st)) rfl rfl hd _ q) K
theorem g_laload (X : Stand p l e R s m args below meth c T locs cells slots) (hx : p.tables.exec = Jvm.exec) (hZ : Z.Warmed39 s.vm) (pc' : Nat) (hpc : pc + 1 = pc') (hd : decode c.code pc = .ok (.laload, 1)) (eT : T.heap = h) {a : Addr} {vs : List Value} (A : Al Z h a .long vs) {j : Int32} (i : Nat) (hj : j.toInt = (i : Int)) (v : Value) (hv : vs[i]? = some v) (K : Goes p e below (T.setTop (mkF m pc' Ls (v :: st))) P) : Goes p e below (T.setTop (mkF m pc Ls (.int j :: .ref a :: st))) P := by
  subst hpc
  obtain ⟨c, A, r1, r2, r3⟩ := A.cell hj (List.getElem?_eq_some_iff.mp hv).1
  exact go (fun _ q => X.laload hx (by rw [eT]; exact A.1) (State.isArrayOf_alike hZ.alike A.2.1) A.2.2 r2 (r3.trans hv) (g := mkF m pc Ls (.int j :: .ref a :: st)) rfl rfl hd _ q) K
theorem g_baload (X : Stand p l e R s m args below meth c T locs cells slots) (hx : p.tables.exec = Jvm.exec) (hZ : Z.Warmed39 s.vm) (pc' : Nat) (hpc : pc + 1 = pc') (hd : decode c.code pc = .ok (.baload, 1)) (eT : T.heap = h) {a : Addr} {vs : List Value} (A : Al Z h a .byte vs) {j : Int32} (i : Nat) (hj : j.toInt = (i : Int)) (v : Value) (hv : vs[i]? = some v) (K : Goes p e below (T.setTop (mkF m pc' Ls (v :: st))) P) : Goes p e below (T.setTop (mkF m pc Ls (.int j :: .ref a :: st))) P := by
  subst hpc
  obtain ⟨c, A, r1, r2, r3⟩ := A.cell hj (List.getElem?_eq_some_iff.mp hv).1
  exact go (fun _ q => X.baloadBytes hx (by rw [eT]; exact A.1) (State.isArrayOf_alike hZ.alike A.2.1) A.2.2 r2 (r3.trans hv) (g := mkF m pc Ls (.int j :: .ref a :: st)) rfl rfl hd _ q) K
theorem g_caload (X : Stand p l e R s m args below meth c T locs cells slots) (hx : p.tables.exec = Jvm.exec) (hZ : Z.Warmed39 s.vm) (pc' : Nat) (hpc : pc + 1 = pc') (hd : decode c.code pc = .ok (.caload, 1)) (eT : T.heap = h) {a : Addr} {vs : List Value} (A : Al Z h a .char vs) {j : Int32} (i : Nat) (hj : j.toInt = (i : Int)) (v : Value) (hv : vs[i]? = some v) (K : Goes p e below (T.setTop (mkF m pc' Ls (v :: st))) P) : Goes p e below (T.setTop (mkF m pc Ls (.int j :: .ref a :: st))) P := by
  subst hpc
  obtain ⟨c, A, r1, r2, r3⟩ := A.cell hj (List.getElem?_eq_some_iff.mp hv).1
  exact go (fun _ q => X.caload hx (by rw [eT]; exact A.1) (State.isArrayOf_alike hZ.alike A.2.1) A.2.2 r2 (r3.trans hv) (g := mkF m pc Ls (.int j :: .ref a :: st)) rfl rfl hd _ q) K
theorem g_iastore (X : Stand p l e R s m args below meth c T locs cells slots) (hx : p.tables.exec = Jvm.exec) (hZ : Z.Warmed39 s.vm) (pc' : Nat) (hpc : pc + 1 = pc') (hd : decode c.code pc = .ok (.iastore, 1)) (eT : T.heap = h) {a : Addr} {vs : List Value} (A : Al Z h a .int vs) {j : Int32} {x : Int32} (i : Nat) (hj : j.toInt = (i : Int)) (hi : i < vs.length) (K : ∀ T' h', Stand p l e R s m args below meth c T' (locs ++ [⟨a, i⟩]) cells slots → T'.heap = h' → Wr h h' a i (.int x) → Al Z h' a .int (vs.set i (.int x)) → Goes p e below (T'.setTop (mkF m pc' Ls st)) P) : Goes p e below (T.setTop (mkF m pc Ls (.int x :: .int j :: .ref a :: st))) P := by
  subst hpc
  obtain ⟨c, Ar, r1, r2, r3⟩ := A.cell hj hi
  obtain ⟨T', h', X', e', W', st'⟩ := stI X hx hZ eT Ar r2 (g := mkF m pc Ls (.int x :: .int j :: .ref a :: st)) rfl rfl hd
  rw [(own_ix hj).1] at X' W'
  exact go st' (K T' h' X' e' W' (A.same W'))
theorem g_lastore (X : Stand p l e R s m args below meth c T locs cells slots) (hx : p.tables.exec = Jvm.exec) (hZ : Z.Warmed39 s.vm) (pc' : Nat) (hpc : pc + 1 = pc') (hd : decode c.code pc = .ok (.lastore, 1)) (eT : T.heap = h) {a : Addr} {vs : List Value} (A : Al Z h a .long vs) {j : Int32} {x : Int64} (i : Nat) (hj : j.toInt = (i : Int)) (hi : i < vs.length) (K : ∀ T' h', Stand p l e R s m args below meth c T' (locs ++ [⟨a, i⟩]) cells slots → T'.heap = h' → Wr h h' a i (.long x) → Al Z h' a .long (vs.set i (.long x)) → Goes p e below (T'.setTop (mkF m pc' Ls st)) P) : Goes p e below (T.setTop (mkF m pc Ls (.long x :: .int j :: .ref a :: st))) P := by
  subst hpc
  obtain ⟨c, Ar, r1, r2, r3⟩ := A.cell hj hi
  obtain ⟨T', h', X', e', W', st'⟩ := stJ X hx hZ eT Ar r2 (g := mkF m pc Ls (.long x :: .int j :: .ref a :: st)) rfl rfl hd
  rw [(own_ix hj).1] at X' W'
  exact go st' (K T' h' X' e' W' (A.same W'))
theorem g_bastore (X : Stand p l e R s m args below meth c T locs cells slots) (hx : p.tables.exec = Jvm.exec) (hZ : Z.Warmed39 s.vm) (pc' : Nat) (hpc : pc + 1 = pc') (hd : decode c.code pc = .ok (.bastore, 1)) (eT : T.heap = h) {a : Addr} {vs : List Value} (A : Al Z h a .byte vs) {j : Int32} {x : Int32} (i : Nat) (hj : j.toInt = (i : Int)) (hi : i < vs.length) (K : ∀ T' h', Stand p l e R s m args below meth c T' (locs ++ [⟨a, i⟩]) cells slots → T'.heap = h' → Wr h h' a i (.int (nar .byte x)) → Al Z h' a .byte (vs.set i (.int (nar .byte x))) → Goes p e below (T'.setTop (mkF m pc' Ls st)) P) : Goes p e below (T.setTop (mkF m pc Ls (.int x :: .int j :: .ref a :: st))) P := by
  subst hpc
  obtain ⟨c, Ar, r1, r2, r3⟩ := A.cell hj hi
  obtain ⟨T', h', X', e', W', st'⟩ := stB X hx hZ eT Ar r2 (g := mkF m pc Ls (.int x :: .int j :: .ref a :: st)) rfl rfl hd
  rw [(own_ix hj).1] at X' W'
  exact go st' (K T' h' X' e' W' (A.same W'))
theorem g_castore (X : Stand p l e R s m args below meth c T locs cells slots) (hx : p.tables.exec = Jvm.exec) (hZ : Z.Warmed39 s.vm) (pc' : Nat) (hpc : pc + 1 = pc') (hd : decode c.code pc = .ok (.castore, 1)) (eT : T.heap = h) {a : Addr} {vs : List Value} (A : Al Z h a .char vs) {j : Int32} {x : Int32} (i : Nat) (hj : j.toInt = (i : Int)) (hi : i < vs.length) (K : ∀ T' h', Stand p l e R s m args below meth c T' (locs ++ [⟨a, i⟩]) cells slots → T'.heap = h' → Wr h h' a i (.int (nar .char x)) → Al Z h' a .char (vs.set i (.int (nar .char x))) → Goes p e below (T'.setTop (mkF m pc' Ls st)) P) : Goes p e below (T.setTop (mkF m pc Ls (.int x :: .int j :: .ref a :: st))) P := by
  subst hpc
  obtain ⟨c, Ar, r1, r2, r3⟩ := A.cell hj hi
  obtain ⟨T', h', X', e', W', st'⟩ := stC X hx hZ eT Ar r2 (g := mkF m pc Ls (.int x :: .int j :: .ref a :: st)) rfl rfl hd
  rw [(own_ix hj).1] at X' W'
  exact go st' (K T' h' X' e' W' (A.same W'))
theorem g_newarr (X : Stand p l e R s m args below meth c T locs cells slots) (hx : p.tables.exec = Jvm.exec) (hZ : Z.Warmed39 s.vm) (pc' : Nat) (hpc : pc + 2 = pc') {aty : ArrayType} (w : (Jvm.Cond.arrayClass (newarray.typeOf aty)).before a0 Z = true) (eT : T.heap = h) (hd : decode c.code pc = .ok (.newarray aty, 2)) {n : Int32} (k : Nat) (hn : n.toInt = (k : Int)) (cap : Nat) (hcap : k ≤ cap) (hb : cap * 8 ≤ 536870912) (hc : cells + 1 ≤ R.cells) (hl : slots + cap ≤ R.slots) (ad : String) (had : "[" ++ (newarray.typeOf aty).toString = ad) (K : ∀ T' h' a, a = h.size → Stand p l e R s m args below meth c T' locs (cells + 1) (slots + cap) → T'.heap = h' → Ext h h' → Al Z h' a (newarray.typeOf aty) (List.replicate k (defaultValue (newarray.typeOf aty))) → Exa Z h' a ad → Goes p e below (T'.setTop (mkF m pc' Ls (.ref a :: st))) P) : Goes p e below (T.setTop (mkF m pc Ls (.int n :: st))) P := by
  subst hpc
  obtain ⟨q1, q2⟩ := own_ix hn
  obtain ⟨T', h', cA, X', e', E', A', Ex', st'⟩ := newPE X hx hZ w eT (g := mkF m pc Ls (.int n :: st)) rfl hd rfl q2 (cap := cap) (by rw [q1]; exact hcap) hb hc hl had
  refine go st' (K T' h' _ rfl X' e' E' ⟨_, A', by simp [newA, q1], ?_⟩ Ex')
  rw [List.length_replicate]
  have := Int32.toInt_lt n
  omega
theorem own_narb (x : Int32) : nar .byte x.toInt8.toInt32 = x.toInt8.toInt32 := by show x.toInt8.toInt32.toInt8.toInt32 = _; simp
theorem g_cast (X : Stand p l e R s m args below meth c T locs cells slots) (hx : p.tables.exec = Jvm.exec) (hZ : Z.Warmed39 s.vm) (pc' : Nat) (hpc : pc + 3 = pc') {own K : String} {index : Nat} (hown : s.vm.findClass own = some m.cls) (w : (Jvm.Cond.classLink own index K).before a0 Z = true) (eT : T.heap = h) {a : Addr} (F : Ins Z h a K true) (hd : decode c.code pc = .ok (.checkcast index, 3)) (K2 : ∀ T', Stand p l e R s m args below meth c T' locs cells slots → T'.heap = h → Goes p e below (T'.setTop (mkF m pc' Ls (.ref a :: st))) P) : Goes p e below (T.setTop (mkF m pc Ls (.ref a :: st))) P := by
  subst hpc
  obtain ⟨T', X', e', st'⟩ := castY X hx hZ hown w eT F (g := mkF m pc Ls (.ref a :: st)) rfl rfl hd
  exact go st' (K2 T' X' e')
theorem own_fitc {a : Addr} {ty : FieldType} {vs : List Value} {c : Cell} (A : Arr Z h a c ty) (r : c.slots.toList = vs) (hfit : ∀ v ∈ vs, fits ty v = true) : FitC Z c := fitC_of A fun i hi v hv => hfit v (by rw [← r]; rw [← Array.getElem?_toList] at hv; exact List.mem_of_getElem? hv)
theorem g_clone (X : Stand p l e R s m args below meth c T locs cells slots) (hx : p.tables.exec = Jvm.exec) (hZ : Z.Warmed39 s.vm) (pc' : Nat) (hpc : pc + 3 = pc') {own ad : String} {index : Nat} (hown : s.vm.findClass own = some m.cls) (w1 : (Jvm.Cond.methodLink own index ⟨ad, "clone", "()Ljava/lang/Object;"⟩).before a0 Z = true) (w2 : (Jvm.Cond.sameMethod ad "java/lang/Object" "clone" "()Ljava/lang/Object;").before a0 Z = true) (w3 : (Jvm.Cond.native ⟨"java/lang/Object", "clone", "()Ljava/lang/Object;"⟩).before a0 Z = true) (w4 : (Jvm.Cond.instanceMethod ⟨"java/lang/Object", "clone", "()Ljava/lang/Object;"⟩).before a0 Z = true) (w5 : (Jvm.Cond.selects ad ⟨ad, "clone", "()Ljava/lang/Object;"⟩ ⟨"java/lang/Object", "clone", "()Ljava/lang/Object;"⟩).before a0 Z = true) (w6 : (Jvm.Cond.castable ad "java/lang/Cloneable").before a0 Z = true) (eT : T.heap = h) {a : Addr} {ty : FieldType} {vs : List Value} (A : Al Z h a ty vs) (Ex : Exa Z h a ad) (hfit : ∀ v ∈ vs, fits ty v = true) (hd : decode c.code pc = .ok (.invokevirtual index, 3)) (hsize : Ls.size = c.maxLocals) (hf : 1 ≤ R.frames) (W : Nat) (hW : 2 * 0 + (st.map fun v => v.category).sum ≤ W) (hl : W + 14 ≤ R.locals) (cap : Nat) (hcap : vs.length ≤ cap) (hc : cells + 1 ≤ R.cells) (hs : slots + cap ≤ R.slots) (K : ∀ T' h' b, b = h.size → Stand p l e R s m args below meth c T' locs (cells + 1) (slots + cap) → T'.heap = h' → Ext h h' → Al Z h' b ty vs → Exa Z h' b ad → Goes p e below (T'.setTop (mkF m pc' Ls (.ref b :: st))) P) : Goes p e below (T.setTop (mkF m pc Ls (.ref a :: st))) P := by
  subst hpc
  obtain ⟨c, Ar, r1, r2⟩ := A
  obtain ⟨T', h', X', e', E', A', Ex', st'⟩ := cloneA X hx hZ hown w1 w2 w3 w4 w5 w6 eT Ar Ex (own_fitc Ar r1 hfit) (g := mkF m pc Ls (.ref a :: st)) rfl hsize rfl hd hf hW hl (by rw [← r1] at hcap; simpa using hcap) hc hs
  exact go st' (K T' h' _ rfl X' e' E' ⟨_, A', r1, r2⟩ Ex')
theorem own_arv {a : Addr} {ty : FieldType} {vs : List Value} (d : Value) (A : Al Z h a ty vs) (hfit : ∀ v ∈ vs, fits ty v = true) : ∃ k, Arv Z h a k ty (Int32.ofNat vs.length) vs d := by
  obtain ⟨c, Ar, r1, r2⟩ := A
  have hs : c.slots.size = vs.length := by rw [← r1]; simp
  have h1 : (Int32.ofNat vs.length).toInt = (vs.length : Int) := Int32.toInt_ofNat_of_lt r2
  obtain ⟨q1, q2⟩ := own_ix h1
  have hv : ∀ i, i < c.slots.size → c.slots[i]? = some (vs.getD i d) := fun i hi => by
    rw [← Array.getElem?_toList, r1, List.getD_eq_getElem?_getD, List.getElem?_eq_getElem (by omega)]; rfl
  refine ⟨c.cls, c, Ar, rfl, by rw [hs, q1], q2, hv, fun i hi => hfit _ ?_⟩
  have := hv i hi
  rw [← Array.getElem?_toList, r1] at this
  exact List.mem_of_getElem? this
theorem own_al {a : Addr} {k : ClassId} {ty : FieldType} {z : Int32} {vs : List Value} {d : Value} (A : Arv Z h a k ty z vs d) (hl : vs.length = z.toNatClampNeg) : Al Z h a ty vs := by
  obtain ⟨c, Ar, -, S, M, H, -⟩ := A
  refine ⟨c, Ar, ?_, ?_⟩
  · apply List.ext_getElem?
    intro i
    rw [Array.getElem?_toList]
    by_cases hi : i < c.slots.size
    · rw [H i hi, List.getD_eq_getElem?_getD, List.getElem?_eq_getElem (by omega)]; rfl
    · rw [Array.getElem?_eq_none (by omega), List.getElem?_eq_none (by omega)]
  · have := (back32 M).2; omega
theorem g_acopy (X : Stand p l e R s m args below meth c T locs cells slots) (hx : p.tables.exec = Jvm.exec) (hZ : Z.Warmed39 s.vm) (pc' : Nat) (hpc : pc + 3 = pc') {own : String} {index : Nat} (hown : s.vm.findClass own = some m.cls) (w1 : (Jvm.Cond.methodLink own index Jvm.Stand.acN).before a0 Z = true) (w2 : (Jvm.Cond.native Jvm.Stand.acN).before a0 Z = true) (w3 : (Jvm.Cond.static Jvm.Stand.acN).before a0 Z = true) (w4 : (Jvm.Cond.initialized "java/lang/System").before a0 Z = true) (eT : T.heap = h) {a b : Addr} {ty : FieldType} {vs vd : List Value} (A : Al Z h a ty vs) (B : Al Z h b ty vd) (hp : refKind ty = false) (hfit : ∀ v ∈ vs, fits ty v = true) (hfit2 : ∀ v ∈ vd, fits ty v = true) {nn : Int32} (n : Nat) (hn : nn.toInt = (n : Int)) (h1 : n ≤ vs.length) (h2 : n ≤ vd.length) {n0 : Nat} (N : Fr n0 locs) (ge : n0 ≤ b) (hd : decode c.code pc = .ok (.invokestatic index, 3)) (hsize : Ls.size = c.maxLocals) (hf : 1 ≤ R.frames) (W : Nat) (hW : 2 * 0 + (st.map fun v => v.category).sum ≤ W) (hlo : W + (nativeFrameWords "java/lang/System" "arraycopy" 5 + 11) ≤ R.locals) (K : ∀ T' h' L, Stand p l e R s m args below meth c T' L cells slots → T'.heap = h' → Fr n0 L → Keep h h' [b] → Al Z h' b ty (vs.take n ++ vd.drop n) → Goes p e below (T'.setTop (mkF m pc' Ls st)) P) : Goes p e below (T.setTop (mkF m pc Ls (.int nn :: .int 0 :: .ref b :: .int 0 :: .ref a :: st))) P := by
  subst hpc
  obtain ⟨ka, Aa⟩ := own_arv (.int 0) A hfit
  obtain ⟨kb, Ab⟩ := own_arv (.int 0) B hfit2
  obtain ⟨q1, q2⟩ := own_ix hn
  have l1 : (Int32.ofNat vs.length).toNatClampNeg = vs.length := (own_ix (Int32.toInt_ofNat_of_lt A.choose_spec.2.2)).1
  have l2 : (Int32.ofNat vd.length).toNatClampNeg = vd.length := (own_ix (Int32.toInt_ofNat_of_lt B.choose_spec.2.2)).1
  have z0 : (0 : Int32).toNatClampNeg = 0 := rfl
  obtain ⟨T', h', L, X', e', N', K', A', st'⟩ := cpA X hx hZ hown w1 w2 w3 w4 eT Aa Ab (us := (List.range nn.toNatClampNeg).map fun i => vs.getD ((0 : Int32).toNatClampNeg + i) (.int 0)) (Or.inl ⟨rfl, hp⟩) (sp := 0) (dp := 0) (nn := nn) (by decide) (by decide) q2 (by rw [q1, l1, z0]; omega) (by rw [q1, l2, z0]; omega) rfl (by rw [q1, z0]; omega) N ge (g := mkF m pc Ls (.int nn :: .int 0 :: .ref b :: .int 0 :: .ref a :: st)) rfl hsize rfl hd hf hW hlo
  have hu : vd.take (0 : Int32).toNatClampNeg ++ ((List.range nn.toNatClampNeg).map fun i => vs.getD ((0 : Int32).toNatClampNeg + i) (.int 0)) ++ vd.drop ((0 : Int32).toNatClampNeg + nn.toNatClampNeg) = vs.take n ++ vd.drop n := by
    rw [z0, q1, List.take_zero, List.nil_append, Nat.zero_add]
    congr 1
    apply List.ext_getElem?
    intro i
    by_cases hi : i < n
    · rw [List.getElem?_take_of_lt hi, List.getElem?_map, List.getElem?_range hi, Option.map_some, Nat.zero_add, List.getD_eq_getElem?_getD, List.getElem?_eq_getElem (by omega)]; rfl
    · rw [List.getElem?_eq_none (by simp; omega), List.getElem?_eq_none (by simp; omega)]
  rw [hu] at A'
  exact go st' (K T' h' L X' e' N' K' (own_al A' (by rw [l2]; simp; omega)))
theorem own_eqI {args : Array Value} {first s : State} {o : Option Outcome} {idx : List Nat} {a : Term} {k : Int32} (q : (Jvm.Cond.eq a (Jvm.Term.int k)).value args first o s idx = some true) : a.eval args first o idx s = some (.int k) := by
  obtain ⟨x, y, h1, h2, h3, h4⟩ := cmp_v (Or.inl q)
  have h5 : y = .int k := (Option.some.inj ((Term.int_eval k).symm.trans h2)).symm
  subst h5
  obtain ⟨z, rfl⟩ := h4
  have h6 : z = k := gotT (Cond.eq_ints h1 h2) q
  rw [h1, h6]
theorem own_nar_ref {v : Value} {C : String} (q : v.isRef = true) : narrow (.object C) v = v := by cases v <;> simp [Value.isRef] at q <;> rfl
theorem own_fit_ref {v : Value} {C : String} (q : v.isRef = true) : fits (.object C) v = true := by cases v <;> simp [Value.isRef] at q <;> rfl
theorem own_sixteen (x : Int32) : x.toInt = (x.toBitVec.toNat : Int) ∨ x.toInt = (x.toBitVec.toNat : Int) - 4294967296 := by
  show x.toBitVec.toInt = _ ∨ x.toBitVec.toInt = _
  rw [BitVec.toInt_eq_toNat_cond]; split <;> omega
end OwnKit

def own_first (k : Int32) : Int32 := if k = 1 then 1 else if k = 2 then 1 else if k = 3 then 2 else 3
def own_reads (v k : Int32) : Bool := decide (¬ v < own_first k ∧ ¬ 4 < v)
theorem own_kind (k : Int32) : ((1 : Int32) + (k &&& (3 : Int32))).toInt = 1 + k.toInt % 4 := by
  have h1 := c_mask k 3 2 (by decide) (by decide)
  have h2 := c_iadd 1 (k &&& 3)
  have h3 := rng32 ((1 : Int32) + (k &&& 3))
  have e1 : (1 : Int32).toInt = 1 := rfl
  rw [e1, h1] at h2
  omega

theorem d2_0 : decode prog_5_method_2_code 0 = .ok (.getstatic 7, 3) := by decide +kernel
theorem d2_3 : decode prog_5_method_2_code 3 = .ok (.iload_n 0, 1) := by decide +kernel
theorem d2_4 : decode prog_5_method_2_code 4 = .ok (.iconst 1, 1) := by decide +kernel
theorem d2_5 : decode prog_5_method_2_code 5 = .ok (.isub, 1) := by decide +kernel
theorem d2_6 : decode prog_5_method_2_code 6 = .ok (.iaload, 1) := by decide +kernel
theorem d2_7 : decode prog_5_method_2_code 7 = .ok (.ireturn, 1) := by decide +kernel
theorem pn_0 : plainName "com/example/maybe_set/maybeset/FilterFormat" = true := by first | (simp [plainName, overriddenIn]; done) | decide +kernel
theorem ef_2_rmF (m : MethodId) (p1 : Int32) (b : Addr) (i : Nat)  : entryFrame m #[(.int p1)] 1 = mkF m 0 #[.val (.int p1)] [] := by first | (simp [entryFrame, mkF, argsToLocals, Value.category, maxLocals]; done) | rfl
def Q_rmF (Z : State) (p1 : Int32) (b : Addr) (i : Nat) (h0 : Heap) (n0 : Nat) (v : Option Value) (h : Heap) (L : List Loc) : Prop := v = some (.int (own_first p1)) ∧ Fr n0 L ∧ h = h0
set_option maxRecDepth 65536 in
set_option maxHeartbeats 40000000 in
theorem rmF (l : Launch) (Z : State) (a0 : Array Value) (hw : ∀ d ∈ tables_1, d.before a0 Z = true) (ws : List Jvm.Cond) (p1 : Int32) (b : Addr) (i : Nat) (h0 : Heap) (n0 : Nat) (Z0 : n0 ≤ h0.size) (S : Sta Z Z.heap "com/example/maybe_set/maybeset/FilterFormat" "FIRST_VERSIONS" "[I" (.ref b)) (Ab : Al Z h0 b .int [.int 1, .int 1, .int 2, .int 3]) (O : Old Z n0 h0) (hi : p1.toInt = 1 + (i : Int)) (hi4 : i < 4) :
    OwnMet l Z (⟨"com/example/maybe_set/maybeset/FilterFormat", "firstVersion", "(I)I"⟩ : MethodName) prog_5_method_2_code 1 (some .int) ws ({ frames := 0, cells := 0, slots := 0, locals := 0 } : Room) #[(.int p1)] h0 (Q_rmF Z p1 b i h0 n0) := by
  refine own_body (plainFor_of_name pn_0) ?_
  intro p e s m below meth c s₁ hx hby hml hown hnm hret hlk hZ X0 e0
  have N0 := Fr.nil n0
  refine own_cast (ef_2_rmF m p1 b i ) ?_
  refine g_getS X0 hx hZ 3 rfl hown (hw _ (List.mem_of_getElem? (i := 7) rfl)) e0 (S.ext O.2) (hb hby d2_0) ?_
  intro T1 X1 e1
  refine g_iload_n X1 hx 4 rfl (hb hby d2_3) rfl ?_
  refine g_iconst X1 hx 5 rfl (1 : Int32) rfl (hb hby d2_4) ?_
  refine g_isub X1 hx 6 rfl (hb hby d2_5) ?_
  have hj : (p1 - (1 : Int32)).toInt = (i : Int) := by have h1 := c_isub p1 1; have h2 := rng32 (p1 - 1); have e1 : (1 : Int32).toInt = 1 := rfl; rw [e1] at h1; omega
  have hv : ([.int 1, .int 1, .int 2, .int 3] : List Value)[i]? = some (.int (own_first p1)) := by
    have hp : p1 = Int32.ofNat (i + 1) := by apply Int32.toInt_inj.mp; rw [Int32.toInt_ofNat_of_lt (by omega)]; omega
    subst hp
    match i, hi4 with | 0, _ => rfl | 1, _ => rfl | 2, _ => rfl | 3, _ => rfl
  refine g_iaload X1 hx hZ 7 rfl (hb hby d2_6) e1 Ab i hj (.int (own_first p1)) hv ?_
  exact g_retI X1 hx hret hlk (hb hby d2_7) ⟨rfl, N0, e1⟩ (by decide) (by decide)
theorem d1_0 : decode prog_5_method_3_code 0 = .ok (.iload_n 0, 1) := by decide +kernel
theorem d1_1 : decode prog_5_method_3_code 1 = .ok (.iload_n 1, 1) := by decide +kernel
theorem d1_2 : decode prog_5_method_3_code 2 = .ok (.invokestatic 13, 3) := by decide +kernel
theorem d1_5 : decode prog_5_method_3_code 5 = .ok (.if_icmp .lt 12, 3) := by decide +kernel
theorem d1_8 : decode prog_5_method_3_code 8 = .ok (.iload_n 0, 1) := by decide +kernel
theorem d1_9 : decode prog_5_method_3_code 9 = .ok (.iconst 4, 1) := by decide +kernel
theorem d1_10 : decode prog_5_method_3_code 10 = .ok (.if_icmp .gt 7, 3) := by decide +kernel
theorem d1_13 : decode prog_5_method_3_code 13 = .ok (.iconst 1, 1) := by decide +kernel
theorem d1_14 : decode prog_5_method_3_code 14 = .ok (.goto 4, 3) := by decide +kernel
theorem d1_17 : decode prog_5_method_3_code 17 = .ok (.iconst 0, 1) := by decide +kernel
theorem d1_18 : decode prog_5_method_3_code 18 = .ok (.ireturn, 1) := by decide +kernel
theorem pd_0 : parseMethodDescriptor "(I)I" = some ⟨[.int], some .int⟩ := by decide +kernel
theorem ef_1_rmR (m : MethodId) (p1 : Int32) (p2 : Int32) (b : Addr) (i : Nat)  : entryFrame m #[(.int p1), (.int p2)] 2 = mkF m 0 #[.val (.int p1), .val (.int p2)] [] := by first | (simp [entryFrame, mkF, argsToLocals, Value.category, maxLocals]; done) | rfl
def Q_rmR (Z : State) (p1 : Int32) (p2 : Int32) (b : Addr) (i : Nat) (h0 : Heap) (n0 : Nat) (v : Option Value) (h : Heap) (L : List Loc) : Prop := v = some (.int (b2i (own_reads p1 p2))) ∧ Fr n0 L ∧ h = h0
set_option maxRecDepth 65536 in
set_option maxHeartbeats 40000000 in
theorem rmR (l : Launch) (Z : State) (a0 : Array Value) (hw : ∀ d ∈ tables_1, d.before a0 Z = true) (ws : List Jvm.Cond) (p1 : Int32) (p2 : Int32) (b : Addr) (i : Nat) (h0 : Heap) (n0 : Nat) (Z0 : n0 ≤ h0.size) (S : Sta Z Z.heap "com/example/maybe_set/maybeset/FilterFormat" "FIRST_VERSIONS" "[I" (.ref b)) (Ab : Al Z h0 b .int [.int 1, .int 1, .int 2, .int 3]) (O : Old Z n0 h0) (hi : p2.toInt = 1 + (i : Int)) (hi4 : i < 4) :
    OwnMet l Z (⟨"com/example/maybe_set/maybeset/FilterFormat", "reads", "(II)Z"⟩ : MethodName) prog_5_method_3_code 2 (some .boolean) ws ({ frames := 1, cells := 0, slots := 0, locals := 13 } : Room) #[(.int p1), (.int p2)] h0 (Q_rmR Z p1 p2 b i h0 n0) := by
  refine own_body (plainFor_of_name pn_0) ?_
  intro p e s m below meth c s₁ hx hby hml hown hnm hret hlk hZ X0 e0
  have N0 := Fr.nil n0
  refine own_cast (ef_1_rmR m p1 p2 b i ) ?_
  refine g_iload_n X0 hx 1 rfl (hb hby d1_0) rfl ?_
  refine g_iload_n X0 hx 2 rfl (hb hby d1_1) rfl ?_
  refine g_callS X0 hx hZ 5 rfl (y := (⟨"com/example/maybe_set/maybeset/FilterFormat", "firstVersion", "(I)I"⟩ : MethodName)) hown (hw _ (List.mem_of_getElem? (i := 4) rfl)) (hw _ (List.mem_of_getElem? (i := 5) rfl)) (hw _ (List.mem_of_getElem? (i := 2) rfl)) (hw _ (List.mem_of_getElem? (i := 6) rfl)) (by decide) [.int p2] [.int p1] (rmF l Z a0 hw [] p2 b i h0 n0 Z0 S Ab O hi hi4) e0 (lenOf pd_0 rfl) rfl (by rw [hml]; rfl) (hb hby d1_2) (by decide) 1 (Nat.le_of_eq rfl) (by decide) (by decide) (by decide) ?_
  rintro _ T1 L1 X1 ⟨rfl, N1q, e1⟩
  have N1 := Fr.app N0 N1q
  show Goes p e below (T1.setTop (mkF m 5 #[.val (.int p1), .val (.int p2)] [.int (own_first p2), .int p1])) _
  by_cases c5 : p1 < (own_first p2)
  · refine g_icmpY X1 hx 17 (hb hby d1_5) (XT.ii_lt_t c5) (by decide) (by decide) ?_
    refine g_iconst X1 hx 18 rfl (0 : Int32) rfl (hb hby d1_17) ?_
    exact g_retZ X1 hx hret hlk rfl (hb hby d1_18) ⟨by simp [own_reads, b2i, c5], N1, e1⟩ (by decide) (by decide)
  · refine g_icmpN X1 hx 8 rfl (hb hby d1_5) (XT.ii_lt_f c5) ?_
    refine g_iload_n X1 hx 9 rfl (hb hby d1_8) rfl ?_
    refine g_iconst X1 hx 10 rfl (4 : Int32) rfl (hb hby d1_9) ?_
    by_cases c10 : (4 : Int32) < p1
    · refine g_icmpY X1 hx 17 (hb hby d1_10) (XT.ii_gt_t c10) (by decide) (by decide) ?_
      refine g_iconst X1 hx 18 rfl (0 : Int32) rfl (hb hby d1_17) ?_
      exact g_retZ X1 hx hret hlk rfl (hb hby d1_18) ⟨by simp [own_reads, b2i, c10], N1, e1⟩ (by decide) (by decide)
    · refine g_icmpN X1 hx 13 rfl (hb hby d1_10) (XT.ii_gt_f c10) ?_
      refine g_iconst X1 hx 14 rfl (1 : Int32) rfl (hb hby d1_13) ?_
      refine g_goto X1 hx 18 (hb hby d1_14) (by decide) (by decide) ?_
      exact g_retZ X1 hx hret hlk rfl (hb hby d1_18) ⟨by simp [own_reads, b2i, c5, c10], N1, e1⟩ (by decide) (by decide)
theorem pn_1 : plainName "com/example/maybe_set/maybeset/FilterFormatReadsPinLaw" = true := by first | (simp [plainName, overriddenIn]; done) | decide +kernel
theorem pd_1 : parseMethodDescriptor "(II)Z" = some ⟨[.int, .int], some .boolean⟩ := by decide +kernel
theorem ef_0_rm0 (m : MethodId) (p1 : Int32) (p2 : Int32) (b : Addr)  : entryFrame m #[(.int p1), (.int p2)] maxLocals = mkF m 0 #[.val (.int p1), .val (.int p2), .unset, .unset, .unset] [] := by first | (simp [entryFrame, mkF, argsToLocals, Value.category, maxLocals]; done) | rfl
def Q_rm0 (Z : State) (p1 : Int32) (p2 : Int32) (b : Addr) (h0 : Heap) (n0 : Nat) (v : Option Value) (h : Heap) (L : List Loc) : Prop := v = some (.int 1) ∧ Fr n0 L
set_option maxRecDepth 65536 in
set_option maxHeartbeats 40000000 in
theorem rm0 (l : Launch) (Z : State) (a0 : Array Value) (hw : ∀ d ∈ tables_1, d.before a0 Z = true) (ws : List Jvm.Cond) (p1 : Int32) (p2 : Int32) (b : Addr) (h0 : Heap) (n0 : Nat) (Z0 : n0 ≤ h0.size) (S : Sta Z Z.heap "com/example/maybe_set/maybeset/FilterFormat" "FIRST_VERSIONS" "[I" (.ref b)) (Ab : Al Z h0 b .int [.int 1, .int 1, .int 2, .int 3]) (O : Old Z n0 h0) :
    OwnMet l Z x code maxLocals ret ws room_1 #[(.int p1), (.int p2)] h0 (Q_rm0 Z p1 p2 b h0 n0) := by
  refine own_body (plainFor_of_name pn_1) ?_
  intro p e s m below meth c s₁ hx hby hml hown hnm hret hlk hZ X0 e0
  have N0 := Fr.nil n0
  refine own_cast (ef_0_rm0 m p1 p2 b ) ?_
  have hk := own_kind p2
  obtain ⟨i, hi⟩ : ∃ i : Nat, (i : Int) = p2.toInt % 4 := ⟨(p2.toInt % 4).toNat, by omega⟩
  have hi4 : i < 4 := by omega
  have hk' : ((1 : Int32) + (p2 &&& (3 : Int32))).toInt = 1 + (i : Int) := by rw [hk, hi]
  refine g_iconst X0 hx 1 rfl (1 : Int32) rfl (hb hby at_0) ?_
  refine g_iload_n X0 hx 2 rfl (hb hby at_1) rfl ?_
  refine g_iconst X0 hx 3 rfl (3 : Int32) rfl (hb hby at_2) ?_
  refine g_iand X0 hx 4 rfl (hb hby at_3) ?_
  refine g_iadd X0 hx 5 rfl (hb hby at_4) ?_
  refine g_istore_n X0 hx 6 rfl (hb hby at_5) #[.val (.int p1), .val (.int p2), .val (.int ((1 : Int32) + (p2 &&& (3 : Int32)))), .unset, .unset] rfl ?_
  refine g_iload_n X0 hx 7 rfl (hb hby at_6) rfl ?_
  refine g_iconst X0 hx 8 rfl (4 : Int32) rfl (hb hby at_7) ?_
  refine g_iand X0 hx 9 rfl (hb hby at_8) ?_
  by_cases c9 : (p2 &&& (4 : Int32)) = 0
  · refine g_ifY X0 hx 19 (hb hby at_9) (XT.i0_eq_t c9) (by decide) (by decide) ?_
    refine g_iload_n X0 hx 20 rfl (hb hby at_19) rfl ?_
    refine g_istore_n X0 hx 21 rfl (hb hby at_20) #[.val (.int p1), .val (.int p2), .val (.int ((1 : Int32) + (p2 &&& (3 : Int32)))), .val (.int p1), .unset] rfl ?_
    refine g_iload_n X0 hx 22 rfl (hb hby at_21) rfl ?_
    refine g_iconst X0 hx 23 rfl (1 : Int32) rfl (hb hby at_22) ?_
    by_cases c23 : ((1 : Int32) + (p2 &&& (3 : Int32))) = (1 : Int32)
    · refine g_icmpN X0 hx 26 rfl (hb hby at_23) (XT.ii_ne_f c23) ?_
      refine g_iload_n X0 hx 27 rfl (hb hby at_26) rfl ?_
      refine g_iconst X0 hx 28 rfl (1 : Int32) rfl (hb hby at_27) ?_
      by_cases c28 : p1 < (1 : Int32)
      · refine g_icmpY X0 hx 40 (hb hby at_28) (XT.ii_lt_t c28) (by decide) (by decide) ?_
        refine g_iconst X0 hx 41 rfl (0 : Int32) rfl (hb hby at_40) ?_
        refine g_istore X0 hx 43 rfl (hb hby at_41) #[.val (.int p1), .val (.int p2), .val (.int ((1 : Int32) + (p2 &&& (3 : Int32)))), .val (.int p1), .val (.int (0 : Int32))] rfl ?_
        refine g_goto X0 hx 113 (hb hby at_43) (by decide) (by decide) ?_
        refine g_iload_n X0 hx 114 rfl (hb hby at_113) rfl ?_
        refine g_iload_n X0 hx 115 rfl (hb hby at_114) rfl ?_
        refine g_callS X0 hx hZ 118 rfl (y := (⟨"com/example/maybe_set/maybeset/FilterFormat", "reads", "(II)Z"⟩ : MethodName)) hown (hw _ (List.mem_of_getElem? (i := 0) rfl)) (hw _ (List.mem_of_getElem? (i := 1) rfl)) (hw _ (List.mem_of_getElem? (i := 2) rfl)) (hw _ (List.mem_of_getElem? (i := 3) rfl)) (by decide) [.int p1, .int ((1 : Int32) + (p2 &&& (3 : Int32)))] [] (rmR l Z a0 hw [] p1 ((1 : Int32) + (p2 &&& (3 : Int32))) b i h0 n0 Z0 S Ab O hk' hi4) e0 (lenOf pd_1 rfl) rfl (by rw [hml]; rfl) (hb hby at_115) (by decide) 0 (Nat.le_of_eq rfl) (by decide) (by decide) (by decide) ?_
        rintro _ T1 L1 X1 ⟨rfl, N1q, e1⟩
        have N1 := Fr.app N0 N1q
        show Goes p e below (T1.setTop (mkF m 118 #[.val (.int p1), .val (.int p2), .val (.int ((1 : Int32) + (p2 &&& (3 : Int32)))), .val (.int p1), .val (.int (0 : Int32))] [.int (b2i (own_reads p1 ((1 : Int32) + (p2 &&& (3 : Int32)))))])) _
        refine g_iload X1 hx 120 rfl (hb hby at_118) rfl ?_
        refine g_icmpN X1 hx 123 rfl (hb hby at_120) (XT.ii_ne_f (by simp [own_reads, own_first, b2i, c23, c28])) ?_
        refine g_iconst X1 hx 124 rfl (1 : Int32) rfl (hb hby at_123) ?_
        refine g_goto X1 hx 128 (hb hby at_124) (by decide) (by decide) ?_
        exact g_retZ X1 hx hret hlk rfl (hb hby at_128) ⟨rfl, N1⟩ (by decide) (by decide)
      · refine g_icmpN X0 hx 31 rfl (hb hby at_28) (XT.ii_lt_f c28) ?_
        refine g_iload_n X0 hx 32 rfl (hb hby at_31) rfl ?_
        refine g_iconst X0 hx 33 rfl (4 : Int32) rfl (hb hby at_32) ?_
        by_cases c33 : (4 : Int32) < p1
        · refine g_icmpY X0 hx 40 (hb hby at_33) (XT.ii_gt_t c33) (by decide) (by decide) ?_
          refine g_iconst X0 hx 41 rfl (0 : Int32) rfl (hb hby at_40) ?_
          refine g_istore X0 hx 43 rfl (hb hby at_41) #[.val (.int p1), .val (.int p2), .val (.int ((1 : Int32) + (p2 &&& (3 : Int32)))), .val (.int p1), .val (.int (0 : Int32))] rfl ?_
          refine g_goto X0 hx 113 (hb hby at_43) (by decide) (by decide) ?_
          refine g_iload_n X0 hx 114 rfl (hb hby at_113) rfl ?_
          refine g_iload_n X0 hx 115 rfl (hb hby at_114) rfl ?_
          refine g_callS X0 hx hZ 118 rfl (y := (⟨"com/example/maybe_set/maybeset/FilterFormat", "reads", "(II)Z"⟩ : MethodName)) hown (hw _ (List.mem_of_getElem? (i := 0) rfl)) (hw _ (List.mem_of_getElem? (i := 1) rfl)) (hw _ (List.mem_of_getElem? (i := 2) rfl)) (hw _ (List.mem_of_getElem? (i := 3) rfl)) (by decide) [.int p1, .int ((1 : Int32) + (p2 &&& (3 : Int32)))] [] (rmR l Z a0 hw [] p1 ((1 : Int32) + (p2 &&& (3 : Int32))) b i h0 n0 Z0 S Ab O hk' hi4) e0 (lenOf pd_1 rfl) rfl (by rw [hml]; rfl) (hb hby at_115) (by decide) 0 (Nat.le_of_eq rfl) (by decide) (by decide) (by decide) ?_
          rintro _ T2 L2 X2 ⟨rfl, N2q, e2⟩
          have N2 := Fr.app N0 N2q
          show Goes p e below (T2.setTop (mkF m 118 #[.val (.int p1), .val (.int p2), .val (.int ((1 : Int32) + (p2 &&& (3 : Int32)))), .val (.int p1), .val (.int (0 : Int32))] [.int (b2i (own_reads p1 ((1 : Int32) + (p2 &&& (3 : Int32)))))])) _
          refine g_iload X2 hx 120 rfl (hb hby at_118) rfl ?_
          refine g_icmpN X2 hx 123 rfl (hb hby at_120) (XT.ii_ne_f (by simp [own_reads, own_first, b2i, c23, c33])) ?_
          refine g_iconst X2 hx 124 rfl (1 : Int32) rfl (hb hby at_123) ?_
          refine g_goto X2 hx 128 (hb hby at_124) (by decide) (by decide) ?_
          exact g_retZ X2 hx hret hlk rfl (hb hby at_128) ⟨rfl, N2⟩ (by decide) (by decide)
        · refine g_icmpN X0 hx 36 rfl (hb hby at_33) (XT.ii_gt_f c33) ?_
          refine g_iconst X0 hx 37 rfl (1 : Int32) rfl (hb hby at_36) ?_
          refine g_goto X0 hx 41 (hb hby at_37) (by decide) (by decide) ?_
          refine g_istore X0 hx 43 rfl (hb hby at_41) #[.val (.int p1), .val (.int p2), .val (.int ((1 : Int32) + (p2 &&& (3 : Int32)))), .val (.int p1), .val (.int (1 : Int32))] rfl ?_
          refine g_goto X0 hx 113 (hb hby at_43) (by decide) (by decide) ?_
          refine g_iload_n X0 hx 114 rfl (hb hby at_113) rfl ?_
          refine g_iload_n X0 hx 115 rfl (hb hby at_114) rfl ?_
          refine g_callS X0 hx hZ 118 rfl (y := (⟨"com/example/maybe_set/maybeset/FilterFormat", "reads", "(II)Z"⟩ : MethodName)) hown (hw _ (List.mem_of_getElem? (i := 0) rfl)) (hw _ (List.mem_of_getElem? (i := 1) rfl)) (hw _ (List.mem_of_getElem? (i := 2) rfl)) (hw _ (List.mem_of_getElem? (i := 3) rfl)) (by decide) [.int p1, .int ((1 : Int32) + (p2 &&& (3 : Int32)))] [] (rmR l Z a0 hw [] p1 ((1 : Int32) + (p2 &&& (3 : Int32))) b i h0 n0 Z0 S Ab O hk' hi4) e0 (lenOf pd_1 rfl) rfl (by rw [hml]; rfl) (hb hby at_115) (by decide) 0 (Nat.le_of_eq rfl) (by decide) (by decide) (by decide) ?_
          rintro _ T3 L3 X3 ⟨rfl, N3q, e3⟩
          have N3 := Fr.app N0 N3q
          show Goes p e below (T3.setTop (mkF m 118 #[.val (.int p1), .val (.int p2), .val (.int ((1 : Int32) + (p2 &&& (3 : Int32)))), .val (.int p1), .val (.int (1 : Int32))] [.int (b2i (own_reads p1 ((1 : Int32) + (p2 &&& (3 : Int32)))))])) _
          refine g_iload X3 hx 120 rfl (hb hby at_118) rfl ?_
          refine g_icmpN X3 hx 123 rfl (hb hby at_120) (XT.ii_ne_f (by simp [own_reads, own_first, b2i, c23, c28, c33])) ?_
          refine g_iconst X3 hx 124 rfl (1 : Int32) rfl (hb hby at_123) ?_
          refine g_goto X3 hx 128 (hb hby at_124) (by decide) (by decide) ?_
          exact g_retZ X3 hx hret hlk rfl (hb hby at_128) ⟨rfl, N3⟩ (by decide) (by decide)
    · refine g_icmpY X0 hx 46 (hb hby at_23) (XT.ii_ne_t c23) (by decide) (by decide) ?_
      refine g_iload_n X0 hx 47 rfl (hb hby at_46) rfl ?_
      refine g_iconst X0 hx 48 rfl (2 : Int32) rfl (hb hby at_47) ?_
      by_cases c48 : ((1 : Int32) + (p2 &&& (3 : Int32))) = (2 : Int32)
      · refine g_icmpN X0 hx 51 rfl (hb hby at_48) (XT.ii_ne_f c48) ?_
        refine g_iload_n X0 hx 52 rfl (hb hby at_51) rfl ?_
        refine g_iconst X0 hx 53 rfl (1 : Int32) rfl (hb hby at_52) ?_
        by_cases c53 : p1 < (1 : Int32)
        · refine g_icmpY X0 hx 65 (hb hby at_53) (XT.ii_lt_t c53) (by decide) (by decide) ?_
          refine g_iconst X0 hx 66 rfl (0 : Int32) rfl (hb hby at_65) ?_
          refine g_istore X0 hx 68 rfl (hb hby at_66) #[.val (.int p1), .val (.int p2), .val (.int ((1 : Int32) + (p2 &&& (3 : Int32)))), .val (.int p1), .val (.int (0 : Int32))] rfl ?_
          refine g_goto X0 hx 113 (hb hby at_68) (by decide) (by decide) ?_
          refine g_iload_n X0 hx 114 rfl (hb hby at_113) rfl ?_
          refine g_iload_n X0 hx 115 rfl (hb hby at_114) rfl ?_
          refine g_callS X0 hx hZ 118 rfl (y := (⟨"com/example/maybe_set/maybeset/FilterFormat", "reads", "(II)Z"⟩ : MethodName)) hown (hw _ (List.mem_of_getElem? (i := 0) rfl)) (hw _ (List.mem_of_getElem? (i := 1) rfl)) (hw _ (List.mem_of_getElem? (i := 2) rfl)) (hw _ (List.mem_of_getElem? (i := 3) rfl)) (by decide) [.int p1, .int ((1 : Int32) + (p2 &&& (3 : Int32)))] [] (rmR l Z a0 hw [] p1 ((1 : Int32) + (p2 &&& (3 : Int32))) b i h0 n0 Z0 S Ab O hk' hi4) e0 (lenOf pd_1 rfl) rfl (by rw [hml]; rfl) (hb hby at_115) (by decide) 0 (Nat.le_of_eq rfl) (by decide) (by decide) (by decide) ?_
          rintro _ T4 L4 X4 ⟨rfl, N4q, e4⟩
          have N4 := Fr.app N0 N4q
          show Goes p e below (T4.setTop (mkF m 118 #[.val (.int p1), .val (.int p2), .val (.int ((1 : Int32) + (p2 &&& (3 : Int32)))), .val (.int p1), .val (.int (0 : Int32))] [.int (b2i (own_reads p1 ((1 : Int32) + (p2 &&& (3 : Int32)))))])) _
          refine g_iload X4 hx 120 rfl (hb hby at_118) rfl ?_
          refine g_icmpN X4 hx 123 rfl (hb hby at_120) (XT.ii_ne_f (by simp [own_reads, own_first, b2i, c23, c48, c53])) ?_
          refine g_iconst X4 hx 124 rfl (1 : Int32) rfl (hb hby at_123) ?_
          refine g_goto X4 hx 128 (hb hby at_124) (by decide) (by decide) ?_
          exact g_retZ X4 hx hret hlk rfl (hb hby at_128) ⟨rfl, N4⟩ (by decide) (by decide)
        · refine g_icmpN X0 hx 56 rfl (hb hby at_53) (XT.ii_lt_f c53) ?_
          refine g_iload_n X0 hx 57 rfl (hb hby at_56) rfl ?_
          refine g_iconst X0 hx 58 rfl (4 : Int32) rfl (hb hby at_57) ?_
          by_cases c58 : (4 : Int32) < p1
          · refine g_icmpY X0 hx 65 (hb hby at_58) (XT.ii_gt_t c58) (by decide) (by decide) ?_
            refine g_iconst X0 hx 66 rfl (0 : Int32) rfl (hb hby at_65) ?_
            refine g_istore X0 hx 68 rfl (hb hby at_66) #[.val (.int p1), .val (.int p2), .val (.int ((1 : Int32) + (p2 &&& (3 : Int32)))), .val (.int p1), .val (.int (0 : Int32))] rfl ?_
            refine g_goto X0 hx 113 (hb hby at_68) (by decide) (by decide) ?_
            refine g_iload_n X0 hx 114 rfl (hb hby at_113) rfl ?_
            refine g_iload_n X0 hx 115 rfl (hb hby at_114) rfl ?_
            refine g_callS X0 hx hZ 118 rfl (y := (⟨"com/example/maybe_set/maybeset/FilterFormat", "reads", "(II)Z"⟩ : MethodName)) hown (hw _ (List.mem_of_getElem? (i := 0) rfl)) (hw _ (List.mem_of_getElem? (i := 1) rfl)) (hw _ (List.mem_of_getElem? (i := 2) rfl)) (hw _ (List.mem_of_getElem? (i := 3) rfl)) (by decide) [.int p1, .int ((1 : Int32) + (p2 &&& (3 : Int32)))] [] (rmR l Z a0 hw [] p1 ((1 : Int32) + (p2 &&& (3 : Int32))) b i h0 n0 Z0 S Ab O hk' hi4) e0 (lenOf pd_1 rfl) rfl (by rw [hml]; rfl) (hb hby at_115) (by decide) 0 (Nat.le_of_eq rfl) (by decide) (by decide) (by decide) ?_
            rintro _ T5 L5 X5 ⟨rfl, N5q, e5⟩
            have N5 := Fr.app N0 N5q
            show Goes p e below (T5.setTop (mkF m 118 #[.val (.int p1), .val (.int p2), .val (.int ((1 : Int32) + (p2 &&& (3 : Int32)))), .val (.int p1), .val (.int (0 : Int32))] [.int (b2i (own_reads p1 ((1 : Int32) + (p2 &&& (3 : Int32)))))])) _
            refine g_iload X5 hx 120 rfl (hb hby at_118) rfl ?_
            refine g_icmpN X5 hx 123 rfl (hb hby at_120) (XT.ii_ne_f (by simp [own_reads, own_first, b2i, c23, c48, c58])) ?_
            refine g_iconst X5 hx 124 rfl (1 : Int32) rfl (hb hby at_123) ?_
            refine g_goto X5 hx 128 (hb hby at_124) (by decide) (by decide) ?_
            exact g_retZ X5 hx hret hlk rfl (hb hby at_128) ⟨rfl, N5⟩ (by decide) (by decide)
          · refine g_icmpN X0 hx 61 rfl (hb hby at_58) (XT.ii_gt_f c58) ?_
            refine g_iconst X0 hx 62 rfl (1 : Int32) rfl (hb hby at_61) ?_
            refine g_goto X0 hx 66 (hb hby at_62) (by decide) (by decide) ?_
            refine g_istore X0 hx 68 rfl (hb hby at_66) #[.val (.int p1), .val (.int p2), .val (.int ((1 : Int32) + (p2 &&& (3 : Int32)))), .val (.int p1), .val (.int (1 : Int32))] rfl ?_
            refine g_goto X0 hx 113 (hb hby at_68) (by decide) (by decide) ?_
            refine g_iload_n X0 hx 114 rfl (hb hby at_113) rfl ?_
            refine g_iload_n X0 hx 115 rfl (hb hby at_114) rfl ?_
            refine g_callS X0 hx hZ 118 rfl (y := (⟨"com/example/maybe_set/maybeset/FilterFormat", "reads", "(II)Z"⟩ : MethodName)) hown (hw _ (List.mem_of_getElem? (i := 0) rfl)) (hw _ (List.mem_of_getElem? (i := 1) rfl)) (hw _ (List.mem_of_getElem? (i := 2) rfl)) (hw _ (List.mem_of_getElem? (i := 3) rfl)) (by decide) [.int p1, .int ((1 : Int32) + (p2 &&& (3 : Int32)))] [] (rmR l Z a0 hw [] p1 ((1 : Int32) + (p2 &&& (3 : Int32))) b i h0 n0 Z0 S Ab O hk' hi4) e0 (lenOf pd_1 rfl) rfl (by rw [hml]; rfl) (hb hby at_115) (by decide) 0 (Nat.le_of_eq rfl) (by decide) (by decide) (by decide) ?_
            rintro _ T6 L6 X6 ⟨rfl, N6q, e6⟩
            have N6 := Fr.app N0 N6q
            show Goes p e below (T6.setTop (mkF m 118 #[.val (.int p1), .val (.int p2), .val (.int ((1 : Int32) + (p2 &&& (3 : Int32)))), .val (.int p1), .val (.int (1 : Int32))] [.int (b2i (own_reads p1 ((1 : Int32) + (p2 &&& (3 : Int32)))))])) _
            refine g_iload X6 hx 120 rfl (hb hby at_118) rfl ?_
            refine g_icmpN X6 hx 123 rfl (hb hby at_120) (XT.ii_ne_f (by simp [own_reads, own_first, b2i, c23, c48, c53, c58])) ?_
            refine g_iconst X6 hx 124 rfl (1 : Int32) rfl (hb hby at_123) ?_
            refine g_goto X6 hx 128 (hb hby at_124) (by decide) (by decide) ?_
            exact g_retZ X6 hx hret hlk rfl (hb hby at_128) ⟨rfl, N6⟩ (by decide) (by decide)
      · refine g_icmpY X0 hx 71 (hb hby at_48) (XT.ii_ne_t c48) (by decide) (by decide) ?_
        refine g_iload_n X0 hx 72 rfl (hb hby at_71) rfl ?_
        refine g_iconst X0 hx 73 rfl (3 : Int32) rfl (hb hby at_72) ?_
        by_cases c73 : ((1 : Int32) + (p2 &&& (3 : Int32))) = (3 : Int32)
        · refine g_icmpN X0 hx 76 rfl (hb hby at_73) (XT.ii_ne_f c73) ?_
          refine g_iload_n X0 hx 77 rfl (hb hby at_76) rfl ?_
          refine g_iconst X0 hx 78 rfl (2 : Int32) rfl (hb hby at_77) ?_
          by_cases c78 : p1 < (2 : Int32)
          · refine g_icmpY X0 hx 90 (hb hby at_78) (XT.ii_lt_t c78) (by decide) (by decide) ?_
            refine g_iconst X0 hx 91 rfl (0 : Int32) rfl (hb hby at_90) ?_
            refine g_istore X0 hx 93 rfl (hb hby at_91) #[.val (.int p1), .val (.int p2), .val (.int ((1 : Int32) + (p2 &&& (3 : Int32)))), .val (.int p1), .val (.int (0 : Int32))] rfl ?_
            refine g_goto X0 hx 113 (hb hby at_93) (by decide) (by decide) ?_
            refine g_iload_n X0 hx 114 rfl (hb hby at_113) rfl ?_
            refine g_iload_n X0 hx 115 rfl (hb hby at_114) rfl ?_
            refine g_callS X0 hx hZ 118 rfl (y := (⟨"com/example/maybe_set/maybeset/FilterFormat", "reads", "(II)Z"⟩ : MethodName)) hown (hw _ (List.mem_of_getElem? (i := 0) rfl)) (hw _ (List.mem_of_getElem? (i := 1) rfl)) (hw _ (List.mem_of_getElem? (i := 2) rfl)) (hw _ (List.mem_of_getElem? (i := 3) rfl)) (by decide) [.int p1, .int ((1 : Int32) + (p2 &&& (3 : Int32)))] [] (rmR l Z a0 hw [] p1 ((1 : Int32) + (p2 &&& (3 : Int32))) b i h0 n0 Z0 S Ab O hk' hi4) e0 (lenOf pd_1 rfl) rfl (by rw [hml]; rfl) (hb hby at_115) (by decide) 0 (Nat.le_of_eq rfl) (by decide) (by decide) (by decide) ?_
            rintro _ T7 L7 X7 ⟨rfl, N7q, e7⟩
            have N7 := Fr.app N0 N7q
            show Goes p e below (T7.setTop (mkF m 118 #[.val (.int p1), .val (.int p2), .val (.int ((1 : Int32) + (p2 &&& (3 : Int32)))), .val (.int p1), .val (.int (0 : Int32))] [.int (b2i (own_reads p1 ((1 : Int32) + (p2 &&& (3 : Int32)))))])) _
            refine g_iload X7 hx 120 rfl (hb hby at_118) rfl ?_
            refine g_icmpN X7 hx 123 rfl (hb hby at_120) (XT.ii_ne_f (by simp [own_reads, own_first, b2i, c23, c48, c73, c78])) ?_
            refine g_iconst X7 hx 124 rfl (1 : Int32) rfl (hb hby at_123) ?_
            refine g_goto X7 hx 128 (hb hby at_124) (by decide) (by decide) ?_
            exact g_retZ X7 hx hret hlk rfl (hb hby at_128) ⟨rfl, N7⟩ (by decide) (by decide)
          · refine g_icmpN X0 hx 81 rfl (hb hby at_78) (XT.ii_lt_f c78) ?_
            refine g_iload_n X0 hx 82 rfl (hb hby at_81) rfl ?_
            refine g_iconst X0 hx 83 rfl (4 : Int32) rfl (hb hby at_82) ?_
            by_cases c83 : (4 : Int32) < p1
            · refine g_icmpY X0 hx 90 (hb hby at_83) (XT.ii_gt_t c83) (by decide) (by decide) ?_
              refine g_iconst X0 hx 91 rfl (0 : Int32) rfl (hb hby at_90) ?_
              refine g_istore X0 hx 93 rfl (hb hby at_91) #[.val (.int p1), .val (.int p2), .val (.int ((1 : Int32) + (p2 &&& (3 : Int32)))), .val (.int p1), .val (.int (0 : Int32))] rfl ?_
              refine g_goto X0 hx 113 (hb hby at_93) (by decide) (by decide) ?_
              refine g_iload_n X0 hx 114 rfl (hb hby at_113) rfl ?_
              refine g_iload_n X0 hx 115 rfl (hb hby at_114) rfl ?_
              refine g_callS X0 hx hZ 118 rfl (y := (⟨"com/example/maybe_set/maybeset/FilterFormat", "reads", "(II)Z"⟩ : MethodName)) hown (hw _ (List.mem_of_getElem? (i := 0) rfl)) (hw _ (List.mem_of_getElem? (i := 1) rfl)) (hw _ (List.mem_of_getElem? (i := 2) rfl)) (hw _ (List.mem_of_getElem? (i := 3) rfl)) (by decide) [.int p1, .int ((1 : Int32) + (p2 &&& (3 : Int32)))] [] (rmR l Z a0 hw [] p1 ((1 : Int32) + (p2 &&& (3 : Int32))) b i h0 n0 Z0 S Ab O hk' hi4) e0 (lenOf pd_1 rfl) rfl (by rw [hml]; rfl) (hb hby at_115) (by decide) 0 (Nat.le_of_eq rfl) (by decide) (by decide) (by decide) ?_
              rintro _ T8 L8 X8 ⟨rfl, N8q, e8⟩
              have N8 := Fr.app N0 N8q
              show Goes p e below (T8.setTop (mkF m 118 #[.val (.int p1), .val (.int p2), .val (.int ((1 : Int32) + (p2 &&& (3 : Int32)))), .val (.int p1), .val (.int (0 : Int32))] [.int (b2i (own_reads p1 ((1 : Int32) + (p2 &&& (3 : Int32)))))])) _
              refine g_iload X8 hx 120 rfl (hb hby at_118) rfl ?_
              refine g_icmpN X8 hx 123 rfl (hb hby at_120) (XT.ii_ne_f (by simp [own_reads, own_first, b2i, c23, c48, c73, c83])) ?_
              refine g_iconst X8 hx 124 rfl (1 : Int32) rfl (hb hby at_123) ?_
              refine g_goto X8 hx 128 (hb hby at_124) (by decide) (by decide) ?_
              exact g_retZ X8 hx hret hlk rfl (hb hby at_128) ⟨rfl, N8⟩ (by decide) (by decide)
            · refine g_icmpN X0 hx 86 rfl (hb hby at_83) (XT.ii_gt_f c83) ?_
              refine g_iconst X0 hx 87 rfl (1 : Int32) rfl (hb hby at_86) ?_
              refine g_goto X0 hx 91 (hb hby at_87) (by decide) (by decide) ?_
              refine g_istore X0 hx 93 rfl (hb hby at_91) #[.val (.int p1), .val (.int p2), .val (.int ((1 : Int32) + (p2 &&& (3 : Int32)))), .val (.int p1), .val (.int (1 : Int32))] rfl ?_
              refine g_goto X0 hx 113 (hb hby at_93) (by decide) (by decide) ?_
              refine g_iload_n X0 hx 114 rfl (hb hby at_113) rfl ?_
              refine g_iload_n X0 hx 115 rfl (hb hby at_114) rfl ?_
              refine g_callS X0 hx hZ 118 rfl (y := (⟨"com/example/maybe_set/maybeset/FilterFormat", "reads", "(II)Z"⟩ : MethodName)) hown (hw _ (List.mem_of_getElem? (i := 0) rfl)) (hw _ (List.mem_of_getElem? (i := 1) rfl)) (hw _ (List.mem_of_getElem? (i := 2) rfl)) (hw _ (List.mem_of_getElem? (i := 3) rfl)) (by decide) [.int p1, .int ((1 : Int32) + (p2 &&& (3 : Int32)))] [] (rmR l Z a0 hw [] p1 ((1 : Int32) + (p2 &&& (3 : Int32))) b i h0 n0 Z0 S Ab O hk' hi4) e0 (lenOf pd_1 rfl) rfl (by rw [hml]; rfl) (hb hby at_115) (by decide) 0 (Nat.le_of_eq rfl) (by decide) (by decide) (by decide) ?_
              rintro _ T9 L9 X9 ⟨rfl, N9q, e9⟩
              have N9 := Fr.app N0 N9q
              show Goes p e below (T9.setTop (mkF m 118 #[.val (.int p1), .val (.int p2), .val (.int ((1 : Int32) + (p2 &&& (3 : Int32)))), .val (.int p1), .val (.int (1 : Int32))] [.int (b2i (own_reads p1 ((1 : Int32) + (p2 &&& (3 : Int32)))))])) _
              refine g_iload X9 hx 120 rfl (hb hby at_118) rfl ?_
              refine g_icmpN X9 hx 123 rfl (hb hby at_120) (XT.ii_ne_f (by simp [own_reads, own_first, b2i, c23, c48, c73, c78, c83])) ?_
              refine g_iconst X9 hx 124 rfl (1 : Int32) rfl (hb hby at_123) ?_
              refine g_goto X9 hx 128 (hb hby at_124) (by decide) (by decide) ?_
              exact g_retZ X9 hx hret hlk rfl (hb hby at_128) ⟨rfl, N9⟩ (by decide) (by decide)
        · refine g_icmpY X0 hx 96 (hb hby at_73) (XT.ii_ne_t c73) (by decide) (by decide) ?_
          refine g_iload_n X0 hx 97 rfl (hb hby at_96) rfl ?_
          refine g_iconst X0 hx 98 rfl (3 : Int32) rfl (hb hby at_97) ?_
          by_cases c98 : p1 < (3 : Int32)
          · refine g_icmpY X0 hx 110 (hb hby at_98) (XT.ii_lt_t c98) (by decide) (by decide) ?_
            refine g_iconst X0 hx 111 rfl (0 : Int32) rfl (hb hby at_110) ?_
            refine g_istore X0 hx 113 rfl (hb hby at_111) #[.val (.int p1), .val (.int p2), .val (.int ((1 : Int32) + (p2 &&& (3 : Int32)))), .val (.int p1), .val (.int (0 : Int32))] rfl ?_
            refine g_iload_n X0 hx 114 rfl (hb hby at_113) rfl ?_
            refine g_iload_n X0 hx 115 rfl (hb hby at_114) rfl ?_
            refine g_callS X0 hx hZ 118 rfl (y := (⟨"com/example/maybe_set/maybeset/FilterFormat", "reads", "(II)Z"⟩ : MethodName)) hown (hw _ (List.mem_of_getElem? (i := 0) rfl)) (hw _ (List.mem_of_getElem? (i := 1) rfl)) (hw _ (List.mem_of_getElem? (i := 2) rfl)) (hw _ (List.mem_of_getElem? (i := 3) rfl)) (by decide) [.int p1, .int ((1 : Int32) + (p2 &&& (3 : Int32)))] [] (rmR l Z a0 hw [] p1 ((1 : Int32) + (p2 &&& (3 : Int32))) b i h0 n0 Z0 S Ab O hk' hi4) e0 (lenOf pd_1 rfl) rfl (by rw [hml]; rfl) (hb hby at_115) (by decide) 0 (Nat.le_of_eq rfl) (by decide) (by decide) (by decide) ?_
            rintro _ T10 L10 X10 ⟨rfl, N10q, e10⟩
            have N10 := Fr.app N0 N10q
            show Goes p e below (T10.setTop (mkF m 118 #[.val (.int p1), .val (.int p2), .val (.int ((1 : Int32) + (p2 &&& (3 : Int32)))), .val (.int p1), .val (.int (0 : Int32))] [.int (b2i (own_reads p1 ((1 : Int32) + (p2 &&& (3 : Int32)))))])) _
            refine g_iload X10 hx 120 rfl (hb hby at_118) rfl ?_
            refine g_icmpN X10 hx 123 rfl (hb hby at_120) (XT.ii_ne_f (by simp [own_reads, own_first, b2i, c23, c48, c73, c98])) ?_
            refine g_iconst X10 hx 124 rfl (1 : Int32) rfl (hb hby at_123) ?_
            refine g_goto X10 hx 128 (hb hby at_124) (by decide) (by decide) ?_
            exact g_retZ X10 hx hret hlk rfl (hb hby at_128) ⟨rfl, N10⟩ (by decide) (by decide)
          · refine g_icmpN X0 hx 101 rfl (hb hby at_98) (XT.ii_lt_f c98) ?_
            refine g_iload_n X0 hx 102 rfl (hb hby at_101) rfl ?_
            refine g_iconst X0 hx 103 rfl (4 : Int32) rfl (hb hby at_102) ?_
            by_cases c103 : (4 : Int32) < p1
            · refine g_icmpY X0 hx 110 (hb hby at_103) (XT.ii_gt_t c103) (by decide) (by decide) ?_
              refine g_iconst X0 hx 111 rfl (0 : Int32) rfl (hb hby at_110) ?_
              refine g_istore X0 hx 113 rfl (hb hby at_111) #[.val (.int p1), .val (.int p2), .val (.int ((1 : Int32) + (p2 &&& (3 : Int32)))), .val (.int p1), .val (.int (0 : Int32))] rfl ?_
              refine g_iload_n X0 hx 114 rfl (hb hby at_113) rfl ?_
              refine g_iload_n X0 hx 115 rfl (hb hby at_114) rfl ?_
              refine g_callS X0 hx hZ 118 rfl (y := (⟨"com/example/maybe_set/maybeset/FilterFormat", "reads", "(II)Z"⟩ : MethodName)) hown (hw _ (List.mem_of_getElem? (i := 0) rfl)) (hw _ (List.mem_of_getElem? (i := 1) rfl)) (hw _ (List.mem_of_getElem? (i := 2) rfl)) (hw _ (List.mem_of_getElem? (i := 3) rfl)) (by decide) [.int p1, .int ((1 : Int32) + (p2 &&& (3 : Int32)))] [] (rmR l Z a0 hw [] p1 ((1 : Int32) + (p2 &&& (3 : Int32))) b i h0 n0 Z0 S Ab O hk' hi4) e0 (lenOf pd_1 rfl) rfl (by rw [hml]; rfl) (hb hby at_115) (by decide) 0 (Nat.le_of_eq rfl) (by decide) (by decide) (by decide) ?_
              rintro _ T11 L11 X11 ⟨rfl, N11q, e11⟩
              have N11 := Fr.app N0 N11q
              show Goes p e below (T11.setTop (mkF m 118 #[.val (.int p1), .val (.int p2), .val (.int ((1 : Int32) + (p2 &&& (3 : Int32)))), .val (.int p1), .val (.int (0 : Int32))] [.int (b2i (own_reads p1 ((1 : Int32) + (p2 &&& (3 : Int32)))))])) _
              refine g_iload X11 hx 120 rfl (hb hby at_118) rfl ?_
              refine g_icmpN X11 hx 123 rfl (hb hby at_120) (XT.ii_ne_f (by simp [own_reads, own_first, b2i, c23, c48, c73, c103])) ?_
              refine g_iconst X11 hx 124 rfl (1 : Int32) rfl (hb hby at_123) ?_
              refine g_goto X11 hx 128 (hb hby at_124) (by decide) (by decide) ?_
              exact g_retZ X11 hx hret hlk rfl (hb hby at_128) ⟨rfl, N11⟩ (by decide) (by decide)
            · refine g_icmpN X0 hx 106 rfl (hb hby at_103) (XT.ii_gt_f c103) ?_
              refine g_iconst X0 hx 107 rfl (1 : Int32) rfl (hb hby at_106) ?_
              refine g_goto X0 hx 111 (hb hby at_107) (by decide) (by decide) ?_
              refine g_istore X0 hx 113 rfl (hb hby at_111) #[.val (.int p1), .val (.int p2), .val (.int ((1 : Int32) + (p2 &&& (3 : Int32)))), .val (.int p1), .val (.int (1 : Int32))] rfl ?_
              refine g_iload_n X0 hx 114 rfl (hb hby at_113) rfl ?_
              refine g_iload_n X0 hx 115 rfl (hb hby at_114) rfl ?_
              refine g_callS X0 hx hZ 118 rfl (y := (⟨"com/example/maybe_set/maybeset/FilterFormat", "reads", "(II)Z"⟩ : MethodName)) hown (hw _ (List.mem_of_getElem? (i := 0) rfl)) (hw _ (List.mem_of_getElem? (i := 1) rfl)) (hw _ (List.mem_of_getElem? (i := 2) rfl)) (hw _ (List.mem_of_getElem? (i := 3) rfl)) (by decide) [.int p1, .int ((1 : Int32) + (p2 &&& (3 : Int32)))] [] (rmR l Z a0 hw [] p1 ((1 : Int32) + (p2 &&& (3 : Int32))) b i h0 n0 Z0 S Ab O hk' hi4) e0 (lenOf pd_1 rfl) rfl (by rw [hml]; rfl) (hb hby at_115) (by decide) 0 (Nat.le_of_eq rfl) (by decide) (by decide) (by decide) ?_
              rintro _ T12 L12 X12 ⟨rfl, N12q, e12⟩
              have N12 := Fr.app N0 N12q
              show Goes p e below (T12.setTop (mkF m 118 #[.val (.int p1), .val (.int p2), .val (.int ((1 : Int32) + (p2 &&& (3 : Int32)))), .val (.int p1), .val (.int (1 : Int32))] [.int (b2i (own_reads p1 ((1 : Int32) + (p2 &&& (3 : Int32)))))])) _
              refine g_iload X12 hx 120 rfl (hb hby at_118) rfl ?_
              refine g_icmpN X12 hx 123 rfl (hb hby at_120) (XT.ii_ne_f (by simp [own_reads, own_first, b2i, c23, c48, c73, c98, c103])) ?_
              refine g_iconst X12 hx 124 rfl (1 : Int32) rfl (hb hby at_123) ?_
              refine g_goto X12 hx 128 (hb hby at_124) (by decide) (by decide) ?_
              exact g_retZ X12 hx hret hlk rfl (hb hby at_128) ⟨rfl, N12⟩ (by decide) (by decide)
  · refine g_ifN X0 hx 12 rfl (hb hby at_9) (XT.i0_eq_f c9) ?_
    refine g_iload_n X0 hx 13 rfl (hb hby at_12) rfl ?_
    refine g_bipush X0 hx 15 rfl (8 : Int32) rfl (hb hby at_13) ?_
    refine g_irem X0 hx 16 rfl (hb hby at_15) (by decide) ?_
    refine g_goto X0 hx 20 (hb hby at_16) (by decide) (by decide) ?_
    refine g_istore_n X0 hx 21 rfl (hb hby at_20) #[.val (.int p1), .val (.int p2), .val (.int ((1 : Int32) + (p2 &&& (3 : Int32)))), .val (.int (p1 % (8 : Int32))), .unset] rfl ?_
    refine g_iload_n X0 hx 22 rfl (hb hby at_21) rfl ?_
    refine g_iconst X0 hx 23 rfl (1 : Int32) rfl (hb hby at_22) ?_
    by_cases c23 : ((1 : Int32) + (p2 &&& (3 : Int32))) = (1 : Int32)
    · refine g_icmpN X0 hx 26 rfl (hb hby at_23) (XT.ii_ne_f c23) ?_
      refine g_iload_n X0 hx 27 rfl (hb hby at_26) rfl ?_
      refine g_iconst X0 hx 28 rfl (1 : Int32) rfl (hb hby at_27) ?_
      by_cases c28 : (p1 % (8 : Int32)) < (1 : Int32)
      · refine g_icmpY X0 hx 40 (hb hby at_28) (XT.ii_lt_t c28) (by decide) (by decide) ?_
        refine g_iconst X0 hx 41 rfl (0 : Int32) rfl (hb hby at_40) ?_
        refine g_istore X0 hx 43 rfl (hb hby at_41) #[.val (.int p1), .val (.int p2), .val (.int ((1 : Int32) + (p2 &&& (3 : Int32)))), .val (.int (p1 % (8 : Int32))), .val (.int (0 : Int32))] rfl ?_
        refine g_goto X0 hx 113 (hb hby at_43) (by decide) (by decide) ?_
        refine g_iload_n X0 hx 114 rfl (hb hby at_113) rfl ?_
        refine g_iload_n X0 hx 115 rfl (hb hby at_114) rfl ?_
        refine g_callS X0 hx hZ 118 rfl (y := (⟨"com/example/maybe_set/maybeset/FilterFormat", "reads", "(II)Z"⟩ : MethodName)) hown (hw _ (List.mem_of_getElem? (i := 0) rfl)) (hw _ (List.mem_of_getElem? (i := 1) rfl)) (hw _ (List.mem_of_getElem? (i := 2) rfl)) (hw _ (List.mem_of_getElem? (i := 3) rfl)) (by decide) [.int (p1 % (8 : Int32)), .int ((1 : Int32) + (p2 &&& (3 : Int32)))] [] (rmR l Z a0 hw [] (p1 % (8 : Int32)) ((1 : Int32) + (p2 &&& (3 : Int32))) b i h0 n0 Z0 S Ab O hk' hi4) e0 (lenOf pd_1 rfl) rfl (by rw [hml]; rfl) (hb hby at_115) (by decide) 0 (Nat.le_of_eq rfl) (by decide) (by decide) (by decide) ?_
        rintro _ T13 L13 X13 ⟨rfl, N13q, e13⟩
        have N13 := Fr.app N0 N13q
        show Goes p e below (T13.setTop (mkF m 118 #[.val (.int p1), .val (.int p2), .val (.int ((1 : Int32) + (p2 &&& (3 : Int32)))), .val (.int (p1 % (8 : Int32))), .val (.int (0 : Int32))] [.int (b2i (own_reads (p1 % (8 : Int32)) ((1 : Int32) + (p2 &&& (3 : Int32)))))])) _
        refine g_iload X13 hx 120 rfl (hb hby at_118) rfl ?_
        refine g_icmpN X13 hx 123 rfl (hb hby at_120) (XT.ii_ne_f (by simp [own_reads, own_first, b2i, c23, c28])) ?_
        refine g_iconst X13 hx 124 rfl (1 : Int32) rfl (hb hby at_123) ?_
        refine g_goto X13 hx 128 (hb hby at_124) (by decide) (by decide) ?_
        exact g_retZ X13 hx hret hlk rfl (hb hby at_128) ⟨rfl, N13⟩ (by decide) (by decide)
      · refine g_icmpN X0 hx 31 rfl (hb hby at_28) (XT.ii_lt_f c28) ?_
        refine g_iload_n X0 hx 32 rfl (hb hby at_31) rfl ?_
        refine g_iconst X0 hx 33 rfl (4 : Int32) rfl (hb hby at_32) ?_
        by_cases c33 : (4 : Int32) < (p1 % (8 : Int32))
        · refine g_icmpY X0 hx 40 (hb hby at_33) (XT.ii_gt_t c33) (by decide) (by decide) ?_
          refine g_iconst X0 hx 41 rfl (0 : Int32) rfl (hb hby at_40) ?_
          refine g_istore X0 hx 43 rfl (hb hby at_41) #[.val (.int p1), .val (.int p2), .val (.int ((1 : Int32) + (p2 &&& (3 : Int32)))), .val (.int (p1 % (8 : Int32))), .val (.int (0 : Int32))] rfl ?_
          refine g_goto X0 hx 113 (hb hby at_43) (by decide) (by decide) ?_
          refine g_iload_n X0 hx 114 rfl (hb hby at_113) rfl ?_
          refine g_iload_n X0 hx 115 rfl (hb hby at_114) rfl ?_
          refine g_callS X0 hx hZ 118 rfl (y := (⟨"com/example/maybe_set/maybeset/FilterFormat", "reads", "(II)Z"⟩ : MethodName)) hown (hw _ (List.mem_of_getElem? (i := 0) rfl)) (hw _ (List.mem_of_getElem? (i := 1) rfl)) (hw _ (List.mem_of_getElem? (i := 2) rfl)) (hw _ (List.mem_of_getElem? (i := 3) rfl)) (by decide) [.int (p1 % (8 : Int32)), .int ((1 : Int32) + (p2 &&& (3 : Int32)))] [] (rmR l Z a0 hw [] (p1 % (8 : Int32)) ((1 : Int32) + (p2 &&& (3 : Int32))) b i h0 n0 Z0 S Ab O hk' hi4) e0 (lenOf pd_1 rfl) rfl (by rw [hml]; rfl) (hb hby at_115) (by decide) 0 (Nat.le_of_eq rfl) (by decide) (by decide) (by decide) ?_
          rintro _ T14 L14 X14 ⟨rfl, N14q, e14⟩
          have N14 := Fr.app N0 N14q
          show Goes p e below (T14.setTop (mkF m 118 #[.val (.int p1), .val (.int p2), .val (.int ((1 : Int32) + (p2 &&& (3 : Int32)))), .val (.int (p1 % (8 : Int32))), .val (.int (0 : Int32))] [.int (b2i (own_reads (p1 % (8 : Int32)) ((1 : Int32) + (p2 &&& (3 : Int32)))))])) _
          refine g_iload X14 hx 120 rfl (hb hby at_118) rfl ?_
          refine g_icmpN X14 hx 123 rfl (hb hby at_120) (XT.ii_ne_f (by simp [own_reads, own_first, b2i, c23, c33])) ?_
          refine g_iconst X14 hx 124 rfl (1 : Int32) rfl (hb hby at_123) ?_
          refine g_goto X14 hx 128 (hb hby at_124) (by decide) (by decide) ?_
          exact g_retZ X14 hx hret hlk rfl (hb hby at_128) ⟨rfl, N14⟩ (by decide) (by decide)
        · refine g_icmpN X0 hx 36 rfl (hb hby at_33) (XT.ii_gt_f c33) ?_
          refine g_iconst X0 hx 37 rfl (1 : Int32) rfl (hb hby at_36) ?_
          refine g_goto X0 hx 41 (hb hby at_37) (by decide) (by decide) ?_
          refine g_istore X0 hx 43 rfl (hb hby at_41) #[.val (.int p1), .val (.int p2), .val (.int ((1 : Int32) + (p2 &&& (3 : Int32)))), .val (.int (p1 % (8 : Int32))), .val (.int (1 : Int32))] rfl ?_
          refine g_goto X0 hx 113 (hb hby at_43) (by decide) (by decide) ?_
          refine g_iload_n X0 hx 114 rfl (hb hby at_113) rfl ?_
          refine g_iload_n X0 hx 115 rfl (hb hby at_114) rfl ?_
          refine g_callS X0 hx hZ 118 rfl (y := (⟨"com/example/maybe_set/maybeset/FilterFormat", "reads", "(II)Z"⟩ : MethodName)) hown (hw _ (List.mem_of_getElem? (i := 0) rfl)) (hw _ (List.mem_of_getElem? (i := 1) rfl)) (hw _ (List.mem_of_getElem? (i := 2) rfl)) (hw _ (List.mem_of_getElem? (i := 3) rfl)) (by decide) [.int (p1 % (8 : Int32)), .int ((1 : Int32) + (p2 &&& (3 : Int32)))] [] (rmR l Z a0 hw [] (p1 % (8 : Int32)) ((1 : Int32) + (p2 &&& (3 : Int32))) b i h0 n0 Z0 S Ab O hk' hi4) e0 (lenOf pd_1 rfl) rfl (by rw [hml]; rfl) (hb hby at_115) (by decide) 0 (Nat.le_of_eq rfl) (by decide) (by decide) (by decide) ?_
          rintro _ T15 L15 X15 ⟨rfl, N15q, e15⟩
          have N15 := Fr.app N0 N15q
          show Goes p e below (T15.setTop (mkF m 118 #[.val (.int p1), .val (.int p2), .val (.int ((1 : Int32) + (p2 &&& (3 : Int32)))), .val (.int (p1 % (8 : Int32))), .val (.int (1 : Int32))] [.int (b2i (own_reads (p1 % (8 : Int32)) ((1 : Int32) + (p2 &&& (3 : Int32)))))])) _
          refine g_iload X15 hx 120 rfl (hb hby at_118) rfl ?_
          refine g_icmpN X15 hx 123 rfl (hb hby at_120) (XT.ii_ne_f (by simp [own_reads, own_first, b2i, c23, c28, c33])) ?_
          refine g_iconst X15 hx 124 rfl (1 : Int32) rfl (hb hby at_123) ?_
          refine g_goto X15 hx 128 (hb hby at_124) (by decide) (by decide) ?_
          exact g_retZ X15 hx hret hlk rfl (hb hby at_128) ⟨rfl, N15⟩ (by decide) (by decide)
    · refine g_icmpY X0 hx 46 (hb hby at_23) (XT.ii_ne_t c23) (by decide) (by decide) ?_
      refine g_iload_n X0 hx 47 rfl (hb hby at_46) rfl ?_
      refine g_iconst X0 hx 48 rfl (2 : Int32) rfl (hb hby at_47) ?_
      by_cases c48 : ((1 : Int32) + (p2 &&& (3 : Int32))) = (2 : Int32)
      · refine g_icmpN X0 hx 51 rfl (hb hby at_48) (XT.ii_ne_f c48) ?_
        refine g_iload_n X0 hx 52 rfl (hb hby at_51) rfl ?_
        refine g_iconst X0 hx 53 rfl (1 : Int32) rfl (hb hby at_52) ?_
        by_cases c53 : (p1 % (8 : Int32)) < (1 : Int32)
        · refine g_icmpY X0 hx 65 (hb hby at_53) (XT.ii_lt_t c53) (by decide) (by decide) ?_
          refine g_iconst X0 hx 66 rfl (0 : Int32) rfl (hb hby at_65) ?_
          refine g_istore X0 hx 68 rfl (hb hby at_66) #[.val (.int p1), .val (.int p2), .val (.int ((1 : Int32) + (p2 &&& (3 : Int32)))), .val (.int (p1 % (8 : Int32))), .val (.int (0 : Int32))] rfl ?_
          refine g_goto X0 hx 113 (hb hby at_68) (by decide) (by decide) ?_
          refine g_iload_n X0 hx 114 rfl (hb hby at_113) rfl ?_
          refine g_iload_n X0 hx 115 rfl (hb hby at_114) rfl ?_
          refine g_callS X0 hx hZ 118 rfl (y := (⟨"com/example/maybe_set/maybeset/FilterFormat", "reads", "(II)Z"⟩ : MethodName)) hown (hw _ (List.mem_of_getElem? (i := 0) rfl)) (hw _ (List.mem_of_getElem? (i := 1) rfl)) (hw _ (List.mem_of_getElem? (i := 2) rfl)) (hw _ (List.mem_of_getElem? (i := 3) rfl)) (by decide) [.int (p1 % (8 : Int32)), .int ((1 : Int32) + (p2 &&& (3 : Int32)))] [] (rmR l Z a0 hw [] (p1 % (8 : Int32)) ((1 : Int32) + (p2 &&& (3 : Int32))) b i h0 n0 Z0 S Ab O hk' hi4) e0 (lenOf pd_1 rfl) rfl (by rw [hml]; rfl) (hb hby at_115) (by decide) 0 (Nat.le_of_eq rfl) (by decide) (by decide) (by decide) ?_
          rintro _ T16 L16 X16 ⟨rfl, N16q, e16⟩
          have N16 := Fr.app N0 N16q
          show Goes p e below (T16.setTop (mkF m 118 #[.val (.int p1), .val (.int p2), .val (.int ((1 : Int32) + (p2 &&& (3 : Int32)))), .val (.int (p1 % (8 : Int32))), .val (.int (0 : Int32))] [.int (b2i (own_reads (p1 % (8 : Int32)) ((1 : Int32) + (p2 &&& (3 : Int32)))))])) _
          refine g_iload X16 hx 120 rfl (hb hby at_118) rfl ?_
          refine g_icmpN X16 hx 123 rfl (hb hby at_120) (XT.ii_ne_f (by simp [own_reads, own_first, b2i, c23, c48, c53])) ?_
          refine g_iconst X16 hx 124 rfl (1 : Int32) rfl (hb hby at_123) ?_
          refine g_goto X16 hx 128 (hb hby at_124) (by decide) (by decide) ?_
          exact g_retZ X16 hx hret hlk rfl (hb hby at_128) ⟨rfl, N16⟩ (by decide) (by decide)
        · refine g_icmpN X0 hx 56 rfl (hb hby at_53) (XT.ii_lt_f c53) ?_
          refine g_iload_n X0 hx 57 rfl (hb hby at_56) rfl ?_
          refine g_iconst X0 hx 58 rfl (4 : Int32) rfl (hb hby at_57) ?_
          by_cases c58 : (4 : Int32) < (p1 % (8 : Int32))
          · refine g_icmpY X0 hx 65 (hb hby at_58) (XT.ii_gt_t c58) (by decide) (by decide) ?_
            refine g_iconst X0 hx 66 rfl (0 : Int32) rfl (hb hby at_65) ?_
            refine g_istore X0 hx 68 rfl (hb hby at_66) #[.val (.int p1), .val (.int p2), .val (.int ((1 : Int32) + (p2 &&& (3 : Int32)))), .val (.int (p1 % (8 : Int32))), .val (.int (0 : Int32))] rfl ?_
            refine g_goto X0 hx 113 (hb hby at_68) (by decide) (by decide) ?_
            refine g_iload_n X0 hx 114 rfl (hb hby at_113) rfl ?_
            refine g_iload_n X0 hx 115 rfl (hb hby at_114) rfl ?_
            refine g_callS X0 hx hZ 118 rfl (y := (⟨"com/example/maybe_set/maybeset/FilterFormat", "reads", "(II)Z"⟩ : MethodName)) hown (hw _ (List.mem_of_getElem? (i := 0) rfl)) (hw _ (List.mem_of_getElem? (i := 1) rfl)) (hw _ (List.mem_of_getElem? (i := 2) rfl)) (hw _ (List.mem_of_getElem? (i := 3) rfl)) (by decide) [.int (p1 % (8 : Int32)), .int ((1 : Int32) + (p2 &&& (3 : Int32)))] [] (rmR l Z a0 hw [] (p1 % (8 : Int32)) ((1 : Int32) + (p2 &&& (3 : Int32))) b i h0 n0 Z0 S Ab O hk' hi4) e0 (lenOf pd_1 rfl) rfl (by rw [hml]; rfl) (hb hby at_115) (by decide) 0 (Nat.le_of_eq rfl) (by decide) (by decide) (by decide) ?_
            rintro _ T17 L17 X17 ⟨rfl, N17q, e17⟩
            have N17 := Fr.app N0 N17q
            show Goes p e below (T17.setTop (mkF m 118 #[.val (.int p1), .val (.int p2), .val (.int ((1 : Int32) + (p2 &&& (3 : Int32)))), .val (.int (p1 % (8 : Int32))), .val (.int (0 : Int32))] [.int (b2i (own_reads (p1 % (8 : Int32)) ((1 : Int32) + (p2 &&& (3 : Int32)))))])) _
            refine g_iload X17 hx 120 rfl (hb hby at_118) rfl ?_
            refine g_icmpN X17 hx 123 rfl (hb hby at_120) (XT.ii_ne_f (by simp [own_reads, own_first, b2i, c23, c48, c58])) ?_
            refine g_iconst X17 hx 124 rfl (1 : Int32) rfl (hb hby at_123) ?_
            refine g_goto X17 hx 128 (hb hby at_124) (by decide) (by decide) ?_
            exact g_retZ X17 hx hret hlk rfl (hb hby at_128) ⟨rfl, N17⟩ (by decide) (by decide)
          · refine g_icmpN X0 hx 61 rfl (hb hby at_58) (XT.ii_gt_f c58) ?_
            refine g_iconst X0 hx 62 rfl (1 : Int32) rfl (hb hby at_61) ?_
            refine g_goto X0 hx 66 (hb hby at_62) (by decide) (by decide) ?_
            refine g_istore X0 hx 68 rfl (hb hby at_66) #[.val (.int p1), .val (.int p2), .val (.int ((1 : Int32) + (p2 &&& (3 : Int32)))), .val (.int (p1 % (8 : Int32))), .val (.int (1 : Int32))] rfl ?_
            refine g_goto X0 hx 113 (hb hby at_68) (by decide) (by decide) ?_
            refine g_iload_n X0 hx 114 rfl (hb hby at_113) rfl ?_
            refine g_iload_n X0 hx 115 rfl (hb hby at_114) rfl ?_
            refine g_callS X0 hx hZ 118 rfl (y := (⟨"com/example/maybe_set/maybeset/FilterFormat", "reads", "(II)Z"⟩ : MethodName)) hown (hw _ (List.mem_of_getElem? (i := 0) rfl)) (hw _ (List.mem_of_getElem? (i := 1) rfl)) (hw _ (List.mem_of_getElem? (i := 2) rfl)) (hw _ (List.mem_of_getElem? (i := 3) rfl)) (by decide) [.int (p1 % (8 : Int32)), .int ((1 : Int32) + (p2 &&& (3 : Int32)))] [] (rmR l Z a0 hw [] (p1 % (8 : Int32)) ((1 : Int32) + (p2 &&& (3 : Int32))) b i h0 n0 Z0 S Ab O hk' hi4) e0 (lenOf pd_1 rfl) rfl (by rw [hml]; rfl) (hb hby at_115) (by decide) 0 (Nat.le_of_eq rfl) (by decide) (by decide) (by decide) ?_
            rintro _ T18 L18 X18 ⟨rfl, N18q, e18⟩
            have N18 := Fr.app N0 N18q
            show Goes p e below (T18.setTop (mkF m 118 #[.val (.int p1), .val (.int p2), .val (.int ((1 : Int32) + (p2 &&& (3 : Int32)))), .val (.int (p1 % (8 : Int32))), .val (.int (1 : Int32))] [.int (b2i (own_reads (p1 % (8 : Int32)) ((1 : Int32) + (p2 &&& (3 : Int32)))))])) _
            refine g_iload X18 hx 120 rfl (hb hby at_118) rfl ?_
            refine g_icmpN X18 hx 123 rfl (hb hby at_120) (XT.ii_ne_f (by simp [own_reads, own_first, b2i, c23, c48, c53, c58])) ?_
            refine g_iconst X18 hx 124 rfl (1 : Int32) rfl (hb hby at_123) ?_
            refine g_goto X18 hx 128 (hb hby at_124) (by decide) (by decide) ?_
            exact g_retZ X18 hx hret hlk rfl (hb hby at_128) ⟨rfl, N18⟩ (by decide) (by decide)
      · refine g_icmpY X0 hx 71 (hb hby at_48) (XT.ii_ne_t c48) (by decide) (by decide) ?_
        refine g_iload_n X0 hx 72 rfl (hb hby at_71) rfl ?_
        refine g_iconst X0 hx 73 rfl (3 : Int32) rfl (hb hby at_72) ?_
        by_cases c73 : ((1 : Int32) + (p2 &&& (3 : Int32))) = (3 : Int32)
        · refine g_icmpN X0 hx 76 rfl (hb hby at_73) (XT.ii_ne_f c73) ?_
          refine g_iload_n X0 hx 77 rfl (hb hby at_76) rfl ?_
          refine g_iconst X0 hx 78 rfl (2 : Int32) rfl (hb hby at_77) ?_
          by_cases c78 : (p1 % (8 : Int32)) < (2 : Int32)
          · refine g_icmpY X0 hx 90 (hb hby at_78) (XT.ii_lt_t c78) (by decide) (by decide) ?_
            refine g_iconst X0 hx 91 rfl (0 : Int32) rfl (hb hby at_90) ?_
            refine g_istore X0 hx 93 rfl (hb hby at_91) #[.val (.int p1), .val (.int p2), .val (.int ((1 : Int32) + (p2 &&& (3 : Int32)))), .val (.int (p1 % (8 : Int32))), .val (.int (0 : Int32))] rfl ?_
            refine g_goto X0 hx 113 (hb hby at_93) (by decide) (by decide) ?_
            refine g_iload_n X0 hx 114 rfl (hb hby at_113) rfl ?_
            refine g_iload_n X0 hx 115 rfl (hb hby at_114) rfl ?_
            refine g_callS X0 hx hZ 118 rfl (y := (⟨"com/example/maybe_set/maybeset/FilterFormat", "reads", "(II)Z"⟩ : MethodName)) hown (hw _ (List.mem_of_getElem? (i := 0) rfl)) (hw _ (List.mem_of_getElem? (i := 1) rfl)) (hw _ (List.mem_of_getElem? (i := 2) rfl)) (hw _ (List.mem_of_getElem? (i := 3) rfl)) (by decide) [.int (p1 % (8 : Int32)), .int ((1 : Int32) + (p2 &&& (3 : Int32)))] [] (rmR l Z a0 hw [] (p1 % (8 : Int32)) ((1 : Int32) + (p2 &&& (3 : Int32))) b i h0 n0 Z0 S Ab O hk' hi4) e0 (lenOf pd_1 rfl) rfl (by rw [hml]; rfl) (hb hby at_115) (by decide) 0 (Nat.le_of_eq rfl) (by decide) (by decide) (by decide) ?_
            rintro _ T19 L19 X19 ⟨rfl, N19q, e19⟩
            have N19 := Fr.app N0 N19q
            show Goes p e below (T19.setTop (mkF m 118 #[.val (.int p1), .val (.int p2), .val (.int ((1 : Int32) + (p2 &&& (3 : Int32)))), .val (.int (p1 % (8 : Int32))), .val (.int (0 : Int32))] [.int (b2i (own_reads (p1 % (8 : Int32)) ((1 : Int32) + (p2 &&& (3 : Int32)))))])) _
            refine g_iload X19 hx 120 rfl (hb hby at_118) rfl ?_
            refine g_icmpN X19 hx 123 rfl (hb hby at_120) (XT.ii_ne_f (by simp [own_reads, own_first, b2i, c23, c48, c73, c78])) ?_
            refine g_iconst X19 hx 124 rfl (1 : Int32) rfl (hb hby at_123) ?_
            refine g_goto X19 hx 128 (hb hby at_124) (by decide) (by decide) ?_
            exact g_retZ X19 hx hret hlk rfl (hb hby at_128) ⟨rfl, N19⟩ (by decide) (by decide)
          · refine g_icmpN X0 hx 81 rfl (hb hby at_78) (XT.ii_lt_f c78) ?_
            refine g_iload_n X0 hx 82 rfl (hb hby at_81) rfl ?_
            refine g_iconst X0 hx 83 rfl (4 : Int32) rfl (hb hby at_82) ?_
            by_cases c83 : (4 : Int32) < (p1 % (8 : Int32))
            · refine g_icmpY X0 hx 90 (hb hby at_83) (XT.ii_gt_t c83) (by decide) (by decide) ?_
              refine g_iconst X0 hx 91 rfl (0 : Int32) rfl (hb hby at_90) ?_
              refine g_istore X0 hx 93 rfl (hb hby at_91) #[.val (.int p1), .val (.int p2), .val (.int ((1 : Int32) + (p2 &&& (3 : Int32)))), .val (.int (p1 % (8 : Int32))), .val (.int (0 : Int32))] rfl ?_
              refine g_goto X0 hx 113 (hb hby at_93) (by decide) (by decide) ?_
              refine g_iload_n X0 hx 114 rfl (hb hby at_113) rfl ?_
              refine g_iload_n X0 hx 115 rfl (hb hby at_114) rfl ?_
              refine g_callS X0 hx hZ 118 rfl (y := (⟨"com/example/maybe_set/maybeset/FilterFormat", "reads", "(II)Z"⟩ : MethodName)) hown (hw _ (List.mem_of_getElem? (i := 0) rfl)) (hw _ (List.mem_of_getElem? (i := 1) rfl)) (hw _ (List.mem_of_getElem? (i := 2) rfl)) (hw _ (List.mem_of_getElem? (i := 3) rfl)) (by decide) [.int (p1 % (8 : Int32)), .int ((1 : Int32) + (p2 &&& (3 : Int32)))] [] (rmR l Z a0 hw [] (p1 % (8 : Int32)) ((1 : Int32) + (p2 &&& (3 : Int32))) b i h0 n0 Z0 S Ab O hk' hi4) e0 (lenOf pd_1 rfl) rfl (by rw [hml]; rfl) (hb hby at_115) (by decide) 0 (Nat.le_of_eq rfl) (by decide) (by decide) (by decide) ?_
              rintro _ T20 L20 X20 ⟨rfl, N20q, e20⟩
              have N20 := Fr.app N0 N20q
              show Goes p e below (T20.setTop (mkF m 118 #[.val (.int p1), .val (.int p2), .val (.int ((1 : Int32) + (p2 &&& (3 : Int32)))), .val (.int (p1 % (8 : Int32))), .val (.int (0 : Int32))] [.int (b2i (own_reads (p1 % (8 : Int32)) ((1 : Int32) + (p2 &&& (3 : Int32)))))])) _
              refine g_iload X20 hx 120 rfl (hb hby at_118) rfl ?_
              refine g_icmpN X20 hx 123 rfl (hb hby at_120) (XT.ii_ne_f (by simp [own_reads, own_first, b2i, c23, c48, c73, c83])) ?_
              refine g_iconst X20 hx 124 rfl (1 : Int32) rfl (hb hby at_123) ?_
              refine g_goto X20 hx 128 (hb hby at_124) (by decide) (by decide) ?_
              exact g_retZ X20 hx hret hlk rfl (hb hby at_128) ⟨rfl, N20⟩ (by decide) (by decide)
            · refine g_icmpN X0 hx 86 rfl (hb hby at_83) (XT.ii_gt_f c83) ?_
              refine g_iconst X0 hx 87 rfl (1 : Int32) rfl (hb hby at_86) ?_
              refine g_goto X0 hx 91 (hb hby at_87) (by decide) (by decide) ?_
              refine g_istore X0 hx 93 rfl (hb hby at_91) #[.val (.int p1), .val (.int p2), .val (.int ((1 : Int32) + (p2 &&& (3 : Int32)))), .val (.int (p1 % (8 : Int32))), .val (.int (1 : Int32))] rfl ?_
              refine g_goto X0 hx 113 (hb hby at_93) (by decide) (by decide) ?_
              refine g_iload_n X0 hx 114 rfl (hb hby at_113) rfl ?_
              refine g_iload_n X0 hx 115 rfl (hb hby at_114) rfl ?_
              refine g_callS X0 hx hZ 118 rfl (y := (⟨"com/example/maybe_set/maybeset/FilterFormat", "reads", "(II)Z"⟩ : MethodName)) hown (hw _ (List.mem_of_getElem? (i := 0) rfl)) (hw _ (List.mem_of_getElem? (i := 1) rfl)) (hw _ (List.mem_of_getElem? (i := 2) rfl)) (hw _ (List.mem_of_getElem? (i := 3) rfl)) (by decide) [.int (p1 % (8 : Int32)), .int ((1 : Int32) + (p2 &&& (3 : Int32)))] [] (rmR l Z a0 hw [] (p1 % (8 : Int32)) ((1 : Int32) + (p2 &&& (3 : Int32))) b i h0 n0 Z0 S Ab O hk' hi4) e0 (lenOf pd_1 rfl) rfl (by rw [hml]; rfl) (hb hby at_115) (by decide) 0 (Nat.le_of_eq rfl) (by decide) (by decide) (by decide) ?_
              rintro _ T21 L21 X21 ⟨rfl, N21q, e21⟩
              have N21 := Fr.app N0 N21q
              show Goes p e below (T21.setTop (mkF m 118 #[.val (.int p1), .val (.int p2), .val (.int ((1 : Int32) + (p2 &&& (3 : Int32)))), .val (.int (p1 % (8 : Int32))), .val (.int (1 : Int32))] [.int (b2i (own_reads (p1 % (8 : Int32)) ((1 : Int32) + (p2 &&& (3 : Int32)))))])) _
              refine g_iload X21 hx 120 rfl (hb hby at_118) rfl ?_
              refine g_icmpN X21 hx 123 rfl (hb hby at_120) (XT.ii_ne_f (by simp [own_reads, own_first, b2i, c23, c48, c73, c78, c83])) ?_
              refine g_iconst X21 hx 124 rfl (1 : Int32) rfl (hb hby at_123) ?_
              refine g_goto X21 hx 128 (hb hby at_124) (by decide) (by decide) ?_
              exact g_retZ X21 hx hret hlk rfl (hb hby at_128) ⟨rfl, N21⟩ (by decide) (by decide)
        · refine g_icmpY X0 hx 96 (hb hby at_73) (XT.ii_ne_t c73) (by decide) (by decide) ?_
          refine g_iload_n X0 hx 97 rfl (hb hby at_96) rfl ?_
          refine g_iconst X0 hx 98 rfl (3 : Int32) rfl (hb hby at_97) ?_
          by_cases c98 : (p1 % (8 : Int32)) < (3 : Int32)
          · refine g_icmpY X0 hx 110 (hb hby at_98) (XT.ii_lt_t c98) (by decide) (by decide) ?_
            refine g_iconst X0 hx 111 rfl (0 : Int32) rfl (hb hby at_110) ?_
            refine g_istore X0 hx 113 rfl (hb hby at_111) #[.val (.int p1), .val (.int p2), .val (.int ((1 : Int32) + (p2 &&& (3 : Int32)))), .val (.int (p1 % (8 : Int32))), .val (.int (0 : Int32))] rfl ?_
            refine g_iload_n X0 hx 114 rfl (hb hby at_113) rfl ?_
            refine g_iload_n X0 hx 115 rfl (hb hby at_114) rfl ?_
            refine g_callS X0 hx hZ 118 rfl (y := (⟨"com/example/maybe_set/maybeset/FilterFormat", "reads", "(II)Z"⟩ : MethodName)) hown (hw _ (List.mem_of_getElem? (i := 0) rfl)) (hw _ (List.mem_of_getElem? (i := 1) rfl)) (hw _ (List.mem_of_getElem? (i := 2) rfl)) (hw _ (List.mem_of_getElem? (i := 3) rfl)) (by decide) [.int (p1 % (8 : Int32)), .int ((1 : Int32) + (p2 &&& (3 : Int32)))] [] (rmR l Z a0 hw [] (p1 % (8 : Int32)) ((1 : Int32) + (p2 &&& (3 : Int32))) b i h0 n0 Z0 S Ab O hk' hi4) e0 (lenOf pd_1 rfl) rfl (by rw [hml]; rfl) (hb hby at_115) (by decide) 0 (Nat.le_of_eq rfl) (by decide) (by decide) (by decide) ?_
            rintro _ T22 L22 X22 ⟨rfl, N22q, e22⟩
            have N22 := Fr.app N0 N22q
            show Goes p e below (T22.setTop (mkF m 118 #[.val (.int p1), .val (.int p2), .val (.int ((1 : Int32) + (p2 &&& (3 : Int32)))), .val (.int (p1 % (8 : Int32))), .val (.int (0 : Int32))] [.int (b2i (own_reads (p1 % (8 : Int32)) ((1 : Int32) + (p2 &&& (3 : Int32)))))])) _
            refine g_iload X22 hx 120 rfl (hb hby at_118) rfl ?_
            refine g_icmpN X22 hx 123 rfl (hb hby at_120) (XT.ii_ne_f (by simp [own_reads, own_first, b2i, c23, c48, c73, c98])) ?_
            refine g_iconst X22 hx 124 rfl (1 : Int32) rfl (hb hby at_123) ?_
            refine g_goto X22 hx 128 (hb hby at_124) (by decide) (by decide) ?_
            exact g_retZ X22 hx hret hlk rfl (hb hby at_128) ⟨rfl, N22⟩ (by decide) (by decide)
          · refine g_icmpN X0 hx 101 rfl (hb hby at_98) (XT.ii_lt_f c98) ?_
            refine g_iload_n X0 hx 102 rfl (hb hby at_101) rfl ?_
            refine g_iconst X0 hx 103 rfl (4 : Int32) rfl (hb hby at_102) ?_
            by_cases c103 : (4 : Int32) < (p1 % (8 : Int32))
            · refine g_icmpY X0 hx 110 (hb hby at_103) (XT.ii_gt_t c103) (by decide) (by decide) ?_
              refine g_iconst X0 hx 111 rfl (0 : Int32) rfl (hb hby at_110) ?_
              refine g_istore X0 hx 113 rfl (hb hby at_111) #[.val (.int p1), .val (.int p2), .val (.int ((1 : Int32) + (p2 &&& (3 : Int32)))), .val (.int (p1 % (8 : Int32))), .val (.int (0 : Int32))] rfl ?_
              refine g_iload_n X0 hx 114 rfl (hb hby at_113) rfl ?_
              refine g_iload_n X0 hx 115 rfl (hb hby at_114) rfl ?_
              refine g_callS X0 hx hZ 118 rfl (y := (⟨"com/example/maybe_set/maybeset/FilterFormat", "reads", "(II)Z"⟩ : MethodName)) hown (hw _ (List.mem_of_getElem? (i := 0) rfl)) (hw _ (List.mem_of_getElem? (i := 1) rfl)) (hw _ (List.mem_of_getElem? (i := 2) rfl)) (hw _ (List.mem_of_getElem? (i := 3) rfl)) (by decide) [.int (p1 % (8 : Int32)), .int ((1 : Int32) + (p2 &&& (3 : Int32)))] [] (rmR l Z a0 hw [] (p1 % (8 : Int32)) ((1 : Int32) + (p2 &&& (3 : Int32))) b i h0 n0 Z0 S Ab O hk' hi4) e0 (lenOf pd_1 rfl) rfl (by rw [hml]; rfl) (hb hby at_115) (by decide) 0 (Nat.le_of_eq rfl) (by decide) (by decide) (by decide) ?_
              rintro _ T23 L23 X23 ⟨rfl, N23q, e23⟩
              have N23 := Fr.app N0 N23q
              show Goes p e below (T23.setTop (mkF m 118 #[.val (.int p1), .val (.int p2), .val (.int ((1 : Int32) + (p2 &&& (3 : Int32)))), .val (.int (p1 % (8 : Int32))), .val (.int (0 : Int32))] [.int (b2i (own_reads (p1 % (8 : Int32)) ((1 : Int32) + (p2 &&& (3 : Int32)))))])) _
              refine g_iload X23 hx 120 rfl (hb hby at_118) rfl ?_
              refine g_icmpN X23 hx 123 rfl (hb hby at_120) (XT.ii_ne_f (by simp [own_reads, own_first, b2i, c23, c48, c73, c103])) ?_
              refine g_iconst X23 hx 124 rfl (1 : Int32) rfl (hb hby at_123) ?_
              refine g_goto X23 hx 128 (hb hby at_124) (by decide) (by decide) ?_
              exact g_retZ X23 hx hret hlk rfl (hb hby at_128) ⟨rfl, N23⟩ (by decide) (by decide)
            · refine g_icmpN X0 hx 106 rfl (hb hby at_103) (XT.ii_gt_f c103) ?_
              refine g_iconst X0 hx 107 rfl (1 : Int32) rfl (hb hby at_106) ?_
              refine g_goto X0 hx 111 (hb hby at_107) (by decide) (by decide) ?_
              refine g_istore X0 hx 113 rfl (hb hby at_111) #[.val (.int p1), .val (.int p2), .val (.int ((1 : Int32) + (p2 &&& (3 : Int32)))), .val (.int (p1 % (8 : Int32))), .val (.int (1 : Int32))] rfl ?_
              refine g_iload_n X0 hx 114 rfl (hb hby at_113) rfl ?_
              refine g_iload_n X0 hx 115 rfl (hb hby at_114) rfl ?_
              refine g_callS X0 hx hZ 118 rfl (y := (⟨"com/example/maybe_set/maybeset/FilterFormat", "reads", "(II)Z"⟩ : MethodName)) hown (hw _ (List.mem_of_getElem? (i := 0) rfl)) (hw _ (List.mem_of_getElem? (i := 1) rfl)) (hw _ (List.mem_of_getElem? (i := 2) rfl)) (hw _ (List.mem_of_getElem? (i := 3) rfl)) (by decide) [.int (p1 % (8 : Int32)), .int ((1 : Int32) + (p2 &&& (3 : Int32)))] [] (rmR l Z a0 hw [] (p1 % (8 : Int32)) ((1 : Int32) + (p2 &&& (3 : Int32))) b i h0 n0 Z0 S Ab O hk' hi4) e0 (lenOf pd_1 rfl) rfl (by rw [hml]; rfl) (hb hby at_115) (by decide) 0 (Nat.le_of_eq rfl) (by decide) (by decide) (by decide) ?_
              rintro _ T24 L24 X24 ⟨rfl, N24q, e24⟩
              have N24 := Fr.app N0 N24q
              show Goes p e below (T24.setTop (mkF m 118 #[.val (.int p1), .val (.int p2), .val (.int ((1 : Int32) + (p2 &&& (3 : Int32)))), .val (.int (p1 % (8 : Int32))), .val (.int (1 : Int32))] [.int (b2i (own_reads (p1 % (8 : Int32)) ((1 : Int32) + (p2 &&& (3 : Int32)))))])) _
              refine g_iload X24 hx 120 rfl (hb hby at_118) rfl ?_
              refine g_icmpN X24 hx 123 rfl (hb hby at_120) (XT.ii_ne_f (by simp [own_reads, own_first, b2i, c23, c48, c73, c98, c103])) ?_
              refine g_iconst X24 hx 124 rfl (1 : Int32) rfl (hb hby at_123) ?_
              refine g_goto X24 hx 128 (hb hby at_124) (by decide) (by decide) ?_
              exact g_retZ X24 hx hret hlk rfl (hb hby at_128) ⟨rfl, N24⟩ (by decide) (by decide)
set_option maxRecDepth 65536 in
set_option maxHeartbeats 40000000 in
theorem comes_1 {Post : Tables → Env → Array Value → State → Outcome → State → Prop} (hpost : ∀ tb e args s v u, (limb_1_1.after args s (.returned v) u = true ∧ limb_1_2.after args s (.returned v) u = true ∧ True) → FrameEnd s (.returned v) u (Jvm.fieldLocs frame_1_writes args s ++ Jvm.arrayLocs frame_1_arrays args s ++ Jvm.staticLocs frame_1_statics s) 0 0 → Post tb e args s (.returned v) u) :
    ArmFor flags0 classFile x code maxLocals ret World_1 tables_1 room_1 Calls_1 rest_1 Pre_1 Post := by
  intro l hfl _ _ p e ha hc hk s m args below hf hA hF happ hP
  obtain ⟨hcalls, hrest, hpre⟩ := hP
  obtain ⟨-, -, -, hnamed, -, -, -, hat⟩ := (Spec.applies_iff hf).mp happ
  obtain ⟨hg, hn⟩ := and_e (Cond.before_iff.mp (show (Jvm.Cond.and given_1 narrow_1).before args s = true from hpre))
  obtain ⟨h1, hr1⟩ := and_e hg
  obtain ⟨hk1, hr2⟩ := and_e hr1
  obtain ⟨w0, w1, rfl⟩ : ∃ w0 w1 : Value, args = #[w0, w1] := by
    have hs : args.size = 2 := by simpa [Cond.value, given_1] using h1
    obtain ⟨L⟩ := args
    match L, hs with
    | [w0, w1], _ => exact ⟨w0, w1, rfl⟩
  have hw := fun d (hd : d ∈ tables_1) => atoms_spec (ws := Jvm.Cond.code x code maxLocals ret :: tables_1) hat d (List.mem_cons_of_mem _ hd)
  have hfit : Fit s := fun {y c} hc i hi => by
    obtain ⟨ha, rfl⟩ := Array.getElem?_eq_some_iff.mp hc
    have q := List.all_eq_true.mp ((Array.all_eq_true_iff_forall_mem.mp hF) _ (Array.getElem_mem ha)) i (List.mem_range.mpr hi)
    simpa [Array.getElem?_eq_getElem hi] using q
  obtain ⟨i0, e0⟩ := is_v hk1
  obtain rfl : w0 = (.int i0) := Option.some.inj e0
  obtain ⟨i1, e1⟩ := is_v hr2
  obtain rfl : w1 = (.int i1) := Option.some.inj e1
  obtain ⟨k0, r0⟩ := and_e hn
  obtain ⟨k1, r1⟩ := and_e r0
  obtain ⟨k2, r2⟩ := and_e r1
  obtain ⟨k3, r3⟩ := and_e r2
  obtain ⟨k4, r4⟩ := and_e r3
  have k5 := r4
  obtain ⟨b, vb⟩ := arr_v k0
  have Sb : Sta s s.heap "com/example/maybe_set/maybeset/FilterFormat" "FIRST_VERSIONS" "[I" (.ref b) := Sta.start vb (Or.inr ⟨(hw _ (List.mem_of_getElem? (i := 2) rfl)), (hw _ (List.mem_of_getElem? (i := 8) rfl))⟩)
  obtain ⟨cl, Ar⟩ := Arr.start vb k0
  obtain ⟨z3, y3⟩ := elem_in (own_eqI k2) vb (Term.int_eval _) Ar.1
  obtain ⟨z1, y1⟩ := elem_in (own_eqI k3) vb (Term.int_eval _) Ar.1
  obtain ⟨z0, y0⟩ := elem_in (own_eqI k4) vb (Term.int_eval _) Ar.1
  obtain ⟨z2, y2⟩ := elem_in (own_eqI k5) vb (Term.int_eval _) Ar.1
  obtain ⟨b', cl', q1, q2, q3, q4⟩ := Lib.length_spec (own_eqI k1)
  cases vb.symm.trans q1
  cases (Ar.fin (Vm.Alike.refl _)).symm.trans q2
  have hlen : cl.slots.size = 4 := by have q5 := len_toInt q3; rw [← Value.int.inj q4] at q5; have q6 : (4 : Int32).toInt = 4 := rfl; omega
  have Ab : Al s s.heap b .int [.int 1, .int 1, .int 2, .int 3] := by
    refine ⟨cl, Ar, ?_, by decide⟩
    apply List.ext_getElem?
    intro i
    rw [Array.getElem?_toList]
    match i with
    | 0 => exact y0
    | 1 => exact y1
    | 2 => exact y2
    | 3 => exact y3
    | (k + 4) => rw [Array.getElem?_eq_none (by omega)]; rfl
  obtain ⟨n, o, h1, h2, h3, _, L, rfl, ⟨rfl, N⟩, hq⟩ := rm0 l s _ hw tables_1 i0 i1 b s.heap s.heap.size (Nat.le_refl _) Sb Ab (Old.start s) p e ha hc hk s m _ below hf ((Spec.applies_iff_loose hf).mp happ).1 ⟨rfl, State.Warmed39.refl s, rfl⟩ trivial
  refine ⟨n, _, h1, h2, h3, hpost _ _ _ _ _ _ ⟨Cond.after_iff.mpr rfl, Cond.after_iff.mpr (eq_i res_at (Term.int_eval (1)) rfl), trivial⟩ ⟨hq.1, hq.2.1, (hq.2.2.sift fun y hy => Or.inr (N y hy)).mono (by decide) (by decide)⟩⟩
theorem main_1_1 : Claimed_1_1 := comes_1 fun _ _ _ _ _ _ h hF => ⟨h.1, hF⟩
theorem main_1_2 : Claimed_1_2 := comes_1 fun _ _ _ _ _ _ h hF => ⟨h.2.1, hF⟩
end Jvm.Pilot.@@N@@
namespace Jvm.Pilot.@@N@@
open Jvm Jvm.ClassFile Sem Op Lib Jvm.Free Jvm.Stand Jvm.Pilot.@@N@@.Jvm.D
/-! MADE BY PROGRAM (witnessworld.py) out of the Statement's table words and the real class files: 9 classes; the members and pool entries that the words name. The judged class is class 1, her method 1. -/
namespace start1
open Jvm.ClassFile
def u (s : String) : CpInfo := .utf8 (stringToUtf16 s)
/-- a pool by its gaps: so many unusable entries, then the entry; so many at the end -/
def gap : Nat → List CpInfo → List CpInfo
  | 0, r => r
  | n + 1, r => .unusable :: gap n r
def poolList (es : List (Nat × CpInfo)) (last : Nat) : List CpInfo := es.foldr (fun e r => gap e.1 (e.2 :: r)) (gap last [])
def pool (es : List (Nat × CpInfo)) (last : Nat) : Array CpInfo := ⟨poolList es last⟩
def fileOf (pool : Array CpInfo) (this : Nat) (attrs : Array Attribute := #[]) (ms : Array MethodInfo := #[]) (fl : Nat := 33) (sup : Nat := 0) (ifs : Array Nat := #[]) (fds : Array FieldInfo := #[]) : ClassFile where
  minorVersion := 0
  majorVersion := 65
  constantPool := pool
  accessFlags := fl
  thisClass := this
  superClass := sup
  interfaces := ifs
  fields := fds
  methods := ms
  attributes := attrs
def plain (name : String) (sup : Option ClassId) : Class where
  name := name
  kind := .ordinary
  loader := none
  accessFlags := 33
  super := sup
  interfaces := #[]
  cf := none
  fields := #[]
  methods := #[]
  instanceTypes := #[]
  staticTypes := #[]
  resolved := #[]
  callSites := []
  init := .initialized
  statics := none
  mirror := none

def pool0 : Array CpInfo := pool [(5, u "<init>"), (0, u "()V"), (1, .class_ 10), (1, u "java/lang/Object")] 113

def k0m0 : Method := { name := "<init>", desc := "()V", sig := { parameters := [], returnType := none }, accessFlags := 1, code := none }
/-- java/lang/Object -/
def k0 : Class := { plain "java/lang/Object" none with
  accessFlags := 33
  interfaces := #[]
  cf := some (fileOf pool0 8 #[] #[{ accessFlags := 1, nameIndex := 5, descriptorIndex := 6, attributes := #[] }] 33 0 #[] #[])
  fields := #[]
  methods := #[k0m0]
  instanceTypes := #[]
  staticTypes := #[]
  resolved := Array.replicate 124 none
  statics := none }

def pool1 : Array CpInfo := pool [(2, .class_ 4), (1, u "java/lang/Object"), (0, u "<init>"), (0, u "()V"), (0, .methodref 8 9), (0, .class_ 10), (0, .nameAndType 11 12), (0, u "com/example/maybe_set/maybeset/FilterFormat"), (0, u "reads"), (0, u "(II)Z"), (0, .class_ 14), (0, u "com/example/maybe_set/maybeset/FilterFormatReadsPinLaw"), (2, u "law")] 3

def k1m0 : Method := { name := "<init>", desc := "()V", sig := { parameters := [], returnType := none }, accessFlags := 2, code := none }
def k1c1 : Code := { maxStack := 3, maxLocals := 5, code := code, exceptionTable := #[], attributes := #[] }
def k1m1 : Method := { name := "law", desc := "(II)Z", sig := { parameters := [.int, .int], returnType := some .boolean }, accessFlags := 9, code := some k1c1 }
/-- com/example/maybe_set/maybeset/FilterFormatReadsPinLaw -/
def k1 : Class := { plain "com/example/maybe_set/maybeset/FilterFormatReadsPinLaw" (some 0) with
  accessFlags := 49
  interfaces := #[]
  cf := some (fileOf pool1 13 #[] #[{ accessFlags := 2, nameIndex := 5, descriptorIndex := 6, attributes := #[] }, { accessFlags := 9, nameIndex := 17, descriptorIndex := 12, attributes := #[] }] 49 2 #[] #[])
  fields := #[]
  methods := #[k1m0, k1m1]
  instanceTypes := #[]
  staticTypes := #[]
  resolved := Array.replicate 21 none
  statics := none }

def pool2 : Array CpInfo := pool [(2, .class_ 4), (1, u "java/lang/Object"), (0, u "<init>"), (0, u "()V"), (0, .fieldref 8 9), (0, .class_ 10), (0, .nameAndType 11 12), (0, u "com/example/maybe_set/maybeset/FilterFormat"), (0, u "FIRST_VERSIONS"), (0, u "[I"), (0, .methodref 8 14), (0, .nameAndType 15 16), (0, u "firstVersion"), (0, u "(I)I"), (5, u "Lcom/example/maybe_set/maybeset/Positions$Rule;"), (4, .class_ 29), (1, u "com/example/maybe_set/maybeset/FilterFormat$1"), (23, .class_ 54), (0, u "com/example/maybe_set/maybeset/FilterFormat$Writer"), (5, u "MAGIC"), (0, u "[B"), (4, .class_ 67), (0, u "com/example/maybe_set/maybeset/FilterFormat$Reader"), (24, u "reads"), (0, u "(II)Z"), (13, u "I"), (44, u "NEW_POSITIONS"), (0, u "VERSION"), (2, u "BLOOM_FILTER"), (1, u "COUNTING_BLOOM_FILTER"), (1, u "CUCKOO_FILTER"), (1, u "GROWING_BLOOM_FILTER"), (0, u "MIXED_POSITIONS_VERSION"), (0, u "CHUNK_BYTES"), (1, u "ERROR_ENDS"), (0, u "Ljava/lang/String;"), (2, u "ERROR_MAGIC"), (0, u "ERROR_VERSION"), (0, u "ERROR_KIND"), (0, u "ERROR_RULE"), (0, u "ERROR_PADDING"), (2, u "ERROR_CHECKSUM")] 45

def k2m0 : Method := { name := "<init>", desc := "()V", sig := { parameters := [], returnType := none }, accessFlags := 2, code := none }
def k2c1 : Code := { maxStack := 3, maxLocals := 1, code := prog_5_method_2_code, exceptionTable := #[], attributes := #[] }
def k2m1 : Method := { name := "firstVersion", desc := "(I)I", sig := { parameters := [.int], returnType := some .int }, accessFlags := 8, code := some k2c1 }
def k2c2 : Code := { maxStack := 2, maxLocals := 2, code := prog_5_method_3_code, exceptionTable := #[], attributes := #[] }
def k2m2 : Method := { name := "reads", desc := "(II)Z", sig := { parameters := [.int, .int], returnType := some .boolean }, accessFlags := 8, code := some k2c2 }
/-- com/example/maybe_set/maybeset/FilterFormat -/
def k2 : Class := { plain "com/example/maybe_set/maybeset/FilterFormat" (some 0) with
  accessFlags := 32
  interfaces := #[]
  cf := some (fileOf pool2 8 #[.nestMembers #[27, 66, 53]] #[{ accessFlags := 2, nameIndex := 5, descriptorIndex := 6, attributes := #[] }, { accessFlags := 8, nameIndex := 15, descriptorIndex := 16, attributes := #[] }, { accessFlags := 8, nameIndex := 92, descriptorIndex := 93, attributes := #[] }] 32 2 #[] #[{ accessFlags := 24, nameIndex := 153, descriptorIndex := 107, attributes := #[] }, { accessFlags := 24, nameIndex := 156, descriptorIndex := 107, attributes := #[] }, { accessFlags := 24, nameIndex := 158, descriptorIndex := 107, attributes := #[] }, { accessFlags := 24, nameIndex := 160, descriptorIndex := 107, attributes := #[] }, { accessFlags := 24, nameIndex := 162, descriptorIndex := 107, attributes := #[] }, { accessFlags := 26, nameIndex := 11, descriptorIndex := 12, attributes := #[] }, { accessFlags := 26, nameIndex := 163, descriptorIndex := 107, attributes := #[] }, { accessFlags := 24, nameIndex := 152, descriptorIndex := 22, attributes := #[] }, { accessFlags := 26, nameIndex := 60, descriptorIndex := 61, attributes := #[] }, { accessFlags := 26, nameIndex := 164, descriptorIndex := 107, attributes := #[] }, { accessFlags := 26, nameIndex := 166, descriptorIndex := 167, attributes := #[] }, { accessFlags := 26, nameIndex := 170, descriptorIndex := 167, attributes := #[] }, { accessFlags := 26, nameIndex := 171, descriptorIndex := 167, attributes := #[] }, { accessFlags := 26, nameIndex := 172, descriptorIndex := 167, attributes := #[] }, { accessFlags := 26, nameIndex := 173, descriptorIndex := 167, attributes := #[] }, { accessFlags := 26, nameIndex := 174, descriptorIndex := 167, attributes := #[] }, { accessFlags := 26, nameIndex := 177, descriptorIndex := 167, attributes := #[] }])
  fields := #[{ name := "VERSION", type := .int, accessFlags := 24, slot := 0, constantValue := 0 }, { name := "BLOOM_FILTER", type := .int, accessFlags := 24, slot := 1, constantValue := 0 }, { name := "COUNTING_BLOOM_FILTER", type := .int, accessFlags := 24, slot := 2, constantValue := 0 }, { name := "CUCKOO_FILTER", type := .int, accessFlags := 24, slot := 3, constantValue := 0 }, { name := "GROWING_BLOOM_FILTER", type := .int, accessFlags := 24, slot := 4, constantValue := 0 }, { name := "FIRST_VERSIONS", type := (.array .int), accessFlags := 26, slot := 5, constantValue := 0 }, { name := "MIXED_POSITIONS_VERSION", type := .int, accessFlags := 26, slot := 6, constantValue := 0 }, { name := "NEW_POSITIONS", type := (.object "com/example/maybe_set/maybeset/Positions$Rule"), accessFlags := 24, slot := 7, constantValue := 0 }, { name := "MAGIC", type := (.array .byte), accessFlags := 26, slot := 8, constantValue := 0 }, { name := "CHUNK_BYTES", type := .int, accessFlags := 26, slot := 9, constantValue := 0 }, { name := "ERROR_ENDS", type := (.object "java/lang/String"), accessFlags := 26, slot := 10, constantValue := 0 }, { name := "ERROR_MAGIC", type := (.object "java/lang/String"), accessFlags := 26, slot := 11, constantValue := 0 }, { name := "ERROR_VERSION", type := (.object "java/lang/String"), accessFlags := 26, slot := 12, constantValue := 0 }, { name := "ERROR_KIND", type := (.object "java/lang/String"), accessFlags := 26, slot := 13, constantValue := 0 }, { name := "ERROR_RULE", type := (.object "java/lang/String"), accessFlags := 26, slot := 14, constantValue := 0 }, { name := "ERROR_PADDING", type := (.object "java/lang/String"), accessFlags := 26, slot := 15, constantValue := 0 }, { name := "ERROR_CHECKSUM", type := (.object "java/lang/String"), accessFlags := 26, slot := 16, constantValue := 0 }]
  methods := #[k2m0, k2m1, k2m2]
  instanceTypes := #[]
  staticTypes := #[.int, .int, .int, .int, .int, (.array .int), .int, (.object "com/example/maybe_set/maybeset/Positions$Rule"), (.array .byte), .int, (.object "java/lang/String"), (.object "java/lang/String"), (.object "java/lang/String"), (.object "java/lang/String"), (.object "java/lang/String"), (.object "java/lang/String"), (.object "java/lang/String")]
  resolved := Array.replicate 223 none
  statics := some 0 }

def pool3 : Array CpInfo := pool [(1, u "java/lang/Cloneable"), (0, .class_ 1), (0, u "java/lang/Object"), (0, .class_ 3)] 3

/-- java/lang/Cloneable -/
def k3 : Class := { plain "java/lang/Cloneable" (some 0) with
  accessFlags := 1537
  interfaces := #[]
  cf := some (fileOf pool3 2 #[] #[] 1537 4 #[] #[])
  fields := #[]
  methods := #[]
  instanceTypes := #[]
  staticTypes := #[]
  resolved := Array.replicate 8 none
  statics := none }

def pool4 : Array CpInfo := pool [(1, u "java/io/Serializable"), (0, .class_ 1), (0, u "java/lang/Object"), (0, .class_ 3)] 3

/-- java/io/Serializable -/
def k4 : Class := { plain "java/io/Serializable" (some 0) with
  accessFlags := 1537
  interfaces := #[]
  cf := some (fileOf pool4 2 #[] #[] 1537 4 #[] #[])
  fields := #[]
  methods := #[]
  instanceTypes := #[]
  staticTypes := #[]
  resolved := Array.replicate 8 none
  statics := none }

/-- the primitive byte -/
def k5 : Class := { plain "byte" none with kind := .primitive 'B', accessFlags := 0x411 }
/-- [B -/
def k6 : Class := { plain "[B" (some 0) with kind := .array 5 .byte, interfaces := #[3, 4], accessFlags := 1041 }

/-- the primitive int -/
def k7 : Class := { plain "int" none with kind := .primitive 'I', accessFlags := 0x411 }
/-- [I -/
def k8 : Class := { plain "[I" (some 0) with kind := .array 7 .int, interfaces := #[3, 4], accessFlags := 1041 }

def heap : Heap := #[{ cls := 2, slots := #[.int 0, .int 0, .int 0, .int 0, .int 0, .ref 1, .int 0, .null, .null, .int 0, .null, .null, .null, .null, .null, .null, .null], vm := .statics 2 },
  { cls := 8, slots := #[.int 1, .int 1, .int 2, .int 3], vm := .none }]
def classes : Array Class := #[k0, k1, k2, k3, k4, k5, k6, k7, k8]
def interned : List (Array UInt16 × Addr) := []
def slotsUsed : Nat := 21
def theMethod : MethodId := ⟨1, 1⟩
def args0 : Array Value := #[.int 3, .int 6]
def aboutOver (below : List Frame) : State where
  vm := { classes := classes, interned := interned.toArray }
  heap := heap
  slotsUsed := slotsUsed
  threads := #[{ frames := .invoking theMethod args0 :: below }]
def below0 : List Frame := [.native { method := ⟨0, 0⟩, args := #[] }]
def about1 : State := aboutOver below0
def p0 : Program := .bare "" "" ""
def e0 : Env := launch0.env 0 0 0
theorem w_frames : about1.frames = Frame.invoking theMethod args0 :: below0 := rfl
set_option maxRecDepth 65536 in
theorem w_args : argsFit about1.vm theMethod args0 = true := by decide +kernel
set_option maxRecDepth 65536 in
theorem w_heap : heapFits about1 = true := by decide +kernel
set_option maxRecDepth 65536 in
theorem w_runnable : about1.curStatus? = some .runnable := by decide +kernel
set_option maxRecDepth 65536 in
theorem w_alone : about1.alone = true := by decide +kernel
set_option maxRecDepth 65536 in
theorem w_named : about1.methodNamed? x = some theMethod := by decide +kernel
set_option maxRecDepth 65536 in
theorem w_hears : about1.hears theMethod below0 = true := by decide +kernel
set_option maxRecDepth 65536 in
theorem w_ripe : about1.ripe theMethod args0 below0 = true := by decide +kernel
theorem w_running : about1.status = .running := rfl
set_option maxRecDepth 65536 in
theorem w_room : about1.hasRoom e0.platform room_1 = true :=
  launch0.hasRoom_least _ room_1 (by decide +kernel) (by decide +kernel) (by decide +kernel) (by decide +kernel) (by decide +kernel) (by decide +kernel)
theorem allAtoms_all (ts : List Jvm.Cond) (a : Array Jvm.Value) (st : Jvm.State) : (allAtoms ts).before a st = ts.all (fun c => c.before a st) := by
  induction ts with
  | nil => rfl
  | cons c t ih =>
    show (Jvm.Cond.and c (allAtoms t)).before a st = _
    rw [Jvm.Cond.before_and, ih, List.all_cons]
def words1 : List Jvm.Cond := Jvm.Cond.code x code maxLocals ret :: tables_1
/-- a 'code' word, met by the world's own term for the bytes: nothing is compared byte by byte -/
theorem code_word {y : MethodName} {bytes : ByteArray} {mx : Nat} {rt : Option FieldType} {a : Array Value} {s : State} {m : MethodId} {meth : Method} {c : Code} (h1 : s.methodNamed? y = some m) (h2 : s.vm.method? m = some meth) (h3 : meth.code = some c) (h4 : c.code = bytes)
    (h5 : (c.maxLocals == mx && c.exceptionTable.isEmpty && decide (c.maxStack ≤ mostOperands) && decide (meth.sig.returnType = rt) && !meth.locks && decide (parseMethodDescriptor y.desc = some meth.sig)) = true) : (Jvm.Cond.code y bytes mx rt).before a s = true := by
  simp only [Bool.and_eq_true, beq_iff_eq, Bool.not_eq_true', decide_eq_true_eq] at h5
  obtain ⟨⟨⟨⟨⟨g1, g2⟩, g3⟩, g4⟩, g5⟩, g6⟩ := h5
  simp [Cond.before, Cond.holds, Cond.value, h1, h2, h3, h4, g1, g2, g3, g4, g5, g6]
def isCode : Jvm.Cond → Bool
  | .code _ _ _ _ => true
  | _ => false
theorem all_split {L : List Jvm.Cond} {P : Jvm.Cond → Bool} (h1 : L.all (fun c => isCode c || P c) = true) (h2 : ∀ c ∈ L.filter isCode, P c = true) : L.all P = true := by
  refine List.all_eq_true.mpr fun c hc => ?_
  have h := List.all_eq_true.mp h1 c hc
  rcases Bool.eq_false_or_eq_true (isCode c) with hi | hi
  · exact h2 c (List.mem_filter.mpr ⟨hc, hi⟩)
  · simpa [hi] using h
set_option maxRecDepth 65536 in
theorem w_c0 : (Jvm.Cond.code x code maxLocals ret).before args0 about1 = true := code_word (m := ⟨1, 1⟩) (meth := k1m1) (c := k1c1) (by decide +kernel) rfl rfl rfl (by decide +kernel)
set_option maxRecDepth 65536 in
theorem w_c1 : (Jvm.Cond.code ({ cls := "com/example/maybe_set/maybeset/FilterFormat", name := "reads", desc := "(II)Z" } : Jvm.MethodName) prog_5_method_3_code (2 : Nat) (Option.some Jvm.ClassFile.FieldType.boolean)).before args0 about1 = true := code_word (m := ⟨2, 2⟩) (meth := k2m2) (c := k2c2) (by decide +kernel) rfl rfl rfl (by decide +kernel)
set_option maxRecDepth 65536 in
theorem w_c2 : (Jvm.Cond.code ({ cls := "com/example/maybe_set/maybeset/FilterFormat", name := "firstVersion", desc := "(I)I" } : Jvm.MethodName) prog_5_method_2_code (1 : Nat) (Option.some Jvm.ClassFile.FieldType.int)).before args0 about1 = true := code_word (m := ⟨2, 1⟩) (meth := k2m1) (c := k2c1) (by decide +kernel) rfl rfl rfl (by decide +kernel)
def codes1 : List Jvm.Cond := [Jvm.Cond.code x code maxLocals ret, Jvm.Cond.code ({ cls := "com/example/maybe_set/maybeset/FilterFormat", name := "reads", desc := "(II)Z" } : Jvm.MethodName) prog_5_method_3_code (2 : Nat) (Option.some Jvm.ClassFile.FieldType.boolean), Jvm.Cond.code ({ cls := "com/example/maybe_set/maybeset/FilterFormat", name := "firstVersion", desc := "(I)I" } : Jvm.MethodName) prog_5_method_2_code (1 : Nat) (Option.some Jvm.ClassFile.FieldType.int)]
set_option maxRecDepth 65536 in
theorem codes_eq : words1.filter isCode = codes1 := rfl
theorem w_codes : ∀ c ∈ words1.filter isCode, c.before args0 about1 = true := by
  rw [codes_eq]
  intro c hc
  simp only [codes1, List.mem_cons, List.not_mem_nil, or_false] at hc
  rcases hc with rfl | rfl | rfl
  · exact w_c0
  · exact w_c1
  · exact w_c2
set_option maxRecDepth 65536 in
theorem w_t1 : words1.all (fun c => isCode c || c.before args0 about1) = true := by decide +kernel
theorem w_tables : (allAtoms (Jvm.Cond.code x code maxLocals ret :: tables_1)).before args0 about1 = true := by
  rw [allAtoms_all]
  show words1.all (fun c => c.before args0 about1) = true
  refine all_split ?_ w_codes
  rw [w_t1]
set_option maxRecDepth 65536 in
theorem w_case : (Jvm.Cond.and given_1 narrow_1).before args0 about1 = true := by decide +kernel
theorem w_applies : (headSpec (Jvm.Cond.code x code maxLocals ret :: tables_1) room_1).applies x e0.platform about1 = true :=
  (Spec.applies_iff w_frames).mpr ⟨w_running, w_runnable, w_alone, w_named, w_hears, w_ripe, w_room, w_tables⟩
theorem atStart : AtStart classFile x code maxLocals ret World_1 tables_1 room_1 Calls_1 rest_1 Pre_1 launch0 p0 e0 about1 theMethod args0 below0 :=
  ⟨lists_1, trivial, launch0.admits_env _ _ _, launch0.least_env, fairChoices_fair.cas, fairChoices_fair.clock, w_frames, w_args, w_heap, w_applies, trivial, trivial, w_case⟩
end start1
theorem witness_1 : WitnessClaimed_1 := ⟨start1.p0, start1.e0, start1.about1, start1.theMethod, start1.args0, start1.below0, start1.atStart⟩
end Jvm.Pilot.@@N@@
