import JvmDerived
import JvmDerived.Pilot.@@N@@Statement
import JvmDerived.Pilot.@@N@@Code
set_option linter.unusedVariables false
set_option linter.unusedSimpArgs false
namespace Jvm.Pilot.@@N@@
open Jvm Jvm.ClassFile Sem Op Lib Jvm.Free Jvm.Stand Jvm.LawKit Jvm.RoadKit Bundle Jvm.Pilot.@@N@@.Jvm.D
section OwnKit
variable {p : Program} {l : Launch} {e : Env} {R : Room} {s : State} {m : MethodId} {args : Array Value} {below : List Frame} {meth : Method} {c : Code} {T : State} {locs : List Loc} {cells slots : Nat} {P : State → Outcome → Prop} {Z : State} {a0 : Array Value} {h : Heap} {pc : Nat} {Ls : Array Slot} {st : List Value}
def Goes (p : Program) (e : Env) (below : List Frame) (S : State) (P : State → Outcome → Prop) : Prop := ∃ (U : State) (o : Outcome), Steps p.tables e below S U ∧ U.status = .running ∧ Ended U below o ∧ P U o
def Endz (s : State) (kc ks : Nat) (Q : Option Value → Heap → List Loc → Prop) (U : State) (o : Outcome) : Prop := ∃ v L, o = .returned v ∧ Q v U.heap L ∧ FrameEnd s o U L kc ks
theorem go {S S' : State} (hs : ∀ t, Steps p.tables e below S' t → Steps p.tables e below S t) (k : Goes p e below S' P) : Goes p e below S P := by
  obtain ⟨U, o, k1, k2⟩ := k
  exact ⟨U, o, hs U k1, k2⟩
theorem goT {S S' : State} (hs : Steps p.tables e below S S') (k : Goes p e below S' P) : Goes p e below S P := by
  obtain ⟨U, o, k1, k2⟩ := k
  exact ⟨U, o, hs.trans k1, k2⟩
theorem own_cast {g g' : JFrame} (q : g = g') (k : Goes p e below (T.setTop g') P) : Goes p e below (T.setTop g) P := q ▸ k
abbrev OwnMet (l : Launch) (Z : State) (y : MethodName) (bytes : ByteArray) (maxL : Nat) (ret : Option FieldType) (ws : List Jvm.Cond) (rm : Room) (as' : Array Value) (h : Heap) (Q : Option Value → Heap → List Loc → Prop) : Prop := MetFree l y (head1 (Jvm.Cond.code y bytes maxL ret :: ws) rm) (fun a U => a = as' ∧ Z.Warmed39 U.vm ∧ U.heap = h) (fun _ _ _ _ _ => True) (fun _ U o U' => ∃ v L, o = .returned v ∧ Q v U'.heap L ∧ FrameEnd U o U' L rm.cells rm.slots)
theorem own_body {y : MethodName} {bytes : ByteArray} {maxL : Nat} {ret : Option FieldType} {ws : List Jvm.Cond} {rm : Room} {as' : Array Value} {Q : Option Value → Heap → List Loc → Prop} (hpn : plainFor y = true)
    (B : ∀ (p : Program) (e : Env) (s : State) (m : MethodId) (below : List Frame) (meth : Method) (c : Code) (s₁ : State), p.tables.exec = Jvm.exec → c.code = bytes → c.maxLocals = maxL → s.vm.findClass y.cls = some m.cls → meth.name = y.name → meth.sig.returnType = ret → meth.locks = false → Z.Warmed39 s.vm → Stand p l e rm s m as' below meth c s₁ [] 0 0 → s₁.heap = h → Goes p e below (s₁.setTop (entryFrame m as' maxL)) (Endz s rm.cells rm.slots Q)) : OwnMet l Z y bytes maxL ret ws rm as' h Q := by
  refine MetFree.of_bodySF hpn hisR ?_
  intro p e s m args below meth c s₁ Bd hml0 hP hK
  obtain ⟨rfl, hZ, hh⟩ := hP
  exact B p e s m below meth c s₁ Bd.exec Bd.bytes hml0 (findClass_of_methodNamed Bd.named) (name_of_methodNamed Bd.named Bd.method).1 Bd.returns (BodyLoose.notSynchronized Bd) hZ (Stand.of_body Bd) (by rw [← hh, Bd.state]; rfl)
theorem g_ret {w : Value} {t : FieldType} {i : Instr} {kc ks : Nat} {Q : Option Value → Heap → List Loc → Prop} (X : Stand p l e R s m args below meth c T locs cells slots) (hx : p.tables.exec = Jvm.exec) (hret : meth.sig.returnType = some t) (hlk : meth.locks = false) (hn : narrow t w = w)
    (hi : (i = .ireturn ∧ (t = .int ∨ t = .boolean ∨ t = .byte ∨ t = .char ∨ t = .short) ∧ ∃ z, w = .int z) ∨ (i = .lreturn ∧ t = .long ∧ ∃ z, w = .long z) ∨ (i = .dreturn ∧ t = .double ∧ ∃ z, w = .double z) ∨ (i = .freturn ∧ t = .float ∧ ∃ z, w = .float z) ∨ (i = .areturn ∧ t.isReference = true ∧ w.isRef = true))
    (hd : decode c.code pc = .ok (i, 1)) (hQ : Q (some w) T.heap locs) (hc : cells ≤ kc) (hs : slots ≤ ks) : Goes p e below (T.setTop (mkF m pc Ls (w :: st))) (Endz s kc ks Q) := by
  obtain ⟨fs, hr, hrun, hended, hW, hsame⟩ := X.leave (v := some w) (fun h => by rw [hret] at h; cases h) hlk
  exact ⟨_, _, retOut X hx hret hn hi hd hr, hrun, hended, _, _, rfl, hQ, ⟨_, rfl⟩, hW, hsame.mono hc hs⟩
theorem g_retI {z : Int32} {kc ks : Nat} {Q : Option Value → Heap → List Loc → Prop} (X : Stand p l e R s m args below meth c T locs cells slots) (hx : p.tables.exec = Jvm.exec) (hret : meth.sig.returnType = some .int) (hlk : meth.locks = false) (hd : decode c.code pc = .ok (.ireturn, 1)) (hQ : Q (some (.int z)) T.heap locs) (hc : cells ≤ kc) (hs : slots ≤ ks) : Goes p e below (T.setTop (mkF m pc Ls (.int z :: st))) (Endz s kc ks Q) :=
  g_ret X hx hret hlk rfl (Or.inl ⟨rfl, Or.inl rfl, z, rfl⟩) hd hQ hc hs
theorem g_retZ {z : Int32} {kc ks : Nat} {Q : Option Value → Heap → List Loc → Prop} (X : Stand p l e R s m args below meth c T locs cells slots) (hx : p.tables.exec = Jvm.exec) (hret : meth.sig.returnType = some .boolean) (hlk : meth.locks = false) (hn : narrow .boolean (.int z) = .int z) (hd : decode c.code pc = .ok (.ireturn, 1)) (hQ : Q (some (.int z)) T.heap locs) (hc : cells ≤ kc) (hs : slots ≤ ks) : Goes p e below (T.setTop (mkF m pc Ls (.int z :: st))) (Endz s kc ks Q) :=
  g_ret X hx hret hlk hn (Or.inl ⟨rfl, Or.inr (Or.inl rfl), z, rfl⟩) hd hQ hc hs
theorem g_retJ {z : Int64} {kc ks : Nat} {Q : Option Value → Heap → List Loc → Prop} (X : Stand p l e R s m args below meth c T locs cells slots) (hx : p.tables.exec = Jvm.exec) (hret : meth.sig.returnType = some .long) (hlk : meth.locks = false) (hd : decode c.code pc = .ok (.lreturn, 1)) (hQ : Q (some (.long z)) T.heap locs) (hc : cells ≤ kc) (hs : slots ≤ ks) : Goes p e below (T.setTop (mkF m pc Ls (.long z :: st))) (Endz s kc ks Q) :=
  g_ret X hx hret hlk rfl (Or.inr (Or.inl ⟨rfl, rfl, z, rfl⟩)) hd hQ hc hs
theorem g_retA {w : Value} {t : FieldType} {kc ks : Nat} {Q : Option Value → Heap → List Loc → Prop} (X : Stand p l e R s m args below meth c T locs cells slots) (hx : p.tables.exec = Jvm.exec) (hret : meth.sig.returnType = some t) (hlk : meth.locks = false) (hn : narrow t w = w) (ht : t.isReference = true) (hw : w.isRef = true) (hd : decode c.code pc = .ok (.areturn, 1)) (hQ : Q (some w) T.heap locs) (hc : cells ≤ kc) (hs : slots ≤ ks) : Goes p e below (T.setTop (mkF m pc Ls (w :: st))) (Endz s kc ks Q) :=
  g_ret X hx hret hlk hn (Or.inr (Or.inr (Or.inr (Or.inr ⟨rfl, ht, hw⟩)))) hd hQ hc hs
theorem g_ret0 {kc ks : Nat} {Q : Option Value → Heap → List Loc → Prop} (X : Stand p l e R s m args below meth c T locs cells slots) (hx : p.tables.exec = Jvm.exec) (hret : meth.sig.returnType = none) (hlk : meth.locks = false) (hd : decode c.code pc = .ok (.return_, 1)) (hQ : Q none T.heap locs) (hc : cells ≤ kc) (hs : slots ≤ ks) : Goes p e below (T.setTop (mkF m pc Ls [])) (Endz s kc ks Q) := by
  obtain ⟨fs, hr, hrun, hended, hW, hsame⟩ := X.leave (v := none) (fun _ => rfl) hlk
  exact ⟨_, _, X.returnOut hx hret hd hr, hrun, hended, _, _, rfl, hQ, ⟨_, rfl⟩, hW, hsame.mono hc hs⟩
theorem g_iadd (X : Stand p l e R s m args below meth c T locs cells slots) (hx : p.tables.exec = Jvm.exec) (pc' : Nat) (hpc : pc + 1 = pc') {x y : Int32} (hd : decode c.code pc = .ok (.iadd, 1))  (K : Goes p e below (T.setTop (mkF m pc' Ls (.int (x + y) :: st))) P) : Goes p e below (T.setTop (mkF m pc Ls (.int y :: .int x :: st))) P := by
  subst hpc; exact go (fun _ q => XS.iadd X.here hx rfl hd rfl q) K
theorem g_isub (X : Stand p l e R s m args below meth c T locs cells slots) (hx : p.tables.exec = Jvm.exec) (pc' : Nat) (hpc : pc + 1 = pc') {x y : Int32} (hd : decode c.code pc = .ok (.isub, 1))  (K : Goes p e below (T.setTop (mkF m pc' Ls (.int (x - y) :: st))) P) : Goes p e below (T.setTop (mkF m pc Ls (.int y :: .int x :: st))) P := by
  subst hpc; exact go (fun _ q => XS.isub X.here hx rfl hd rfl q) K
theorem g_imul (X : Stand p l e R s m args below meth c T locs cells slots) (hx : p.tables.exec = Jvm.exec) (pc' : Nat) (hpc : pc + 1 = pc') {x y : Int32} (hd : decode c.code pc = .ok (.imul, 1))  (K : Goes p e below (T.setTop (mkF m pc' Ls (.int (x * y) :: st))) P) : Goes p e below (T.setTop (mkF m pc Ls (.int y :: .int x :: st))) P := by
  subst hpc; exact go (fun _ q => XS.imul X.here hx rfl hd rfl q) K
theorem g_iand (X : Stand p l e R s m args below meth c T locs cells slots) (hx : p.tables.exec = Jvm.exec) (pc' : Nat) (hpc : pc + 1 = pc') {x y : Int32} (hd : decode c.code pc = .ok (.iand, 1))  (K : Goes p e below (T.setTop (mkF m pc' Ls (.int (x &&& y) :: st))) P) : Goes p e below (T.setTop (mkF m pc Ls (.int y :: .int x :: st))) P := by
  subst hpc; exact go (fun _ q => XS.iand X.here hx rfl hd rfl q) K
theorem g_ior (X : Stand p l e R s m args below meth c T locs cells slots) (hx : p.tables.exec = Jvm.exec) (pc' : Nat) (hpc : pc + 1 = pc') {x y : Int32} (hd : decode c.code pc = .ok (.ior, 1))  (K : Goes p e below (T.setTop (mkF m pc' Ls (.int (x ||| y) :: st))) P) : Goes p e below (T.setTop (mkF m pc Ls (.int y :: .int x :: st))) P := by
  subst hpc; exact go (fun _ q => XT.ior X.here hx rfl hd rfl q) K
theorem g_ixor (X : Stand p l e R s m args below meth c T locs cells slots) (hx : p.tables.exec = Jvm.exec) (pc' : Nat) (hpc : pc + 1 = pc') {x y : Int32} (hd : decode c.code pc = .ok (.ixor, 1))  (K : Goes p e below (T.setTop (mkF m pc' Ls (.int (x ^^^ y) :: st))) P) : Goes p e below (T.setTop (mkF m pc Ls (.int y :: .int x :: st))) P := by
  subst hpc; exact go (fun _ q => XT.ixor X.here hx rfl hd rfl q) K
theorem g_ishl (X : Stand p l e R s m args below meth c T locs cells slots) (hx : p.tables.exec = Jvm.exec) (pc' : Nat) (hpc : pc + 1 = pc') {x y : Int32} (hd : decode c.code pc = .ok (.ishl, 1))  (K : Goes p e below (T.setTop (mkF m pc' Ls (.int (x <<< (y &&& 31)) :: st))) P) : Goes p e below (T.setTop (mkF m pc Ls (.int y :: .int x :: st))) P := by
  subst hpc; exact go (fun _ q => XT.ishl X.here hx rfl hd rfl q) K
theorem g_ishr (X : Stand p l e R s m args below meth c T locs cells slots) (hx : p.tables.exec = Jvm.exec) (pc' : Nat) (hpc : pc + 1 = pc') {x y : Int32} (hd : decode c.code pc = .ok (.ishr, 1))  (K : Goes p e below (T.setTop (mkF m pc' Ls (.int (x >>> (y &&& 31)) :: st))) P) : Goes p e below (T.setTop (mkF m pc Ls (.int y :: .int x :: st))) P := by
  subst hpc; exact go (fun _ q => XT.ishr X.here hx rfl hd rfl q) K
theorem g_iushr (X : Stand p l e R s m args below meth c T locs cells slots) (hx : p.tables.exec = Jvm.exec) (pc' : Nat) (hpc : pc + 1 = pc') {x y : Int32} (hd : decode c.code pc = .ok (.iushr, 1))  (K : Goes p e below (T.setTop (mkF m pc' Ls (.int (XT.ushr x y) :: st))) P) : Goes p e below (T.setTop (mkF m pc Ls (.int y :: .int x :: st))) P := by
  subst hpc; exact go (fun _ q => XT.iushr X.here hx rfl hd rfl q) K
theorem g_idiv (X : Stand p l e R s m args below meth c T locs cells slots) (hx : p.tables.exec = Jvm.exec) (pc' : Nat) (hpc : pc + 1 = pc') {x y : Int32} (hd : decode c.code pc = .ok (.idiv, 1)) (hy : y ≠ 0) (K : Goes p e below (T.setTop (mkF m pc' Ls (.int (x / y) :: st))) P) : Goes p e below (T.setTop (mkF m pc Ls (.int y :: .int x :: st))) P := by
  subst hpc; exact go (fun _ q => XS.idiv X.here hx rfl hd rfl hy q) K
theorem g_irem (X : Stand p l e R s m args below meth c T locs cells slots) (hx : p.tables.exec = Jvm.exec) (pc' : Nat) (hpc : pc + 1 = pc') {x y : Int32} (hd : decode c.code pc = .ok (.irem, 1)) (hy : y ≠ 0) (K : Goes p e below (T.setTop (mkF m pc' Ls (.int (x % y) :: st))) P) : Goes p e below (T.setTop (mkF m pc Ls (.int y :: .int x :: st))) P := by
  subst hpc; exact go (fun _ q => iremM X hx rfl hd rfl hy q) K
theorem g_ineg (X : Stand p l e R s m args below meth c T locs cells slots) (hx : p.tables.exec = Jvm.exec) (pc' : Nat) (hpc : pc + 1 = pc') {x : Int32} (hd : decode c.code pc = .ok (.ineg, 1))  (K : Goes p e below (T.setTop (mkF m pc' Ls (.int (-x) :: st))) P) : Goes p e below (T.setTop (mkF m pc Ls (.int x :: st))) P := by
  subst hpc; exact go (fun _ q => XS.ineg X.here hx rfl hd rfl q) K
theorem g_ladd (X : Stand p l e R s m args below meth c T locs cells slots) (hx : p.tables.exec = Jvm.exec) (pc' : Nat) (hpc : pc + 1 = pc') {x y : Int64} (hd : decode c.code pc = .ok (.ladd, 1))  (K : Goes p e below (T.setTop (mkF m pc' Ls (.long (x + y) :: st))) P) : Goes p e below (T.setTop (mkF m pc Ls (.long y :: .long x :: st))) P := by
  subst hpc; exact go (fun _ q => XT.ladd X.here hx rfl hd rfl q) K
theorem g_lsub (X : Stand p l e R s m args below meth c T locs cells slots) (hx : p.tables.exec = Jvm.exec) (pc' : Nat) (hpc : pc + 1 = pc') {x y : Int64} (hd : decode c.code pc = .ok (.lsub, 1))  (K : Goes p e below (T.setTop (mkF m pc' Ls (.long (x - y) :: st))) P) : Goes p e below (T.setTop (mkF m pc Ls (.long y :: .long x :: st))) P := by
  subst hpc; exact go (fun _ q => XT.lsub X.here hx rfl hd rfl q) K
theorem g_lmul (X : Stand p l e R s m args below meth c T locs cells slots) (hx : p.tables.exec = Jvm.exec) (pc' : Nat) (hpc : pc + 1 = pc') {x y : Int64} (hd : decode c.code pc = .ok (.lmul, 1))  (K : Goes p e below (T.setTop (mkF m pc' Ls (.long (x * y) :: st))) P) : Goes p e below (T.setTop (mkF m pc Ls (.long y :: .long x :: st))) P := by
  subst hpc; exact go (fun _ q => XT.lmul X.here hx rfl hd rfl q) K
theorem g_land (X : Stand p l e R s m args below meth c T locs cells slots) (hx : p.tables.exec = Jvm.exec) (pc' : Nat) (hpc : pc + 1 = pc') {x y : Int64} (hd : decode c.code pc = .ok (.land, 1))  (K : Goes p e below (T.setTop (mkF m pc' Ls (.long (x &&& y) :: st))) P) : Goes p e below (T.setTop (mkF m pc Ls (.long y :: .long x :: st))) P := by
  subst hpc; exact go (fun _ q => XT.land X.here hx rfl hd rfl q) K
theorem g_lor (X : Stand p l e R s m args below meth c T locs cells slots) (hx : p.tables.exec = Jvm.exec) (pc' : Nat) (hpc : pc + 1 = pc') {x y : Int64} (hd : decode c.code pc = .ok (.lor, 1))  (K : Goes p e below (T.setTop (mkF m pc' Ls (.long (x ||| y) :: st))) P) : Goes p e below (T.setTop (mkF m pc Ls (.long y :: .long x :: st))) P := by
  subst hpc; exact go (fun _ q => XT.lor X.here hx rfl hd rfl q) K
theorem g_lxor (X : Stand p l e R s m args below meth c T locs cells slots) (hx : p.tables.exec = Jvm.exec) (pc' : Nat) (hpc : pc + 1 = pc') {x y : Int64} (hd : decode c.code pc = .ok (.lxor, 1))  (K : Goes p e below (T.setTop (mkF m pc' Ls (.long (x ^^^ y) :: st))) P) : Goes p e below (T.setTop (mkF m pc Ls (.long y :: .long x :: st))) P := by
  subst hpc; exact go (fun _ q => XT.lxor X.here hx rfl hd rfl q) K
theorem g_lshl (X : Stand p l e R s m args below meth c T locs cells slots) (hx : p.tables.exec = Jvm.exec) (pc' : Nat) (hpc : pc + 1 = pc') {x : Int64} {y : Int32} (hd : decode c.code pc = .ok (.lshl, 1))  (K : Goes p e below (T.setTop (mkF m pc' Ls (.long (x <<< (y.toInt64 &&& 63)) :: st))) P) : Goes p e below (T.setTop (mkF m pc Ls (.int y :: .long x :: st))) P := by
  subst hpc; exact go (fun _ q => XT.lshl X.here hx rfl hd rfl q) K
theorem g_lshr (X : Stand p l e R s m args below meth c T locs cells slots) (hx : p.tables.exec = Jvm.exec) (pc' : Nat) (hpc : pc + 1 = pc') {x : Int64} {y : Int32} (hd : decode c.code pc = .ok (.lshr, 1))  (K : Goes p e below (T.setTop (mkF m pc' Ls (.long (x >>> (y.toInt64 &&& 63)) :: st))) P) : Goes p e below (T.setTop (mkF m pc Ls (.int y :: .long x :: st))) P := by
  subst hpc; exact go (fun _ q => XT.lshr X.here hx rfl hd rfl q) K
theorem g_lushr (X : Stand p l e R s m args below meth c T locs cells slots) (hx : p.tables.exec = Jvm.exec) (pc' : Nat) (hpc : pc + 1 = pc') {x : Int64} {y : Int32} (hd : decode c.code pc = .ok (.lushr, 1))  (K : Goes p e below (T.setTop (mkF m pc' Ls (.long (XT.ushrL x y) :: st))) P) : Goes p e below (T.setTop (mkF m pc Ls (.int y :: .long x :: st))) P := by
  subst hpc; exact go (fun _ q => XT.lushr X.here hx rfl hd rfl q) K
theorem g_ldiv (X : Stand p l e R s m args below meth c T locs cells slots) (hx : p.tables.exec = Jvm.exec) (pc' : Nat) (hpc : pc + 1 = pc') {x y : Int64} (hd : decode c.code pc = .ok (.ldiv, 1)) (hy : y ≠ 0) (K : Goes p e below (T.setTop (mkF m pc' Ls (.long (x / y) :: st))) P) : Goes p e below (T.setTop (mkF m pc Ls (.long y :: .long x :: st))) P := by
  subst hpc; exact go (fun _ q => XT.ldiv X.here hx rfl hd rfl hy q) K
theorem g_lrem (X : Stand p l e R s m args below meth c T locs cells slots) (hx : p.tables.exec = Jvm.exec) (pc' : Nat) (hpc : pc + 1 = pc') {x y : Int64} (hd : decode c.code pc = .ok (.lrem, 1)) (hy : y ≠ 0) (K : Goes p e below (T.setTop (mkF m pc' Ls (.long (x % y) :: st))) P) : Goes p e below (T.setTop (mkF m pc Ls (.long y :: .long x :: st))) P := by
  subst hpc; exact go (fun _ q => XT.lrem X.here hx rfl hd rfl hy (by rw [lrem_mod]; exact q)) K
theorem g_lneg (X : Stand p l e R s m args below meth c T locs cells slots) (hx : p.tables.exec = Jvm.exec) (pc' : Nat) (hpc : pc + 1 = pc') {x : Int64} (hd : decode c.code pc = .ok (.lneg, 1))  (K : Goes p e below (T.setTop (mkF m pc' Ls (.long (-x) :: st))) P) : Goes p e below (T.setTop (mkF m pc Ls (.long x :: st))) P := by
  subst hpc; exact go (fun _ q => XT.lneg X.here hx rfl hd rfl q) K
theorem g_i2l (X : Stand p l e R s m args below meth c T locs cells slots) (hx : p.tables.exec = Jvm.exec) (pc' : Nat) (hpc : pc + 1 = pc') {x : Int32} (hd : decode c.code pc = .ok (.i2l, 1))  (K : Goes p e below (T.setTop (mkF m pc' Ls (.long x.toInt64 :: st))) P) : Goes p e below (T.setTop (mkF m pc Ls (.int x :: st))) P := by
  subst hpc; exact go (fun _ q => XT.i2l X.here hx rfl hd rfl q) K
theorem g_l2i (X : Stand p l e R s m args below meth c T locs cells slots) (hx : p.tables.exec = Jvm.exec) (pc' : Nat) (hpc : pc + 1 = pc') {x : Int64} (hd : decode c.code pc = .ok (.l2i, 1))  (K : Goes p e below (T.setTop (mkF m pc' Ls (.int x.toInt32 :: st))) P) : Goes p e below (T.setTop (mkF m pc Ls (.long x :: st))) P := by
  subst hpc; exact go (fun _ q => XT.l2i X.here hx rfl hd rfl q) K
theorem g_i2b (X : Stand p l e R s m args below meth c T locs cells slots) (hx : p.tables.exec = Jvm.exec) (pc' : Nat) (hpc : pc + 1 = pc') {x : Int32} (hd : decode c.code pc = .ok (.i2b, 1))  (K : Goes p e below (T.setTop (mkF m pc' Ls (.int x.toInt8.toInt32 :: st))) P) : Goes p e below (T.setTop (mkF m pc Ls (.int x :: st))) P := by
  subst hpc; exact go (fun _ q => XT.i2b X.here hx rfl hd rfl q) K
theorem g_i2c (X : Stand p l e R s m args below meth c T locs cells slots) (hx : p.tables.exec = Jvm.exec) (pc' : Nat) (hpc : pc + 1 = pc') {x : Int32} (hd : decode c.code pc = .ok (.i2c, 1))  (K : Goes p e below (T.setTop (mkF m pc' Ls (.int x.toUInt32.toUInt16.toUInt32.toInt32 :: st))) P) : Goes p e below (T.setTop (mkF m pc Ls (.int x :: st))) P := by
  subst hpc; exact go (fun _ q => XT.i2c X.here hx rfl hd rfl q) K
theorem g_i2s (X : Stand p l e R s m args below meth c T locs cells slots) (hx : p.tables.exec = Jvm.exec) (pc' : Nat) (hpc : pc + 1 = pc') {x : Int32} (hd : decode c.code pc = .ok (.i2s, 1))  (K : Goes p e below (T.setTop (mkF m pc' Ls (.int x.toInt16.toInt32 :: st))) P) : Goes p e below (T.setTop (mkF m pc Ls (.int x :: st))) P := by
  subst hpc; exact go (fun _ q => XT.i2s X.here hx rfl hd rfl q) K
theorem g_lcmp (X : Stand p l e R s m args below meth c T locs cells slots) (hx : p.tables.exec = Jvm.exec) (pc' : Nat) (hpc : pc + 1 = pc') {x y : Int64} (hd : decode c.code pc = .ok (.lcmp, 1))  (K : Goes p e below (T.setTop (mkF m pc' Ls (.int (XT.cmpL x y) :: st))) P) : Goes p e below (T.setTop (mkF m pc Ls (.long y :: .long x :: st))) P := by
  subst hpc; exact go (fun _ q => XT.lcmp X.here hx rfl hd rfl q) K
theorem g_dup (X : Stand p l e R s m args below meth c T locs cells slots) (hx : p.tables.exec = Jvm.exec) (pc' : Nat) (hpc : pc + 1 = pc') {x : Value} (hd : decode c.code pc = .ok (.dup, 1)) (hc : x.category = 1) (K : Goes p e below (T.setTop (mkF m pc' Ls (x :: x :: st))) P) : Goes p e below (T.setTop (mkF m pc Ls (x :: st))) P := by
  subst hpc; exact go (fun _ q => XS.dup X.here hx rfl hd rfl hc q) K
theorem g_pop (X : Stand p l e R s m args below meth c T locs cells slots) (hx : p.tables.exec = Jvm.exec) (pc' : Nat) (hpc : pc + 1 = pc') {x : Value} (hd : decode c.code pc = .ok (.pop, 1)) (hc : x.category = 1) (K : Goes p e below (T.setTop (mkF m pc' Ls (st))) P) : Goes p e below (T.setTop (mkF m pc Ls (x :: st))) P := by
  subst hpc; exact go (fun _ q => XT.pop X.here hx rfl hd rfl hc q) K
theorem g_dup_x1 (X : Stand p l e R s m args below meth c T locs cells slots) (hx : p.tables.exec = Jvm.exec) (pc' : Nat) (hpc : pc + 1 = pc') {x y : Value} (hd : decode c.code pc = .ok (.dup_x1, 1)) (hc : x.category = 1) (hc' : y.category = 1) (K : Goes p e below (T.setTop (mkF m pc' Ls (x :: y :: x :: st))) P) : Goes p e below (T.setTop (mkF m pc Ls (x :: y :: st))) P := by
  subst hpc; exact go (fun _ q => XT.dupX1 X.here hx rfl hd rfl hc hc' q) K
theorem g_dup2 (X : Stand p l e R s m args below meth c T locs cells slots) (hx : p.tables.exec = Jvm.exec) (pc' : Nat) (hpc : pc + 1 = pc') {x y : Value} (hd : decode c.code pc = .ok (.dup2, 1)) (hc : x.category = 1) (hc' : y.category = 1) (K : Goes p e below (T.setTop (mkF m pc' Ls (x :: y :: x :: y :: st))) P) : Goes p e below (T.setTop (mkF m pc Ls (x :: y :: st))) P := by
  subst hpc; exact go (fun _ q => XT.dup2 X.here hx rfl hd rfl hc hc' q) K
theorem g_dup2L (X : Stand p l e R s m args below meth c T locs cells slots) (hx : p.tables.exec = Jvm.exec) (pc' : Nat) (hpc : pc + 1 = pc') {x : Int64} (hd : decode c.code pc = .ok (.dup2, 1))  (K : Goes p e below (T.setTop (mkF m pc' Ls (.long x :: .long x :: st))) P) : Goes p e below (T.setTop (mkF m pc Ls (.long x :: st))) P := by
  subst hpc; exact go (fun _ q => XT.dup2L X.here hx rfl hd rfl q) K
theorem g_iconst (X : Stand p l e R s m args below meth c T locs cells slots) (hx : p.tables.exec = Jvm.exec) (pc' : Nat) (hpc : pc + 1 = pc') {i : Int} (v : Int32) (hv : Int32.ofInt i = v) (hd : decode c.code pc = .ok (.iconst i, 1))  (K : Goes p e below (T.setTop (mkF m pc' Ls (.int v :: st))) P) : Goes p e below (T.setTop (mkF m pc Ls (st))) P := by
  subst hpc; exact go (fun _ q => XS.iconst X.here hx rfl hd (by rw [hv]; exact q)) K
theorem g_bipush (X : Stand p l e R s m args below meth c T locs cells slots) (hx : p.tables.exec = Jvm.exec) (pc' : Nat) (hpc : pc + 2 = pc') {i : Int} (v : Int32) (hv : (Int8.ofInt i).toInt32 = v) (hd : decode c.code pc = .ok (.bipush i, 2))  (K : Goes p e below (T.setTop (mkF m pc' Ls (.int v :: st))) P) : Goes p e below (T.setTop (mkF m pc Ls (st))) P := by
  subst hpc; exact go (fun _ q => XS.bipush X.here hx rfl hd (by rw [hv]; exact q)) K
theorem g_sipush (X : Stand p l e R s m args below meth c T locs cells slots) (hx : p.tables.exec = Jvm.exec) (pc' : Nat) (hpc : pc + 3 = pc') {i : Int} (v : Int32) (hv : (Int16.ofInt i).toInt32 = v) (hd : decode c.code pc = .ok (.sipush i, 3))  (K : Goes p e below (T.setTop (mkF m pc' Ls (.int v :: st))) P) : Goes p e below (T.setTop (mkF m pc Ls (st))) P := by
  subst hpc; exact go (fun _ q => XS.sipush X.here hx rfl hd (by rw [hv]; exact q)) K
theorem g_lconst (X : Stand p l e R s m args below meth c T locs cells slots) (hx : p.tables.exec = Jvm.exec) (pc' : Nat) (hpc : pc + 1 = pc') {k : Fin 2} (v : Int64) (hv : Int64.ofNat k = v) (hd : decode c.code pc = .ok (.lconst k, 1))  (K : Goes p e below (T.setTop (mkF m pc' Ls (.long v :: st))) P) : Goes p e below (T.setTop (mkF m pc Ls (st))) P := by
  subst hpc; exact go (fun _ q => XT.lconst X.here hx rfl hd (by rw [hv]; exact q)) K
theorem g_aconst_null (X : Stand p l e R s m args below meth c T locs cells slots) (hx : p.tables.exec = Jvm.exec) (pc' : Nat) (hpc : pc + 1 = pc')  (hd : decode c.code pc = .ok (.aconst_null, 1))  (K : Goes p e below (T.setTop (mkF m pc' Ls (.null :: st))) P) : Goes p e below (T.setTop (mkF m pc Ls (st))) P := by
  subst hpc; exact go (fun _ q => XS.aconstNull X.here hx rfl hd q) K
theorem g_ldcI (X : Stand p l e R s m args below meth c T locs cells slots) (hx : p.tables.exec = Jvm.exec) (pc' : Nat) (hpc : pc + 2 = pc') {own : String} {index : Nat} {v : Int32} (hown : s.vm.findClass own = some m.cls) (hZ : Z.Warmed39 s.vm) (w : (Jvm.Cond.constant own index v).before a0 Z = true) (hd : decode c.code pc = .ok (.ldc index, 2))  (K : Goes p e below (T.setTop (mkF m pc' Ls (.int v :: st))) P) : Goes p e below (T.setTop (mkF m pc Ls (st))) P := by
  subst hpc; exact go (fun _ q => X.ldcInt hx hown (mvT hZ w) (g := mkF m pc Ls st) rfl hd _ q) K
theorem g_ldcWI (X : Stand p l e R s m args below meth c T locs cells slots) (hx : p.tables.exec = Jvm.exec) (pc' : Nat) (hpc : pc + 3 = pc') {own : String} {index : Nat} {v : Int32} (hown : s.vm.findClass own = some m.cls) (hZ : Z.Warmed39 s.vm) (w : (Jvm.Cond.constant own index v).before a0 Z = true) (hd : decode c.code pc = .ok (.ldc_w index, 3))  (K : Goes p e below (T.setTop (mkF m pc' Ls (.int v :: st))) P) : Goes p e below (T.setTop (mkF m pc Ls (st))) P := by
  subst hpc; exact go (fun _ q => X.ldcWInt hx hown (mvT hZ w) (g := mkF m pc Ls st) rfl hd _ q) K
theorem g_ldcJ (X : Stand p l e R s m args below meth c T locs cells slots) (hx : p.tables.exec = Jvm.exec) (pc' : Nat) (hpc : pc + 3 = pc') {own : String} {index : Nat} {v : Int64} (hown : s.vm.findClass own = some m.cls) (hZ : Z.Warmed39 s.vm) (w : (Jvm.Cond.constantLong own index v).before a0 Z = true) (hd : decode c.code pc = .ok (.ldc2_w index, 3))  (K : Goes p e below (T.setTop (mkF m pc' Ls (.long v :: st))) P) : Goes p e below (T.setTop (mkF m pc Ls (st))) P := by
  subst hpc; exact go (fun _ q => X.ldc2Long hx hown (mvT hZ w) (g := mkF m pc Ls st) rfl hd _ q) K
theorem g_iload_n (X : Stand p l e R s m args below meth c T locs cells slots) (hx : p.tables.exec = Jvm.exec) (pc' : Nat) (hpc : pc + 1 = pc') {k : Fin 4} {v : Int32} (hd : decode c.code pc = .ok (.iload_n k, 1)) (hl : Ls[k.val]? = some (.val (.int v))) (K : Goes p e below (T.setTop (mkF m pc' Ls (.int v :: st))) P) : Goes p e below (T.setTop (mkF m pc Ls (st))) P := by
  subst hpc; exact go (fun _ q => XS.iloadN X.here hx rfl hd hl q) K
theorem g_iload (X : Stand p l e R s m args below meth c T locs cells slots) (hx : p.tables.exec = Jvm.exec) (pc' : Nat) (hpc : pc + 2 = pc') {k : Nat} {v : Int32} (hd : decode c.code pc = .ok (.iload k, 2)) (hl : Ls[k]? = some (.val (.int v))) (K : Goes p e below (T.setTop (mkF m pc' Ls (.int v :: st))) P) : Goes p e below (T.setTop (mkF m pc Ls (st))) P := by
  subst hpc; exact go (fun _ q => XS.iload X.here hx rfl hd hl q) K
theorem g_lload_n (X : Stand p l e R s m args below meth c T locs cells slots) (hx : p.tables.exec = Jvm.exec) (pc' : Nat) (hpc : pc + 1 = pc') {k : Fin 4} {v : Int64} (hd : decode c.code pc = .ok (.lload_n k, 1)) (hl : Ls[k.val]? = some (.val (.long v))) (K : Goes p e below (T.setTop (mkF m pc' Ls (.long v :: st))) P) : Goes p e below (T.setTop (mkF m pc Ls (st))) P := by
  subst hpc; exact go (fun _ q => XT.lloadN X.here hx rfl hd hl q) K
theorem g_lload (X : Stand p l e R s m args below meth c T locs cells slots) (hx : p.tables.exec = Jvm.exec) (pc' : Nat) (hpc : pc + 2 = pc') {k : Nat} {v : Int64} (hd : decode c.code pc = .ok (.lload k, 2)) (hl : Ls[k]? = some (.val (.long v))) (K : Goes p e below (T.setTop (mkF m pc' Ls (.long v :: st))) P) : Goes p e below (T.setTop (mkF m pc Ls (st))) P := by
  subst hpc; exact go (fun _ q => XT.lload X.here hx rfl hd hl q) K
theorem g_aload_n (X : Stand p l e R s m args below meth c T locs cells slots) (hx : p.tables.exec = Jvm.exec) (pc' : Nat) (hpc : pc + 1 = pc') {k : Fin 4} {v : Value} (hd : decode c.code pc = .ok (.aload_n k, 1)) (hl : Ls[k.val]? = some (.val v)) (hv : v.isRef = true) (K : Goes p e below (T.setTop (mkF m pc' Ls (v :: st))) P) : Goes p e below (T.setTop (mkF m pc Ls (st))) P := by
  subst hpc; exact go (fun _ q => XS.aloadN X.here hx rfl hd hl hv q) K
theorem g_aload (X : Stand p l e R s m args below meth c T locs cells slots) (hx : p.tables.exec = Jvm.exec) (pc' : Nat) (hpc : pc + 2 = pc') {k : Nat} {v : Value} (hd : decode c.code pc = .ok (.aload k, 2)) (hl : Ls[k]? = some (.val v)) (hv : v.isRef = true) (K : Goes p e below (T.setTop (mkF m pc' Ls (v :: st))) P) : Goes p e below (T.setTop (mkF m pc Ls (st))) P := by
  subst hpc; exact go (fun _ q => XS.aload X.here hx rfl hd hl hv q) K
theorem g_istore_n (X : Stand p l e R s m args below meth c T locs cells slots) (hx : p.tables.exec = Jvm.exec) (pc' : Nat) (hpc : pc + 1 = pc') {k : Fin 4} {x : Int32} (hd : decode c.code pc = .ok (.istore_n k, 1))  (l' : Array Slot) (hl : storeLocals Ls k.val (.int x) = some l') (K : Goes p e below (T.setTop (mkF m pc' l' st)) P) : Goes p e below (T.setTop (mkF m pc Ls (.int x :: st))) P := by
  subst hpc; exact go (fun _ q => XS.istoreN X.here hx rfl hd rfl hl q) K
theorem g_istore (X : Stand p l e R s m args below meth c T locs cells slots) (hx : p.tables.exec = Jvm.exec) (pc' : Nat) (hpc : pc + 2 = pc') {k : Nat} {x : Int32} (hd : decode c.code pc = .ok (.istore k, 2))  (l' : Array Slot) (hl : storeLocals Ls k (.int x) = some l') (K : Goes p e below (T.setTop (mkF m pc' l' st)) P) : Goes p e below (T.setTop (mkF m pc Ls (.int x :: st))) P := by
  subst hpc; exact go (fun _ q => XS.istore X.here hx rfl hd rfl hl q) K
theorem g_lstore_n (X : Stand p l e R s m args below meth c T locs cells slots) (hx : p.tables.exec = Jvm.exec) (pc' : Nat) (hpc : pc + 1 = pc') {k : Fin 4} {x : Int64} (hd : decode c.code pc = .ok (.lstore_n k, 1))  (l' : Array Slot) (hl : storeLocals Ls k.val (.long x) = some l') (K : Goes p e below (T.setTop (mkF m pc' l' st)) P) : Goes p e below (T.setTop (mkF m pc Ls (.long x :: st))) P := by
  subst hpc; exact go (fun _ q => XT.lstoreN X.here hx rfl hd rfl hl q) K
theorem g_lstore (X : Stand p l e R s m args below meth c T locs cells slots) (hx : p.tables.exec = Jvm.exec) (pc' : Nat) (hpc : pc + 2 = pc') {k : Nat} {x : Int64} (hd : decode c.code pc = .ok (.lstore k, 2))  (l' : Array Slot) (hl : storeLocals Ls k (.long x) = some l') (K : Goes p e below (T.setTop (mkF m pc' l' st)) P) : Goes p e below (T.setTop (mkF m pc Ls (.long x :: st))) P := by
  subst hpc; exact go (fun _ q => XT.lstore X.here hx rfl hd rfl hl q) K
theorem g_astore_n (X : Stand p l e R s m args below meth c T locs cells slots) (hx : p.tables.exec = Jvm.exec) (pc' : Nat) (hpc : pc + 1 = pc') {k : Fin 4} {x : Value} (hd : decode c.code pc = .ok (.astore_n k, 1)) (hv : x.isRef = true) (l' : Array Slot) (hl : storeLocals Ls k.val x = some l') (K : Goes p e below (T.setTop (mkF m pc' l' st)) P) : Goes p e below (T.setTop (mkF m pc Ls (x :: st))) P := by
  subst hpc; exact go (fun _ q => XS.astoreN X.here hx rfl hd rfl hv hl q) K
theorem g_astore (X : Stand p l e R s m args below meth c T locs cells slots) (hx : p.tables.exec = Jvm.exec) (pc' : Nat) (hpc : pc + 2 = pc') {k : Nat} {x : Value} (hd : decode c.code pc = .ok (.astore k, 2)) (hv : x.isRef = true) (l' : Array Slot) (hl : storeLocals Ls k x = some l') (K : Goes p e below (T.setTop (mkF m pc' l' st)) P) : Goes p e below (T.setTop (mkF m pc Ls (x :: st))) P := by
  subst hpc; exact go (fun _ q => XS.astore X.here hx rfl hd rfl hv hl q) K
theorem g_iinc (X : Stand p l e R s m args below meth c T locs cells slots) (hx : p.tables.exec = Jvm.exec) (pc' : Nat) (hpc : pc + 3 = pc') {k : Nat} {cst : Int} {x : Int32} (hd : decode c.code pc = .ok (.iinc k cst, 3)) (v : Int32) (hv : x + Int32.ofInt cst = v) (hl : Ls[k]? = some (.val (.int x))) (l' : Array Slot) (hl' : storeLocals Ls k (.int v) = some l') (K : Goes p e below (T.setTop (mkF m pc' l' st)) P) : Goes p e below (T.setTop (mkF m pc Ls st)) P := by
  subst hpc; subst hv; exact go (fun _ q => XS.iinc X.here hx rfl hd hl hl' q) K
theorem g_goto (X : Stand p l e R s m args below meth c T locs cells slots) (hx : p.tables.exec = Jvm.exec) (pc' : Nat) {o : Int} (hd : decode c.code pc = .ok (.goto o, 3)) (ho : 0 ≤ (pc : Int) + o) (hp : ((pc : Int) + o).toNat = pc') (K : Goes p e below (T.setTop (mkF m pc' Ls st)) P) : Goes p e below (T.setTop (mkF m pc Ls st)) P :=
  go (fun _ q => XS.goto X.here hx rfl rfl hd ho hp q) K
theorem g_ifY (X : Stand p l e R s m args below meth c T locs cells slots) (hx : p.tables.exec = Jvm.exec) (pc' : Nat) {o : Int} {cd : ClassFile.Cond} {x : Int32} (hd : decode c.code pc = .ok (.ifCond cd o, 3)) (hc : ifCond.holds cd x = true) (ho : 0 ≤ (pc : Int) + o) (hp : ((pc : Int) + o).toNat = pc') (K : Goes p e below (T.setTop (mkF m pc' Ls st)) P) : Goes p e below (T.setTop (mkF m pc Ls (.int x :: st))) P :=
  go (fun _ q => XS.ifYes X.here hx rfl rfl hd rfl hc ho hp q) K
theorem g_ifN (X : Stand p l e R s m args below meth c T locs cells slots) (hx : p.tables.exec = Jvm.exec) (pc' : Nat) (hpc : pc + 3 = pc') {o : Int} {cd : ClassFile.Cond} {x : Int32} (hd : decode c.code pc = .ok (.ifCond cd o, 3)) (hc : ifCond.holds cd x = false) (K : Goes p e below (T.setTop (mkF m pc' Ls st)) P) : Goes p e below (T.setTop (mkF m pc Ls (.int x :: st))) P := by
  subst hpc; exact go (fun _ q => XS.ifNo X.here hx rfl hd rfl hc q) K
theorem g_icmpY (X : Stand p l e R s m args below meth c T locs cells slots) (hx : p.tables.exec = Jvm.exec) (pc' : Nat) {o : Int} {cd : ClassFile.Cond} {x y : Int32} (hd : decode c.code pc = .ok (.if_icmp cd o, 3)) (hc : if_icmp.holds cd x y = true) (ho : 0 ≤ (pc : Int) + o) (hp : ((pc : Int) + o).toNat = pc') (K : Goes p e below (T.setTop (mkF m pc' Ls st)) P) : Goes p e below (T.setTop (mkF m pc Ls (.int y :: .int x :: st))) P :=
  go (fun _ q => XS.icmpYes X.here hx rfl rfl hd rfl hc ho hp q) K
theorem g_icmpN (X : Stand p l e R s m args below meth c T locs cells slots) (hx : p.tables.exec = Jvm.exec) (pc' : Nat) (hpc : pc + 3 = pc') {o : Int} {cd : ClassFile.Cond} {x y : Int32} (hd : decode c.code pc = .ok (.if_icmp cd o, 3)) (hc : if_icmp.holds cd x y = false) (K : Goes p e below (T.setTop (mkF m pc' Ls st)) P) : Goes p e below (T.setTop (mkF m pc Ls (.int y :: .int x :: st))) P := by
  subst hpc; exact go (fun _ q => XS.icmpNo X.here hx rfl hd rfl hc q) K
theorem g_acmpY (X : Stand p l e R s m args below meth c T locs cells slots) (hx : p.tables.exec = Jvm.exec) (pc' : Nat) {o : Int} {cd : ClassFile.ACond} {x y : Value} (hd : decode c.code pc = .ok (.if_acmp cd o, 3)) (h1 : x.isRef = true) (h2 : y.isRef = true) (hc : XT.acmp cd x y = true) (ho : 0 ≤ (pc : Int) + o) (hp : ((pc : Int) + o).toNat = pc') (K : Goes p e below (T.setTop (mkF m pc' Ls st)) P) : Goes p e below (T.setTop (mkF m pc Ls (y :: x :: st))) P :=
  go (fun _ q => XT.acmpYes X.here hx rfl rfl hd rfl h1 h2 hc ho hp q) K
theorem g_acmpN (X : Stand p l e R s m args below meth c T locs cells slots) (hx : p.tables.exec = Jvm.exec) (pc' : Nat) (hpc : pc + 3 = pc') {o : Int} {cd : ClassFile.ACond} {x y : Value} (hd : decode c.code pc = .ok (.if_acmp cd o, 3)) (h1 : x.isRef = true) (h2 : y.isRef = true) (hc : XT.acmp cd x y = false) (K : Goes p e below (T.setTop (mkF m pc' Ls st)) P) : Goes p e below (T.setTop (mkF m pc Ls (y :: x :: st))) P := by
  subst hpc; exact go (fun _ q => XT.acmpNo X.here hx rfl hd rfl h1 h2 hc q) K
theorem g_ifnonnullY (X : Stand p l e R s m args below meth c T locs cells slots) (hx : p.tables.exec = Jvm.exec) (pc' : Nat) {o : Int} {b : Addr} (hd : decode c.code pc = .ok (.ifnonnull o, 3)) (ho : 0 ≤ (pc : Int) + o) (hp : ((pc : Int) + o).toNat = pc') (K : Goes p e below (T.setTop (mkF m pc' Ls st)) P) : Goes p e below (T.setTop (mkF m pc Ls (.ref b :: st))) P :=
  go (fun _ q => XT.ifnonnullYes X.here hx rfl rfl hd rfl ho hp q) K
theorem g_ifnonnullN (X : Stand p l e R s m args below meth c T locs cells slots) (hx : p.tables.exec = Jvm.exec) (pc' : Nat) (hpc : pc + 3 = pc') {o : Int} (hd : decode c.code pc = .ok (.ifnonnull o, 3)) (K : Goes p e below (T.setTop (mkF m pc' Ls st)) P) : Goes p e below (T.setTop (mkF m pc Ls (.null :: st))) P := by
  subst hpc; exact go (fun _ q => XT.ifnonnullNo X.here hx rfl hd rfl q) K
def b2i (b : Bool) : Int32 := if b then 1 else 0
theorem b2i_nar (b : Bool) : narrow .boolean (.int (b2i b)) = .int (b2i b) := by cases b <;> rfl
theorem bb_eq_t {b : Bool} (q : ¬ b = true) : ifCond.holds .eq (b2i b) = true := by cases b <;> first | rfl | exact absurd rfl q
theorem bb_eq_f {b : Bool} (q : b = true) : ifCond.holds .eq (b2i b) = false := by subst q; rfl
theorem bb_ne_t {b : Bool} (q : b = true) : ifCond.holds .ne (b2i b) = true := by subst q; rfl
theorem bb_ne_f {b : Bool} (q : ¬ b = true) : ifCond.holds .ne (b2i b) = false := by cases b <;> first | rfl | exact absurd rfl q
theorem b2_eq_t {a b : Bool} (q : a = b) : if_icmp.holds .eq (b2i a) (b2i b) = true := by subst q; cases a <;> rfl
theorem b2_eq_f {a b : Bool} (q : ¬ a = b) : if_icmp.holds .eq (b2i a) (b2i b) = false := by cases a <;> cases b <;> first | rfl | exact absurd rfl q
theorem b2_ne_t {a b : Bool} (q : ¬ a = b) : if_icmp.holds .ne (b2i a) (b2i b) = true := by cases a <;> cases b <;> first | rfl | exact absurd rfl q
theorem b2_ne_f {a b : Bool} (q : a = b) : if_icmp.holds .ne (b2i a) (b2i b) = false := by subst q; cases a <;> rfl
theorem g_getF (X : Stand p l e R s m args below meth c T locs cells slots) (hx : p.tables.exec = Jvm.exec) (hZ : Z.Warmed39 s.vm) (pc' : Nat) (hpc : pc + 3 = pc') {own O n d : String} {index : Nat} (hown : s.vm.findClass own = some m.cls) (w : (Jvm.Cond.fieldLink own index O n d).before a0 Z = true) (eT : T.heap = h) {a : Addr} {v : Value} (F : Fld Z h a O n d v) (hd : decode c.code pc = .ok (.getfield index, 3)) (K : ∀ T', Stand p l e R s m args below meth c T' locs cells slots → T'.heap = h → Goes p e below (T'.setTop (mkF m pc' Ls (v :: st))) P) : Goes p e below (T.setTop (mkF m pc Ls (.ref a :: st))) P := by
  subst hpc
  obtain ⟨T', X', e', st'⟩ := getF X hx hZ hown (host := "") (Or.inl w) Via.refl eT F (g := mkF m pc Ls (.ref a :: st)) rfl rfl hd
  exact go st' (K T' X' e')
theorem g_putF (X : Stand p l e R s m args below meth c T locs cells slots) (hx : p.tables.exec = Jvm.exec) (hZ : Z.Warmed39 s.vm) (pc' : Nat) (hpc : pc + 3 = pc') {own O n d C : String} {index kk : Nat} {ty : FieldType} (hown : s.vm.findClass own = some m.cls) (w : (Jvm.Cond.fieldLink own index O n d).before a0 Z = true) (eT : T.heap = h) {a : Addr} {v old : Value} (F : Fld Z h a O n d old) (E : Exa Z h a C) (L : (Jvm.Cond.lays C O n d).before a0 Z = true ∨ ((Jvm.Cond.laysFinal C O n d).before a0 Z = true ∧ own = O ∧ meth.name = "<init>")) (wi : (Jvm.Cond.instantiable C kk).before a0 Z = true) (hty : parseFieldDescriptor d = some ty) (hn : narrow ty v = v) (hf : fits ty v = true) (hd : decode c.code pc = .ok (.putfield index, 3)) (K : ∀ T' h', Stand p l e R s m args below meth c T' (locs ++ [⟨a, Jvm.RoadKit.slotOf Z O n d⟩]) cells slots → T'.heap = h' → Wr h h' a (Jvm.RoadKit.slotOf Z O n d) v → Goes p e below (T'.setTop (mkF m pc' Ls st)) P) : Goes p e below (T.setTop (mkF m pc Ls (v :: .ref a :: st))) P := by
  subst hpc
  obtain ⟨T', h', X', e', W', st'⟩ := putF X hx hZ hown (host := "") (Or.inl w) Via.refl eT F E L wi hty hn hf (g := mkF m pc Ls (v :: .ref a :: st)) rfl rfl hd
  exact go st' (K T' h' X' e' W')
theorem g_getS (X : Stand p l e R s m args below meth c T locs cells slots) (hx : p.tables.exec = Jvm.exec) (hZ : Z.Warmed39 s.vm) (pc' : Nat) (hpc : pc + 3 = pc') {own O n d : String} {index : Nat} (hown : s.vm.findClass own = some m.cls) (w : (Jvm.Cond.fieldLink own index O n d).before a0 Z = true) (eT : T.heap = h) {v : Value} (F : Sta Z h O n d v) (hd : decode c.code pc = .ok (.getstatic index, 3)) (K : ∀ T', Stand p l e R s m args below meth c T' locs cells slots → T'.heap = h → Goes p e below (T'.setTop (mkF m pc' Ls (v :: st))) P) : Goes p e below (T.setTop (mkF m pc Ls st)) P := by
  subst hpc
  obtain ⟨T', X', e', st'⟩ := getS (host := "") X hx hZ hown w Via.refl eT F (g := mkF m pc Ls st) rfl hd
  exact go st' (K T' X' e')
theorem g_new (X : Stand p l e R s m args below meth c T locs cells slots) (hx : p.tables.exec = Jvm.exec) (hZ : Z.Warmed39 s.vm) (pc' : Nat) (hpc : pc + 3 = pc') {own C : String} {index n : Nat} (hown : s.vm.findClass own = some m.cls) (w : (Jvm.Cond.classLink own index C).before a0 Z = true) (wi : (Jvm.Cond.instantiable C n).before a0 Z = true) (wz : (Jvm.Cond.initialized C).before a0 Z = true) (eT : T.heap = h) (hd : decode c.code pc = .ok (.new index, 3)) (hc : cells + 1 ≤ R.cells) (hl : slots + n ≤ R.slots) (K : ∀ T' h' a, a = h.size → Stand p l e R s m args below meth c T' locs (cells + 1) (slots + n) → T'.heap = h' → Ext h h' → Exa Z h' a C → (∀ {O nm d : String} {ty : FieldType}, Laid Z a0 C O nm d → parseFieldDescriptor d = some ty → Fld Z h' a O nm d (defaultValue ty)) → Goes p e below (T'.setTop (mkF m pc' Ls (.ref a :: st))) P) : Goes p e below (T.setTop (mkF m pc Ls st)) P := by
  subst hpc
  obtain ⟨T', h', X', e', E', A', D', -, st'⟩ := newO X hx hZ hown w wi wz eT (g := mkF m pc Ls st) rfl hd hc hl
  exact go st' (K T' h' _ rfl X' e' E' A' D')
theorem g_initO (X : Stand p l e R s m args below meth c T locs cells slots) (hx : p.tables.exec = Jvm.exec) (hZ : Z.Warmed39 s.vm) (pc' : Nat) (hpc : pc + 3 = pc') {own : String} {idx : Nat} (hown : s.vm.findClass own = some m.cls) (w1 : (Jvm.Cond.methodLink own idx Lib.objectInit).before a0 Z = true) (w2 : (Jvm.Cond.instanceMethod Lib.objectInit).before a0 Z = true) (w3 : (Jvm.Cond.code Lib.objectInit ⟨#[0xb1]⟩ 1 none).before a0 Z = true) (eT : T.heap = h) (hsize : Ls.size = c.maxLocals) {a : Addr} (hd : decode c.code pc = .ok (.invokespecial idx, 3)) (hf : 1 ≤ R.frames) (W : Nat) (hW : 2 * 0 + (st.map fun v => v.category).sum ≤ W) (hl : W + 12 ≤ R.locals) (K : ∀ T', Stand p l e R s m args below meth c T' locs cells slots → T'.heap = h → Goes p e below (T'.setTop (mkF m pc' Ls st)) P) : Goes p e below (T.setTop (mkF m pc Ls (.ref a :: st))) P := by
  subst hpc
  obtain ⟨T', X', e', st'⟩ := initO X hx hZ hown w1 w2 w3 eT (g := mkF m pc Ls (.ref a :: st)) rfl hsize rfl hd hf hW hl
  exact go st' (K T' X' e')
theorem g_callS (X : Stand p l e R s m args below meth c T locs cells slots) (hx : p.tables.exec = Jvm.exec) (hZ : Z.Warmed39 s.vm) (pc' : Nat) (hpc : pc + 3 = pc') {own : String} {index : Nat} {y : MethodName} {bytes : ByteArray} {maxL : Nat} {ret : Option FieldType} {rm : Room} {Q : Option Value → Heap → List Loc → Prop} (hown : s.vm.findClass own = some m.cls) (w1 : (Jvm.Cond.methodLink own index y).before a0 Z = true) (w2 : (Jvm.Cond.static y).before a0 Z = true) (w3 : (Jvm.Cond.initialized y.cls).before a0 Z = true) (w4 : (Jvm.Cond.code y bytes maxL ret).before a0 Z = true) (hy : y.cls ≠ "java/lang/invoke/MethodHandle" ∧ y.cls ≠ "java/lang/invoke/VarHandle") (argsL rest : List Value) (hM : OwnMet l Z y bytes maxL ret [] rm argsL.toArray h Q) (eT : T.heap = h) (hlen : ∀ sig, parseMethodDescriptor y.desc = some sig → argsL.length = sig.parameters.length) (hst : st = argsL.reverse ++ rest) (hsize : Ls.size = c.maxLocals) (hd : decode c.code pc = .ok (.invokestatic index, 3)) (hf : rm.frames + 1 ≤ R.frames) (W : Nat) (hW : 2 * 0 + (rest.map fun v => v.category).sum ≤ W) (hl : W + (maxL + 11) + rm.locals ≤ R.locals) (hc : cells + rm.cells ≤ R.cells) (hs : slots + rm.slots ≤ R.slots) (K : ∀ v T' L', Stand p l e R s m args below meth c T' (locs ++ L') (cells + rm.cells) (slots + rm.slots) → Q v T'.heap L' → Goes p e below (T'.setTop (mkF m pc' Ls (v.toList ++ rest))) P) : Goes p e below (T.setTop (mkF m pc Ls st)) P := by
  subst hpc; subst hst
  obtain ⟨v, _, ⟨T', L', k', n'⟩, -, X', ⟨Lc, hQ, e1, e2, e3⟩, st'⟩ := Jvm.LawKit.callS X hx (y := y) hown (mvT hZ w1) (mvT hZ w2) (mvT hZ w3) (mvT hZ w4) hy (backOf (W := W) hM hZ w4 w3 hf hl) (g := mkF m pc Ls (argsL.reverse ++ rest)) rfl hsize (argsL := argsL) (rest := rest) hlen rfl hW hd (fun _ _ => ⟨rfl, eT, hc, hs⟩)
  dsimp only [Pt.U, Pt.locs, Pt.cells, Pt.slots] at X' e1 e2 e3 st' hQ
  subst e1 e2 e3
  exact go st' (K v T' Lc X' hQ)
theorem g_callI (X : Stand p l e R s m args below meth c T locs cells slots) (hx : p.tables.exec = Jvm.exec) (hZ : Z.Warmed39 s.vm) (pc' : Nat) (hpc : pc + 3 = pc') {own : String} {index : Nat} {y : MethodName} {bytes : ByteArray} {maxL : Nat} {rm : Room} {Q : Option Value → Heap → List Loc → Prop} (hy1 : y.name = "<init>") (hown : s.vm.findClass own = some m.cls) (w1 : (Jvm.Cond.methodLink own index y).before a0 Z = true) (w2 : (Jvm.Cond.instanceMethod y).before a0 Z = true) (w3 : (Jvm.Cond.initialized y.cls).before a0 Z = true) (w4 : (Jvm.Cond.code y bytes maxL none).before a0 Z = true) (hy : y.cls ≠ "java/lang/invoke/MethodHandle" ∧ y.cls ≠ "java/lang/invoke/VarHandle") (a : Addr) (argsL rest : List Value) (hM : OwnMet l Z y bytes maxL none [] rm (.ref a :: argsL).toArray h Q) (eT : T.heap = h) (hlen : ∀ sig, parseMethodDescriptor y.desc = some sig → argsL.length = sig.parameters.length) (hst : st = argsL.reverse ++ .ref a :: rest) (hsize : Ls.size = c.maxLocals) (hd : decode c.code pc = .ok (.invokespecial index, 3)) (hf : rm.frames + 1 ≤ R.frames) (W : Nat) (hW : 2 * 0 + (rest.map fun v => v.category).sum ≤ W) (hl : W + (maxL + 11) + rm.locals ≤ R.locals) (hc : cells + rm.cells ≤ R.cells) (hs : slots + rm.slots ≤ R.slots) (K : ∀ v T' L', Stand p l e R s m args below meth c T' (locs ++ L') (cells + rm.cells) (slots + rm.slots) → Q v T'.heap L' → Goes p e below (T'.setTop (mkF m pc' Ls (v.toList ++ rest))) P) : Goes p e below (T.setTop (mkF m pc Ls st)) P := by
  subst hpc; subst hst
  obtain ⟨v, _, ⟨T', L', k', n'⟩, -, X', ⟨Lc, hQ, e1, e2, e3⟩, st'⟩ := X.specialBack hx (y := y) hy1 hown (mvT hZ w1) (mvT hZ w2) (mvT hZ w4) hy (backOf (W := W) hM hZ w4 w3 hf hl) (g := mkF m pc Ls (argsL.reverse ++ .ref a :: rest)) rfl hsize (Steps.refl _) (a := a) (argsL := argsL) (rest := rest) hlen rfl hW hd (fun _ _ => ⟨rfl, eT, hc, hs⟩)
  dsimp only [Pt.U, Pt.locs, Pt.cells, Pt.slots] at X' e1 e2 e3 st' hQ
  subst e1 e2 e3
  exact goT st' (K v T' Lc X' hQ)
theorem g_callV (X : Stand p l e R s m args below meth c T locs cells slots) (hx : p.tables.exec = Jvm.exec) (hZ : Z.Warmed39 s.vm) (pc' : Nat) (hpc : pc + 3 = pc') {own C : String} {index : Nat} {y : MethodName} {bytes : ByteArray} {maxL : Nat} {ret : Option FieldType} {rm : Room} {Q : Option Value → Heap → List Loc → Prop} (hown : s.vm.findClass own = some m.cls) (w1 : (Jvm.Cond.methodLink own index y).before a0 Z = true) (w2 : (Jvm.Cond.declares y).before a0 Z = true) (w5 : (Jvm.Cond.selects C y y).before a0 Z = true) (w6 : (Jvm.Cond.instanceMethod y).before a0 Z = true) (w3 : (Jvm.Cond.initialized y.cls).before a0 Z = true) (w4 : (Jvm.Cond.code y bytes maxL ret).before a0 Z = true) (hy : y.cls ≠ "java/lang/invoke/MethodHandle" ∧ y.cls ≠ "java/lang/invoke/VarHandle") (a : Addr) (argsL rest : List Value) (hM : OwnMet l Z y bytes maxL ret [] rm (.ref a :: argsL).toArray h Q) (eT : T.heap = h) (Ex : Exa Z h a C) (hlen : ∀ sig, parseMethodDescriptor y.desc = some sig → argsL.length = sig.parameters.length) (hst : st = argsL.reverse ++ .ref a :: rest) (hsize : Ls.size = c.maxLocals) (hd : decode c.code pc = .ok (.invokevirtual index, 3)) (hf : rm.frames + 1 ≤ R.frames) (W : Nat) (hW : 2 * 0 + (rest.map fun v => v.category).sum ≤ W) (hl : W + (maxL + 11) + rm.locals ≤ R.locals) (hc : cells + rm.cells ≤ R.cells) (hs : slots + rm.slots ≤ R.slots) (K : ∀ v T' L', Stand p l e R s m args below meth c T' (locs ++ L') (cells + rm.cells) (slots + rm.slots) → Q v T'.heap L' → Goes p e below (T'.setTop (mkF m pc' Ls (v.toList ++ rest))) P) : Goes p e below (T.setTop (mkF m pc Ls st)) P := by
  subst hpc; subst hst
  obtain ⟨cq, kq, qa, qb, qc⟩ := isOf hZ eT Ex
  obtain ⟨v, _, ⟨T', L', k', n'⟩, -, X', ⟨Lc, hQ, e1, e2, e3⟩, st'⟩ := X.virtualBack hx (y := y) (z := y) hown (mvT hZ w1) (mvT hZ w2) (notFace_of_selects (args := #[]) (mvT hZ w5)) (mvT hZ w5) (mvT hZ w6) hy (backOf (W := W) hM hZ w4 w3 hf hl) qa qc (g := mkF m pc Ls (argsL.reverse ++ .ref a :: rest)) rfl hsize (Steps.refl _) (argsL := argsL) (rest := rest) hlen rfl hW hd (fun _ _ => ⟨rfl, eT, hc, hs⟩)
  dsimp only [Pt.U, Pt.locs, Pt.cells, Pt.slots] at X' e1 e2 e3 st' hQ
  subst e1 e2 e3
  exact goT st' (K v T' Lc X' hQ)
theorem g_callP (X : Stand p l e R s m args below meth c T locs cells slots) (hx : p.tables.exec = Jvm.exec) (hZ : Z.Warmed39 s.vm) (pc' : Nat) (hpc : pc + 3 = pc') {own : String} {index : Nat} {y : MethodName} {bytes : ByteArray} {maxL : Nat} {ret : Option FieldType} {rm : Room} {Q : Option Value → Heap → List Loc → Prop} {kk : Nat} {C : String} (hown : s.vm.findClass own = some m.cls) (w1 : (Jvm.Cond.methodLink own index y).before a0 Z = true) (w2 : (Jvm.Cond.instanceMethod y).before a0 Z = true) (w5 : (Jvm.Cond.privateMethod y).before a0 Z = true) (wi : (Jvm.Cond.instantiable y.cls kk).before a0 Z = true) (w3 : (Jvm.Cond.initialized y.cls).before a0 Z = true) (w4 : (Jvm.Cond.code y bytes maxL ret).before a0 Z = true) (hy : y.cls ≠ "java/lang/invoke/MethodHandle" ∧ y.cls ≠ "java/lang/invoke/VarHandle") (a : Addr) (argsL rest : List Value) (hM : OwnMet l Z y bytes maxL ret [] rm (.ref a :: argsL).toArray h Q) (eT : T.heap = h) (Ex : Exa Z h a C) (hlen : ∀ sig, parseMethodDescriptor y.desc = some sig → argsL.length = sig.parameters.length) (hst : st = argsL.reverse ++ .ref a :: rest) (hsize : Ls.size = c.maxLocals) (hd : decode c.code pc = .ok (.invokevirtual index, 3)) (hf : rm.frames + 1 ≤ R.frames) (W : Nat) (hW : 2 * 0 + (rest.map fun v => v.category).sum ≤ W) (hl : W + (maxL + 11) + rm.locals ≤ R.locals) (hc : cells + rm.cells ≤ R.cells) (hs : slots + rm.slots ≤ R.slots) (K : ∀ v T' L', Stand p l e R s m args below meth c T' (locs ++ L') (cells + rm.cells) (slots + rm.slots) → Q v T'.heap L' → Goes p e below (T'.setTop (mkF m pc' Ls (v.toList ++ rest))) P) : Goes p e below (T.setTop (mkF m pc Ls st)) P := by
  subst hpc; subst hst
  obtain ⟨cl, hcl, hob⟩ := Ex.cell
  have hpriv : s.PrivateAt y := Cond.privateMethod_at (mvP hZ w5 (args := #[]))
  have hin : (Jvm.Cond.instanceMethod y).before args s = true := mvT hZ w2
  obtain ⟨c1, k1, i1, i2, -, i4, -⟩ := Cond.instantiable_spec (mvT hZ wi (args := args) : (Jvm.Cond.instantiable y.cls kk).before args s = true)
  have hsel : (Jvm.Cond.selects y.cls y y).before args s = true := selects_self_of_private i1 i2 (by cases q : k1.isInterface <;> simp [q] at i4 ⊢) hpriv hin hy
  obtain ⟨v, _, ⟨T', L', k', n'⟩, -, X', ⟨Lc, hQ, e1, e2, e3⟩, st'⟩ := X.privateBack hx (y := y) hown (mvT hZ w1) hin hsel hpriv (mvT hZ w4) hy (backOf (W := W) hM hZ w4 w3 hf hl) (g := mkF m pc Ls (argsL.reverse ++ .ref a :: rest)) rfl hsize (Steps.refl _) (a := a) (cell := cl) (by rw [eT]; exact hcl) hob (argsL := argsL) (rest := rest) hlen rfl hW hd (fun _ _ => ⟨rfl, eT, hc, hs⟩)
  dsimp only [Pt.U, Pt.locs, Pt.cells, Pt.slots] at X' e1 e2 e3 st' hQ
  subst e1 e2 e3
  exact goT st' (K v T' Lc X' hQ)
def Al (Z : State) (h : Heap) (a : Addr) (ty : FieldType) (vs : List Value) : Prop := ∃ c : Cell, Arr Z h a c ty ∧ c.slots.toList = vs ∧ vs.length < 2147483648
theorem Al.lt {a : Addr} {ty : FieldType} {vs : List Value} (F : Al Z h a ty vs) : a < h.size := by obtain ⟨c, A, -⟩ := F; exact A.lt
theorem Al.ext {h' : Heap} {a : Addr} {ty : FieldType} {vs : List Value} (F : Al Z h a ty vs) (E : Ext h h') : Al Z h' a ty vs := by obtain ⟨c, A, r⟩ := F; exact ⟨c, A.ext E, r⟩
theorem Al.other {h' : Heap} {a b : Addr} {sl : Nat} {v : Value} {ty : FieldType} {vs : List Value} (F : Al Z h b ty vs) (W : Wr h h' a sl v) (q : b ≠ a) : Al Z h' b ty vs := by obtain ⟨c, A, r⟩ := F; exact ⟨c, A.other W q, r⟩
theorem Al.keep {h' : Heap} {a : Addr} {ws : List Addr} {ty : FieldType} {vs : List Value} (F : Al Z h a ty vs) (K : Keep h h' ws) (q : a ∉ ws) : Al Z h' a ty vs := by obtain ⟨c, A, r⟩ := F; exact ⟨c, ⟨K.2.1 a c A.1 q, A.2⟩, r⟩
theorem Al.same {h' : Heap} {a : Addr} {i : Nat} {v : Value} {ty : FieldType} {vs : List Value} (F : Al Z h a ty vs) (W : Wr h h' a i v) : Al Z h' a ty (vs.set i v) := by
  obtain ⟨c, A, r1, r2⟩ := F
  exact ⟨_, A.same W, by rw [← r1]; simp [Cell.setSlot], by rw [List.length_set]; exact r2⟩
theorem own_ix {j : Int32} {i : Nat} (hj : j.toInt = (i : Int)) : j.toNatClampNeg = i ∧ ¬ j < 0 := by
  refine ⟨by simp only [Int32.toNatClampNeg]; omega, fun q => ?_⟩
  rw [Int32.lt_iff_toInt_lt] at q; simp only [Int32.reduceToInt] at q; omega
theorem Al.cell {a : Addr} {ty : FieldType} {vs : List Value} (F : Al Z h a ty vs) {j : Int32} {i : Nat} (hj : j.toInt = (i : Int)) (hi : i < vs.length) : ∃ c : Cell, Arr Z h a c ty ∧ c.slots.toList = vs ∧ ¬ (j < 0 ∨ c.slots.size ≤ j.toNatClampNeg) ∧ c.slots[j.toNatClampNeg]? = vs[i]? := by
  obtain ⟨c, A, r1, r2⟩ := F
  obtain ⟨q1, q2⟩ := own_ix hj
  have hs : c.slots.size = vs.length := by rw [← r1]; simp
  exact ⟨c, A, r1, fun q => q.elim q2 (by rw [q1, hs]; omega), by rw [q1, ← r1, Array.getElem?_toList]⟩
theorem g_alen (X : Stand p l e R s m args below meth c T locs cells slots) (hx : p.tables.exec = Jvm.exec) (hZ : Z.Warmed39 s.vm) (pc' : Nat) (hpc : pc + 1 = pc') (hd : decode c.code pc = .ok (.arraylength, 1)) (eT : T.heap = h) {a : Addr} {ty : FieldType} {vs : List Value} (A : Al Z h a ty vs) (n : Int32) (hn : Int32.ofNat vs.length = n) (K : Goes p e below (T.setTop (mkF m pc' Ls (.int n :: st))) P) : Goes p e below (T.setTop (mkF m pc Ls (.ref a :: st))) P := by
  subst hpc
  obtain ⟨c, A, r1, r2⟩ := A
  have hs : c.slots.size.toInt32 = n := by rw [← hn, ← r1]; simp
  exact go (fun _ q => X.arraylength hx (by rw [eT]; exact A.1) (State.isArrayOf_alike hZ.alike A.2.1) (g := mkF m pc Ls (.ref a :: st)) rfl rfl hd _ (by rw [hs]; exact q)) K
theorem g_iaload (X : Stand p l e R s m args below meth c T locs cells slots) (hx : p.tables.exec = Jvm.exec) (hZ : Z.Warmed39 s.vm) (pc' : Nat) (hpc : pc + 1 = pc') (hd : decode c.code pc = .ok (.iaload, 1)) (eT : T.heap = h) {a : Addr} {vs : List Value} (A : Al Z h a .int vs) {j : Int32} (i : Nat) (hj : j.toInt = (i : Int)) (v : Value) (hv : vs[i]? = some v) (K : Goes p e below (T.setTop (mkF m pc' Ls (v :: st))) P) : Goes p e below (T.setTop (mkF m pc Ls (.int j :: .ref a :: st))) P := by
  subst hpc
  obtain ⟨c, A, r1, r2, r3⟩ := A.cell hj (List.getElem?_eq_some_iff.mp hv).1
  exact go (fun _ q => X.iaload hx (by rw [eT]; exact A.1) (State.isArrayOf_alike hZ.alike A.2.1) A.2.2 r2 (r3.trans hv) (g := mkF m pc Ls (.int j :: .ref a :: st)) rfl rfl hd _ q) K
theorem g_laload (X : Stand p l e R s m args below meth c T locs cells slots) (hx : p.tables.exec = Jvm.exec) (hZ : Z.Warmed39 s.vm) (pc' : Nat) (hpc : pc + 1 = pc') (hd : decode c.code pc = .ok (.laload, 1)) (eT : T.heap = h) {a : Addr} {vs : List Value} (A : Al Z h a .long vs) {j : Int32} (i : Nat) (hj : j.toInt = (i : Int)) (v : Value) (hv : vs[i]? = some v) (K : Goes p e below (T.setTop (mkF m pc' Ls (v :: st))) P) : Goes p e below (T.setTop (mkF m pc Ls (.int j :: .ref a :: st))) P := by
  subst hpc
  obtain ⟨c, A, r1, r2, r3⟩ := A.cell hj (List.getElem?_eq_some_iff.mp hv).1
  exact go (fun _ q => X.laload hx (by rw [eT]; exact A.1) (State.isArrayOf_alike hZ.alike A.2.1) A.2.2 r2 (r3.trans hv) (g := mkF m pc Ls (.int j :: .ref a :: st)) rfl rfl hd _ q) K
theorem g_baload (X : Stand p l e R s m args below meth c T locs cells slots) (hx : p.tables.exec = Jvm.exec) (hZ : Z.Warmed39 s.vm) (pc' : Nat) (hpc : pc + 1 = pc') (hd : decode c.code pc = .ok (.baload, 1)) (eT : T.heap = h) {a : Addr} {vs : List Value} (A : Al Z h a .byte vs) {j : Int32} (i : Nat) (hj : j.toInt = (i : Int)) (v : Value) (hv : vs[i]? = some v) (K : Goes p e below (T.setTop (mkF m pc' Ls (v :: st))) P) : Goes p e below (T.setTop (mkF m pc Ls (.int j :: .ref a :: st))) P := by
  subst hpc
  obtain ⟨c, A, r1, r2, r3⟩ := A.cell hj (List.getElem?_eq_some_iff.mp hv).1
  exact go (fun _ q => X.baloadBytes hx (by rw [eT]; exact A.1) (State.isArrayOf_alike hZ.alike A.2.1) A.2.2 r2 (r3.trans hv) (g := mkF m pc Ls (.int j :: .ref a :: st)) rfl rfl hd _ q) K
theorem g_caload (X : Stand p l e R s m args below meth c T locs cells slots) (hx : p.tables.exec = Jvm.exec) (hZ : Z.Warmed39 s.vm) (pc' : Nat) (hpc : pc + 1 = pc') (hd : decode c.code pc = .ok (.caload, 1)) (eT : T.heap = h) {a : Addr} {vs : List Value} (A : Al Z h a .char vs) {j : Int32} (i : Nat) (hj : j.toInt = (i : Int)) (v : Value) (hv : vs[i]? = some v) (K : Goes p e below (T.setTop (mkF m pc' Ls (v :: st))) P) : Goes p e below (T.setTop (mkF m pc Ls (.int j :: .ref a :: st))) P := by
  subst hpc
  obtain ⟨c, A, r1, r2, r3⟩ := A.cell hj (List.getElem?_eq_some_iff.mp hv).1
  exact go (fun _ q => X.caload hx (by rw [eT]; exact A.1) (State.isArrayOf_alike hZ.alike A.2.1) A.2.2 r2 (r3.trans hv) (g := mkF m pc Ls (.int j :: .ref a :: st)) rfl rfl hd _ q) K
theorem g_iastore (X : Stand p l e R s m args below meth c T locs cells slots) (hx : p.tables.exec = Jvm.exec) (hZ : Z.Warmed39 s.vm) (pc' : Nat) (hpc : pc + 1 = pc') (hd : decode c.code pc = .ok (.iastore, 1)) (eT : T.heap = h) {a : Addr} {vs : List Value} (A : Al Z h a .int vs) {j : Int32} {x : Int32} (i : Nat) (hj : j.toInt = (i : Int)) (hi : i < vs.length) (K : ∀ T' h', Stand p l e R s m args below meth c T' (locs ++ [⟨a, i⟩]) cells slots → T'.heap = h' → Wr h h' a i (.int x) → Al Z h' a .int (vs.set i (.int x)) → Goes p e below (T'.setTop (mkF m pc' Ls st)) P) : Goes p e below (T.setTop (mkF m pc Ls (.int x :: .int j :: .ref a :: st))) P := by
  subst hpc
  obtain ⟨c, Ar, r1, r2, r3⟩ := A.cell hj hi
  obtain ⟨T', h', X', e', W', st'⟩ := stI X hx hZ eT Ar r2 (g := mkF m pc Ls (.int x :: .int j :: .ref a :: st)) rfl rfl hd
  rw [(own_ix hj).1] at X' W'
  exact go st' (K T' h' X' e' W' (A.same W'))
theorem g_lastore (X : Stand p l e R s m args below meth c T locs cells slots) (hx : p.tables.exec = Jvm.exec) (hZ : Z.Warmed39 s.vm) (pc' : Nat) (hpc : pc + 1 = pc') (hd : decode c.code pc = .ok (.lastore, 1)) (eT : T.heap = h) {a : Addr} {vs : List Value} (A : Al Z h a .long vs) {j : Int32} {x : Int64} (i : Nat) (hj : j.toInt = (i : Int)) (hi : i < vs.length) (K : ∀ T' h', Stand p l e R s m args below meth c T' (locs ++ [⟨a, i⟩]) cells slots → T'.heap = h' → Wr h h' a i (.long x) → Al Z h' a .long (vs.set i (.long x)) → Goes p e below (T'.setTop (mkF m pc' Ls st)) P) : Goes p e below (T.setTop (mkF m pc Ls (.long x :: .int j :: .ref a :: st))) P := by
  subst hpc
  obtain ⟨c, Ar, r1, r2, r3⟩ := A.cell hj hi
  obtain ⟨T', h', X', e', W', st'⟩ := stJ X hx hZ eT Ar r2 (g := mkF m pc Ls (.long x :: .int j :: .ref a :: st)) rfl rfl hd
  rw [(own_ix hj).1] at X' W'
  exact go st' (K T' h' X' e' W' (A.same W'))
theorem g_bastore (X : Stand p l e R s m args below meth c T locs cells slots) (hx : p.tables.exec = Jvm.exec) (hZ : Z.Warmed39 s.vm) (pc' : Nat) (hpc : pc + 1 = pc') (hd : decode c.code pc = .ok (.bastore, 1)) (eT : T.heap = h) {a : Addr} {vs : List Value} (A : Al Z h a .byte vs) {j : Int32} {x : Int32} (i : Nat) (hj : j.toInt = (i : Int)) (hi : i < vs.length) (K : ∀ T' h', Stand p l e R s m args below meth c T' (locs ++ [⟨a, i⟩]) cells slots → T'.heap = h' → Wr h h' a i (.int (nar .byte x)) → Al Z h' a .byte (vs.set i (.int (nar .byte x))) → Goes p e below (T'.setTop (mkF m pc' Ls st)) P) : Goes p e below (T.setTop (mkF m pc Ls (.int x :: .int j :: .ref a :: st))) P := by
  subst hpc
  obtain ⟨c, Ar, r1, r2, r3⟩ := A.cell hj hi
  obtain ⟨T', h', X', e', W', st'⟩ := stB X hx hZ eT Ar r2 (g := mkF m pc Ls (.int x :: .int j :: .ref a :: st)) rfl rfl hd
  rw [(own_ix hj).1] at X' W'
  exact go st' (K T' h' X' e' W' (A.same W'))
theorem g_castore (X : Stand p l e R s m args below meth c T locs cells slots) (hx : p.tables.exec = Jvm.exec) (hZ : Z.Warmed39 s.vm) (pc' : Nat) (hpc : pc + 1 = pc') (hd : decode c.code pc = .ok (.castore, 1)) (eT : T.heap = h) {a : Addr} {vs : List Value} (A : Al Z h a .char vs) {j : Int32} {x : Int32} (i : Nat) (hj : j.toInt = (i : Int)) (hi : i < vs.length) (K : ∀ T' h', Stand p l e R s m args below meth c T' (locs ++ [⟨a, i⟩]) cells slots → T'.heap = h' → Wr h h' a i (.int (nar .char x)) → Al Z h' a .char (vs.set i (.int (nar .char x))) → Goes p e below (T'.setTop (mkF m pc' Ls st)) P) : Goes p e below (T.setTop (mkF m pc Ls (.int x :: .int j :: .ref a :: st))) P := by
  subst hpc
  obtain ⟨c, Ar, r1, r2, r3⟩ := A.cell hj hi
  obtain ⟨T', h', X', e', W', st'⟩ := stC X hx hZ eT Ar r2 (g := mkF m pc Ls (.int x :: .int j :: .ref a :: st)) rfl rfl hd
  rw [(own_ix hj).1] at X' W'
  exact go st' (K T' h' X' e' W' (A.same W'))
theorem g_newarr (X : Stand p l e R s m args below meth c T locs cells slots) (hx : p.tables.exec = Jvm.exec) (hZ : Z.Warmed39 s.vm) (pc' : Nat) (hpc : pc + 2 = pc') {aty : ArrayType} (w : (Jvm.Cond.arrayClass (newarray.typeOf aty)).before a0 Z = true) (eT : T.heap = h) (hd : decode c.code pc = .ok (.newarray aty, 2)) {n : Int32} (k : Nat) (hn : n.toInt = (k : Int)) (cap : Nat) (hcap : k ≤ cap) (hb : cap * 8 ≤ 536870912) (hc : cells + 1 ≤ R.cells) (hl : slots + cap ≤ R.slots) (ad : String) (had : "[" ++ (newarray.typeOf aty).toString = ad) (K : ∀ T' h' a, a = h.size → Stand p l e R s m args below meth c T' locs (cells + 1) (slots + cap) → T'.heap = h' → Ext h h' → Al Z h' a (newarray.typeOf aty) (List.replicate k (defaultValue (newarray.typeOf aty))) → Exa Z h' a ad → Goes p e below (T'.setTop (mkF m pc' Ls (.ref a :: st))) P) : Goes p e below (T.setTop (mkF m pc Ls (.int n :: st))) P := by
  subst hpc
  obtain ⟨q1, q2⟩ := own_ix hn
  obtain ⟨T', h', cA, X', e', E', A', Ex', st'⟩ := newPE X hx hZ w eT (g := mkF m pc Ls (.int n :: st)) rfl hd rfl q2 (cap := cap) (by rw [q1]; exact hcap) hb hc hl had
  refine go st' (K T' h' _ rfl X' e' E' ⟨_, A', by simp [newA, q1], ?_⟩ Ex')
  rw [List.length_replicate]
  have := Int32.toInt_lt n
  omega
theorem own_narb (x : Int32) : nar .byte x.toInt8.toInt32 = x.toInt8.toInt32 := by show x.toInt8.toInt32.toInt8.toInt32 = _; simp
theorem g_cast (X : Stand p l e R s m args below meth c T locs cells slots) (hx : p.tables.exec = Jvm.exec) (hZ : Z.Warmed39 s.vm) (pc' : Nat) (hpc : pc + 3 = pc') {own K : String} {index : Nat} (hown : s.vm.findClass own = some m.cls) (w : (Jvm.Cond.classLink own index K).before a0 Z = true) (eT : T.heap = h) {a : Addr} (F : Ins Z h a K true) (hd : decode c.code pc = .ok (.checkcast index, 3)) (K2 : ∀ T', Stand p l e R s m args below meth c T' locs cells slots → T'.heap = h → Goes p e below (T'.setTop (mkF m pc' Ls (.ref a :: st))) P) : Goes p e below (T.setTop (mkF m pc Ls (.ref a :: st))) P := by
  subst hpc
  obtain ⟨T', X', e', st'⟩ := castY X hx hZ hown w eT F (g := mkF m pc Ls (.ref a :: st)) rfl rfl hd
  exact go st' (K2 T' X' e')
theorem own_fitc {a : Addr} {ty : FieldType} {vs : List Value} {c : Cell} (A : Arr Z h a c ty) (r : c.slots.toList = vs) (hfit : ∀ v ∈ vs, fits ty v = true) : FitC Z c := fitC_of A fun i hi v hv => hfit v (by rw [← r]; rw [← Array.getElem?_toList] at hv; exact List.mem_of_getElem? hv)
theorem g_clone (X : Stand p l e R s m args below meth c T locs cells slots) (hx : p.tables.exec = Jvm.exec) (hZ : Z.Warmed39 s.vm) (pc' : Nat) (hpc : pc + 3 = pc') {own ad : String} {index : Nat} (hown : s.vm.findClass own = some m.cls) (w1 : (Jvm.Cond.methodLink own index ⟨ad, "clone", "()Ljava/lang/Object;"⟩).before a0 Z = true) (w2 : (Jvm.Cond.sameMethod ad "java/lang/Object" "clone" "()Ljava/lang/Object;").before a0 Z = true) (w3 : (Jvm.Cond.native ⟨"java/lang/Object", "clone", "()Ljava/lang/Object;"⟩).before a0 Z = true) (w4 : (Jvm.Cond.instanceMethod ⟨"java/lang/Object", "clone", "()Ljava/lang/Object;"⟩).before a0 Z = true) (w5 : (Jvm.Cond.selects ad ⟨ad, "clone", "()Ljava/lang/Object;"⟩ ⟨"java/lang/Object", "clone", "()Ljava/lang/Object;"⟩).before a0 Z = true) (w6 : (Jvm.Cond.castable ad "java/lang/Cloneable").before a0 Z = true) (eT : T.heap = h) {a : Addr} {ty : FieldType} {vs : List Value} (A : Al Z h a ty vs) (Ex : Exa Z h a ad) (hfit : ∀ v ∈ vs, fits ty v = true) (hd : decode c.code pc = .ok (.invokevirtual index, 3)) (hsize : Ls.size = c.maxLocals) (hf : 1 ≤ R.frames) (W : Nat) (hW : 2 * 0 + (st.map fun v => v.category).sum ≤ W) (hl : W + 14 ≤ R.locals) (cap : Nat) (hcap : vs.length ≤ cap) (hc : cells + 1 ≤ R.cells) (hs : slots + cap ≤ R.slots) (K : ∀ T' h' b, b = h.size → Stand p l e R s m args below meth c T' locs (cells + 1) (slots + cap) → T'.heap = h' → Ext h h' → Al Z h' b ty vs → Exa Z h' b ad → Goes p e below (T'.setTop (mkF m pc' Ls (.ref b :: st))) P) : Goes p e below (T.setTop (mkF m pc Ls (.ref a :: st))) P := by
  subst hpc
  obtain ⟨c, Ar, r1, r2⟩ := A
  obtain ⟨T', h', X', e', E', A', Ex', st'⟩ := cloneA X hx hZ hown w1 w2 w3 w4 w5 w6 eT Ar Ex (own_fitc Ar r1 hfit) (g := mkF m pc Ls (.ref a :: st)) rfl hsize rfl hd hf hW hl (by rw [← r1] at hcap; simpa using hcap) hc hs
  exact go st' (K T' h' _ rfl X' e' E' ⟨_, A', r1, r2⟩ Ex')
theorem own_arv {a : Addr} {ty : FieldType} {vs : List Value} (d : Value) (A : Al Z h a ty vs) (hfit : ∀ v ∈ vs, fits ty v = true) : ∃ k, Arv Z h a k ty (Int32.ofNat vs.length) vs d := by
  obtain ⟨c, Ar, r1, r2⟩ := A
  have hs : c.slots.size = vs.length := by rw [← r1]; simp
  have h1 : (Int32.ofNat vs.length).toInt = (vs.length : Int) := Int32.toInt_ofNat_of_lt r2
  obtain ⟨q1, q2⟩ := own_ix h1
  have hv : ∀ i, i < c.slots.size → c.slots[i]? = some (vs.getD i d) := fun i hi => by
    rw [← Array.getElem?_toList, r1, List.getD_eq_getElem?_getD, List.getElem?_eq_getElem (by omega)]; rfl
  refine ⟨c.cls, c, Ar, rfl, by rw [hs, q1], q2, hv, fun i hi => hfit _ ?_⟩
  have := hv i hi
  rw [← Array.getElem?_toList, r1] at this
  exact List.mem_of_getElem? this
theorem own_al {a : Addr} {k : ClassId} {ty : FieldType} {z : Int32} {vs : List Value} {d : Value} (A : Arv Z h a k ty z vs d) (hl : vs.length = z.toNatClampNeg) : Al Z h a ty vs := by
  obtain ⟨c, Ar, -, S, M, H, -⟩ := A
  refine ⟨c, Ar, ?_, ?_⟩
  · apply List.ext_getElem?
    intro i
    rw [Array.getElem?_toList]
    by_cases hi : i < c.slots.size
    · rw [H i hi, List.getD_eq_getElem?_getD, List.getElem?_eq_getElem (by omega)]; rfl
    · rw [Array.getElem?_eq_none (by omega), List.getElem?_eq_none (by omega)]
  · have := (back32 M).2; omega
theorem g_acopy (X : Stand p l e R s m args below meth c T locs cells slots) (hx : p.tables.exec = Jvm.exec) (hZ : Z.Warmed39 s.vm) (pc' : Nat) (hpc : pc + 3 = pc') {own : String} {index : Nat} (hown : s.vm.findClass own = some m.cls) (w1 : (Jvm.Cond.methodLink own index Jvm.Stand.acN).before a0 Z = true) (w2 : (Jvm.Cond.native Jvm.Stand.acN).before a0 Z = true) (w3 : (Jvm.Cond.static Jvm.Stand.acN).before a0 Z = true) (w4 : (Jvm.Cond.initialized "java/lang/System").before a0 Z = true) (eT : T.heap = h) {a b : Addr} {ty : FieldType} {vs vd : List Value} (A : Al Z h a ty vs) (B : Al Z h b ty vd) (hp : refKind ty = false) (hfit : ∀ v ∈ vs, fits ty v = true) (hfit2 : ∀ v ∈ vd, fits ty v = true) {nn : Int32} (n : Nat) (hn : nn.toInt = (n : Int)) (h1 : n ≤ vs.length) (h2 : n ≤ vd.length) {n0 : Nat} (N : Fr n0 locs) (ge : n0 ≤ b) (hd : decode c.code pc = .ok (.invokestatic index, 3)) (hsize : Ls.size = c.maxLocals) (hf : 1 ≤ R.frames) (W : Nat) (hW : 2 * 0 + (st.map fun v => v.category).sum ≤ W) (hlo : W + (nativeFrameWords "java/lang/System" "arraycopy" 5 + 11) ≤ R.locals) (K : ∀ T' h' L, Stand p l e R s m args below meth c T' L cells slots → T'.heap = h' → Fr n0 L → Keep h h' [b] → Al Z h' b ty (vs.take n ++ vd.drop n) → Goes p e below (T'.setTop (mkF m pc' Ls st)) P) : Goes p e below (T.setTop (mkF m pc Ls (.int nn :: .int 0 :: .ref b :: .int 0 :: .ref a :: st))) P := by
  subst hpc
  obtain ⟨ka, Aa⟩ := own_arv (.int 0) A hfit
  obtain ⟨kb, Ab⟩ := own_arv (.int 0) B hfit2
  obtain ⟨q1, q2⟩ := own_ix hn
  have l1 : (Int32.ofNat vs.length).toNatClampNeg = vs.length := (own_ix (Int32.toInt_ofNat_of_lt A.choose_spec.2.2)).1
  have l2 : (Int32.ofNat vd.length).toNatClampNeg = vd.length := (own_ix (Int32.toInt_ofNat_of_lt B.choose_spec.2.2)).1
  have z0 : (0 : Int32).toNatClampNeg = 0 := rfl
  obtain ⟨T', h', L, X', e', N', K', A', st'⟩ := cpA X hx hZ hown w1 w2 w3 w4 eT Aa Ab (us := (List.range nn.toNatClampNeg).map fun i => vs.getD ((0 : Int32).toNatClampNeg + i) (.int 0)) (Or.inl ⟨rfl, hp⟩) (sp := 0) (dp := 0) (nn := nn) (by decide) (by decide) q2 (by rw [q1, l1, z0]; omega) (by rw [q1, l2, z0]; omega) rfl (by rw [q1, z0]; omega) N ge (g := mkF m pc Ls (.int nn :: .int 0 :: .ref b :: .int 0 :: .ref a :: st)) rfl hsize rfl hd hf hW hlo
  have hu : vd.take (0 : Int32).toNatClampNeg ++ ((List.range nn.toNatClampNeg).map fun i => vs.getD ((0 : Int32).toNatClampNeg + i) (.int 0)) ++ vd.drop ((0 : Int32).toNatClampNeg + nn.toNatClampNeg) = vs.take n ++ vd.drop n := by
    rw [z0, q1, List.take_zero, List.nil_append, Nat.zero_add]
    congr 1
    apply List.ext_getElem?
    intro i
    by_cases hi : i < n
    · rw [List.getElem?_take_of_lt hi, List.getElem?_map, List.getElem?_range hi, Option.map_some, Nat.zero_add, List.getD_eq_getElem?_getD, List.getElem?_eq_getElem (by omega)]; rfl
    · rw [List.getElem?_eq_none (by simp; omega), List.getElem?_eq_none (by simp; omega)]
  rw [hu] at A'
  exact go st' (K T' h' L X' e' N' K' (own_al A' (by rw [l2]; simp; omega)))
theorem own_eqI {args : Array Value} {first s : State} {o : Option Outcome} {idx : List Nat} {a : Term} {k : Int32} (q : (Jvm.Cond.eq a (Jvm.Term.int k)).value args first o s idx = some true) : a.eval args first o idx s = some (.int k) := by
  obtain ⟨x, y, h1, h2, h3, h4⟩ := cmp_v (Or.inl q)
  have h5 : y = .int k := (Option.some.inj ((Term.int_eval k).symm.trans h2)).symm
  subst h5
  obtain ⟨z, rfl⟩ := h4
  have h6 : z = k := gotT (Cond.eq_ints h1 h2) q
  rw [h1, h6]
theorem own_nar_ref {v : Value} {C : String} (q : v.isRef = true) : narrow (.object C) v = v := by cases v <;> simp [Value.isRef] at q <;> rfl
theorem own_fit_ref {v : Value} {C : String} (q : v.isRef = true) : fits (.object C) v = true := by cases v <;> simp [Value.isRef] at q <;> rfl
theorem own_sixteen (x : Int32) : (x.toBitVec.toNat < 2147483648 ∧ x.toInt = (x.toBitVec.toNat : Int)) ∨ (2147483648 ≤ x.toBitVec.toNat ∧ x.toInt = (x.toBitVec.toNat : Int) - 4294967296) := by
  have h1 : x.toInt = x.toBitVec.toInt := rfl
  have h2 := x.toBitVec.isLt
  rw [h1, BitVec.toInt_eq_toNat_cond]; split <;> omega
end OwnKit

section OwnDbl
open Jvm.Free.Fl
variable {p : Program} {l : Launch} {e : Env} {R : Room} {s : State} {m : MethodId} {args : Array Value} {below : List Frame} {meth : Method} {c : Code} {T : State} {locs : List Loc} {cells slots : Nat} {P : State → Outcome → Prop} {Z : State} {a0 : Array Value} {h : Heap} {pc : Nat} {Ls : Array Slot} {st : List Value}
theorem g_dadd (X : Stand p l e R s m args below meth c T locs cells slots) (hx : p.tables.exec = Jvm.exec) (pc' : Nat) (hpc : pc + 1 = pc') {x y : UInt64} (hd : decode c.code pc = .ok (.dadd, 1)) (hn : NoNaN64 (FP.dadd x y)) (K : Goes p e below (T.setTop (mkF m pc' Ls (.double (FP.dadd x y) :: st))) P) : Goes p e below (T.setTop (mkF m pc Ls (.double y :: .double x :: st))) P := by
  subst hpc; exact go (fun _ q => XS.daddS X.here hx rfl hd rfl hn rfl q) K
theorem g_dsub (X : Stand p l e R s m args below meth c T locs cells slots) (hx : p.tables.exec = Jvm.exec) (pc' : Nat) (hpc : pc + 1 = pc') {x y : UInt64} (hd : decode c.code pc = .ok (.dsub, 1)) (hn : NoNaN64 (FP.dsub x y)) (K : Goes p e below (T.setTop (mkF m pc' Ls (.double (FP.dsub x y) :: st))) P) : Goes p e below (T.setTop (mkF m pc Ls (.double y :: .double x :: st))) P := by
  subst hpc; exact go (fun _ q => XS.dsubS X.here hx rfl hd rfl hn rfl q) K
theorem g_dmul (X : Stand p l e R s m args below meth c T locs cells slots) (hx : p.tables.exec = Jvm.exec) (pc' : Nat) (hpc : pc + 1 = pc') {x y : UInt64} (hd : decode c.code pc = .ok (.dmul, 1)) (hn : NoNaN64 (FP.dmul x y)) (K : Goes p e below (T.setTop (mkF m pc' Ls (.double (FP.dmul x y) :: st))) P) : Goes p e below (T.setTop (mkF m pc Ls (.double y :: .double x :: st))) P := by
  subst hpc; exact go (fun _ q => XS.dmulS X.here hx rfl hd rfl hn rfl q) K
theorem g_ddiv (X : Stand p l e R s m args below meth c T locs cells slots) (hx : p.tables.exec = Jvm.exec) (pc' : Nat) (hpc : pc + 1 = pc') {x y : UInt64} (hd : decode c.code pc = .ok (.ddiv, 1)) (hn : NoNaN64 (FP.ddiv x y)) (K : Goes p e below (T.setTop (mkF m pc' Ls (.double (FP.ddiv x y) :: st))) P) : Goes p e below (T.setTop (mkF m pc Ls (.double y :: .double x :: st))) P := by
  subst hpc; exact go (fun _ q => XS.ddivS X.here hx rfl hd rfl hn rfl q) K
theorem g_i2d (X : Stand p l e R s m args below meth c T locs cells slots) (hx : p.tables.exec = Jvm.exec) (pc' : Nat) (hpc : pc + 1 = pc') {x : Int32} (hd : decode c.code pc = .ok (.i2d, 1))  (K : Goes p e below (T.setTop (mkF m pc' Ls (.double (FP.i2d x) :: st))) P) : Goes p e below (T.setTop (mkF m pc Ls (.int x :: st))) P := by
  subst hpc; exact go (fun _ q => XS.i2dS X.here hx rfl hd rfl rfl q) K
theorem g_l2d (X : Stand p l e R s m args below meth c T locs cells slots) (hx : p.tables.exec = Jvm.exec) (pc' : Nat) (hpc : pc + 1 = pc') {x : Int64} (hd : decode c.code pc = .ok (.l2d, 1))  (K : Goes p e below (T.setTop (mkF m pc' Ls (.double (FP.l2d x) :: st))) P) : Goes p e below (T.setTop (mkF m pc Ls (.long x :: st))) P := by
  subst hpc; exact go (fun _ q => XS.l2dS X.here hx rfl hd rfl rfl q) K
theorem g_dconst0 (X : Stand p l e R s m args below meth c T locs cells slots) (hx : p.tables.exec = Jvm.exec) (pc' : Nat) (hpc : pc + 1 = pc') (v : UInt64) (hv : FP.dconst0 = v) (hd : decode c.code pc = .ok (.dconst 0, 1))  (K : Goes p e below (T.setTop (mkF m pc' Ls (.double v :: st))) P) : Goes p e below (T.setTop (mkF m pc Ls (st))) P := by
  subst hpc; exact go (fun _ q => XS.dconst0 X.here hx rfl hd hv q) K
theorem g_dconst1 (X : Stand p l e R s m args below meth c T locs cells slots) (hx : p.tables.exec = Jvm.exec) (pc' : Nat) (hpc : pc + 1 = pc') (v : UInt64) (hv : FP.dconst1 = v) (hd : decode c.code pc = .ok (.dconst 1, 1))  (K : Goes p e below (T.setTop (mkF m pc' Ls (.double v :: st))) P) : Goes p e below (T.setTop (mkF m pc Ls (st))) P := by
  subst hpc; exact go (fun _ q => XS.dconst1 X.here hx rfl hd hv q) K
theorem g_dcmp (X : Stand p l e R s m args below meth c T locs cells slots) (hx : p.tables.exec = Jvm.exec) (pc' : Nat) (hpc : pc + 1 = pc') {o : CmpOp} {x y : UInt64} (v : Int32) (hv : cmpValue (FP.dcmp x y) o = v) (hd : decode c.code pc = .ok (.dcmp o, 1))  (K : Goes p e below (T.setTop (mkF m pc' Ls (.int v :: st))) P) : Goes p e below (T.setTop (mkF m pc Ls (.double y :: .double x :: st))) P := by
  subst hpc; exact go (fun _ q => XS.dcmpS X.here hx rfl hd rfl hv q) K
theorem g_dload_n (X : Stand p l e R s m args below meth c T locs cells slots) (hx : p.tables.exec = Jvm.exec) (pc' : Nat) (hpc : pc + 1 = pc') {k : Fin 4} {v : UInt64} (hd : decode c.code pc = .ok (.dload_n k, 1)) (hl : Ls[k.val]? = some (.val (.double v))) (K : Goes p e below (T.setTop (mkF m pc' Ls (.double v :: st))) P) : Goes p e below (T.setTop (mkF m pc Ls (st))) P := by
  subst hpc; exact go (fun _ q => XS.dloadN X.here hx rfl hd hl q) K
theorem g_dload (X : Stand p l e R s m args below meth c T locs cells slots) (hx : p.tables.exec = Jvm.exec) (pc' : Nat) (hpc : pc + 2 = pc') {k : Nat} {v : UInt64} (hd : decode c.code pc = .ok (.dload k, 2)) (hl : Ls[k]? = some (.val (.double v))) (K : Goes p e below (T.setTop (mkF m pc' Ls (.double v :: st))) P) : Goes p e below (T.setTop (mkF m pc Ls (st))) P := by
  subst hpc; exact go (fun _ q => XS.dload X.here hx rfl hd hl q) K
theorem g_dstore_n (X : Stand p l e R s m args below meth c T locs cells slots) (hx : p.tables.exec = Jvm.exec) (pc' : Nat) (hpc : pc + 1 = pc') {k : Fin 4} {x : UInt64} (hd : decode c.code pc = .ok (.dstore_n k, 1)) (l' : Array Slot) (hl : storeLocals Ls k.val (.double x) = some l') (K : Goes p e below (T.setTop (mkF m pc' l' st)) P) : Goes p e below (T.setTop (mkF m pc Ls (.double x :: st))) P := by
  subst hpc; exact go (fun _ q => XS.dstoreN X.here hx rfl hd rfl hl q) K
theorem g_dstore (X : Stand p l e R s m args below meth c T locs cells slots) (hx : p.tables.exec = Jvm.exec) (pc' : Nat) (hpc : pc + 2 = pc') {k : Nat} {x : UInt64} (hd : decode c.code pc = .ok (.dstore k, 2)) (l' : Array Slot) (hl : storeLocals Ls k (.double x) = some l') (K : Goes p e below (T.setTop (mkF m pc' l' st)) P) : Goes p e below (T.setTop (mkF m pc Ls (.double x :: st))) P := by
  subst hpc; exact go (fun _ q => XS.dstore X.here hx rfl hd rfl hl q) K
theorem g_retD {z : UInt64} {kc ks : Nat} {Q : Option Value → Heap → List Loc → Prop} (X : Stand p l e R s m args below meth c T locs cells slots) (hx : p.tables.exec = Jvm.exec) (hret : meth.sig.returnType = some .double) (hlk : meth.locks = false) (hd : decode c.code pc = .ok (.dreturn, 1)) (hQ : Q (some (.double z)) T.heap locs) (hc : cells ≤ kc) (hs : slots ≤ ks) : Goes p e below (T.setTop (mkF m pc Ls (.double z :: st))) (Endz s kc ks Q) :=
  g_ret X hx hret hlk rfl (Or.inr (Or.inr (Or.inl ⟨rfl, rfl, z, rfl⟩))) hd hQ hc hs
theorem g_daload (X : Stand p l e R s m args below meth c T locs cells slots) (hx : p.tables.exec = Jvm.exec) (hZ : Z.Warmed39 s.vm) (pc' : Nat) (hpc : pc + 1 = pc') (hd : decode c.code pc = .ok (.daload, 1)) (eT : T.heap = h) {a : Addr} {vs : List Value} (A : Al Z h a .double vs) {j : Int32} (i : Nat) (hj : j.toInt = (i : Int)) (v : Value) (hv : vs[i]? = some v) (K : Goes p e below (T.setTop (mkF m pc' Ls (v :: st))) P) : Goes p e below (T.setTop (mkF m pc Ls (.int j :: .ref a :: st))) P := by
  subst hpc
  obtain ⟨c, A, r1, r2, r3⟩ := A.cell hj (List.getElem?_eq_some_iff.mp hv).1
  exact go (fun _ q => X.daload hx (by rw [eT]; exact A.1) (State.isArrayOf_alike hZ.alike A.2.1) A.2.2 r2 (r3.trans hv) (g := mkF m pc Ls (.int j :: .ref a :: st)) rfl rfl hd _ q) K
theorem g_dastore (X : Stand p l e R s m args below meth c T locs cells slots) (hx : p.tables.exec = Jvm.exec) (hZ : Z.Warmed39 s.vm) (pc' : Nat) (hpc : pc + 1 = pc') (hd : decode c.code pc = .ok (.dastore, 1)) (eT : T.heap = h) {a : Addr} {vs : List Value} (A : Al Z h a .double vs) {j : Int32} {x : UInt64} (i : Nat) (hj : j.toInt = (i : Int)) (hi : i < vs.length) (K : ∀ T' h', Stand p l e R s m args below meth c T' (locs ++ [⟨a, i⟩]) cells slots → T'.heap = h' → Wr h h' a i (.double x) → Al Z h' a .double (vs.set i (.double x)) → Goes p e below (T'.setTop (mkF m pc' Ls st)) P) : Goes p e below (T.setTop (mkF m pc Ls (.double x :: .int j :: .ref a :: st))) P := by
  subst hpc
  obtain ⟨c, Ar, r1, r2, r3⟩ := A.cell hj hi
  obtain ⟨T', h', X', e', W', st'⟩ := stD X hx hZ eT Ar r2 (g := mkF m pc Ls (.double x :: .int j :: .ref a :: st)) rfl rfl hd
  rw [(own_ix hj).1] at X' W'
  exact go st' (K T' h' X' e' W' (A.same W'))
theorem g_ldcD (X : Stand p l e R s m args below meth c T locs cells slots) (hx : p.tables.exec = Jvm.exec) (pc' : Nat) (hpc : pc + 3 = pc') {own : String} {index : Nat} {v : UInt64} (hown : s.vm.findClass own = some m.cls) (hZ : Z.Warmed39 s.vm) (w : (Jvm.Cond.constantDouble own index v).before a0 Z = true) (hd : decode c.code pc = .ok (.ldc2_w index, 3))  (K : Goes p e below (T.setTop (mkF m pc' Ls (.double v :: st))) P) : Goes p e below (T.setTop (mkF m pc Ls (st))) P := by
  subst hpc; exact go (fun _ q => X.ldc2DoubleC hx hown (mvT hZ w) (g := mkF m pc Ls st) rfl hd _ q) K
theorem g_absD (X : Stand p l e R s m args below meth c T locs cells slots) (hx : p.tables.exec = Jvm.exec) (hZ : Z.Warmed39 s.vm) (pc' : Nat) (hpc : pc + 3 = pc') {own : String} {index : Nat} (hown : s.vm.findClass own = some m.cls) (w1 : (Jvm.Cond.methodLink own index Abs.absDN).before a0 Z = true) (w2 : (Jvm.Cond.static Abs.absDN).before a0 Z = true) (w3 : (Jvm.Cond.initialized "java/lang/Math").before a0 Z = true) (w4 : (Jvm.Cond.code Abs.absDN Abs.absDCode 2 (some .double)).before a0 Z = true) (eT : T.heap = h) {x : UInt64} (hN : NoNaN64 x) (hsize : Ls.size = c.maxLocals) (hd : decode c.code pc = .ok (.invokestatic index, 3)) (hf : 1 ≤ R.frames) (W : Nat) (hW : 2 * 0 + (st.map fun v => v.category).sum ≤ W) (hlo : W + 13 ≤ R.locals) (hc : cells ≤ R.cells) (hs : slots ≤ R.slots) (K : ∀ T', Stand p l e R s m args below meth c T' locs cells slots → T'.heap = h → Goes p e below (T'.setTop (mkF m pc' Ls (.double (x &&& 0x7fffffffffffffff) :: st))) P) : Goes p e below (T.setTop (mkF m pc Ls (.double x :: st))) P := by
  subst hpc
  obtain ⟨T', X', e', st'⟩ := natS X hx hZ hown w1 w2 w3 w4 (by decide) eT (W := W) (fun hc4 => Abs.absD_pays (W := W) x hc4 hf hlo) (g := mkF m pc Ls (.double x :: st)) rfl hsize (argsL := [.double x]) (rest := st) (fun sig hs => by rw [show parseMethodDescriptor Abs.absDN.desc = some ⟨[.double], some .double⟩ from by decide +kernel] at hs; rw [← Option.some.inj hs]; rfl) rfl hW hd hc hs ⟨rfl, hN⟩ rfl
  exact go st' (K T' X' e')
end OwnDbl

theorem own_ofi (k : Nat) (hk : k < 2147483648) : (Int32.ofNat k).toInt = (k : Int) := Int32.toInt_ofNat_of_lt hk
theorem own_ofl (k : Nat) (hk : k < 9223372036854775808) : (Int64.ofNat k).toInt = (k : Int) := Int64.toInt_ofNat_of_lt hk
theorem own_ofNat (x : Int32) (k : Nat) (h : x.toInt = (k : Int)) : x = Int32.ofNat k := by
  have h3 := rng32 x
  apply Int32.toInt_inj.mp
  rw [Int32.toInt_ofNat_of_lt (by omega)]; exact h
theorem own_ofNatL (x : Int64) (k : Nat) (h : x.toInt = (k : Int)) : x = Int64.ofNat k := by
  have h3 := rng64 x
  apply Int64.toInt_inj.mp
  rw [Int64.toInt_ofNat_of_lt (by omega)]; exact h
theorem own_i2l (k : Nat) (hk : k < 2147483648) : (Int32.ofNat k).toInt64 = Int64.ofNat k := own_ofNatL _ _ (by rw [Int32.toInt_toInt64, own_ofi k hk])
theorem own_addN (a b : Nat) (h : a + b < 9223372036854775808) : Int64.ofNat a + Int64.ofNat b = Int64.ofNat (a + b) := by
  apply own_ofNatL
  have h1 := c_ladd (Int64.ofNat a) (Int64.ofNat b); have h2 := rng64 (Int64.ofNat a + Int64.ofNat b); have h3 := own_ofl a (by omega); have h4 := own_ofl b (by omega)
  omega
theorem own_subN (a b : Nat) (h : a < 9223372036854775808) (h2 : b ≤ a) : Int64.ofNat a - Int64.ofNat b = Int64.ofNat (a - b) := by
  apply own_ofNatL
  have h1 := c_lsub (Int64.ofNat a) (Int64.ofNat b); have h2 := rng64 (Int64.ofNat a - Int64.ofNat b); have h3 := own_ofl a (by omega); have h4 := own_ofl b (by omega)
  omega
theorem own_mulN (a b A B : Nat) (ha : a ≤ A) (hb9 : b ≤ B) (hA : A < 9223372036854775808) (hB : B < 9223372036854775808) (h : A * B < 9223372036854775808) : Int64.ofNat a * Int64.ofNat b = Int64.ofNat (a * b) := by
  apply own_ofNatL
  have h0 := Nat.mul_le_mul ha hb9
  have h1 := c_lmul (Int64.ofNat a) (Int64.ofNat b); have h2 := rng64 (Int64.ofNat a * Int64.ofNat b)
  rw [own_ofl a (by omega), own_ofl b (by omega), ← Int.natCast_mul] at h1
  omega
theorem own_m15 (x : Int32) : ∃ k : Nat, x &&& (15 : Int32) = Int32.ofNat k ∧ k < 16 := by
  have q := c_mask x 15 4 (by decide) (by decide)
  exact ⟨(x &&& 15).toInt.toNat, own_ofNat _ _ (by omega), by omega⟩
theorem own_m20 (x : Int32) : ∃ k : Nat, x &&& (1048575 : Int32) = Int32.ofNat k ∧ k < 1048576 := by
  have q := c_mask x 1048575 20 (by decide) (by decide)
  exact ⟨(x &&& 1048575).toInt.toNat, own_ofNat _ _ (by omega), by omega⟩
theorem own_m40 (x : Int64) : ∃ k : Nat, x &&& (1099511627775 : Int64) = Int64.ofNat k ∧ k < 1099511627776 := by
  have q := c_maskL x 1099511627775 40 (by decide) (by decide)
  exact ⟨(x &&& 1099511627775).toInt.toNat, own_ofNatL _ _ (by omega), by omega⟩
theorem own_m31 (x : Int64) : ∃ k : Nat, x &&& (2147483647 : Int64) = Int64.ofNat k ∧ k < 2147483648 := by
  have q := c_maskL x 2147483647 31 (by decide) (by decide)
  exact ⟨(x &&& 2147483647).toInt.toNat, own_ofNatL _ _ (by omega), by omega⟩
theorem own_rem5 (x : Int32) : ∃ k : Nat, (x &&& (2147483647 : Int32)) % (5 : Int32) = Int32.ofNat k ∧ k < 5 := by
  have h1 := c_mask x 2147483647 31 (by decide) (by decide)
  have h2 := (c_irem (x &&& 2147483647) 5 5 rfl).1 (by omega)
  exact ⟨((x &&& (2147483647 : Int32)) % 5).toInt.toNat, own_ofNat _ _ (by omega), by omega⟩
theorem own_dc0 : FP.dconst0 = 0 := by decide +kernel
theorem own_dc1 : FP.dconst1 = 4607182418800017408 := by decide +kernel
theorem own_p2 : ∀ n : Fin 16, (1 : Int64) <<< ((Int32.ofNat n.val).toInt64 &&& 63) = Int64.ofNat (2 ^ n.val) := by decide +kernel
theorem own_kall : ∀ n : Fin 16, ¬ (0 : Int32) < cmpValue (FP.dcmp ((FP.ddiv (FP.l2d (Int64.ofNat n.val)) (4616189618054758400 : UInt64)) &&& 0x7fffffffffffffff) (9218868437227405311 : UInt64)) .g ∧ ¬ cmpValue (FP.dcmp (FP.ddiv (FP.l2d (Int64.ofNat n.val)) (4616189618054758400 : UInt64)) (0 : UInt64)) .l < (0 : Int32) := by decide +kernel
theorem own_ball : ∀ n : Fin 5, ¬ cmpValue (FP.dcmp (FP.ddiv (FP.l2d (Int64.ofNat n.val)) (4616189618054758400 : UInt64)) (0 : UInt64)) .l < (0 : Int32) ∧ ¬ (0 : Int32) < cmpValue (FP.dcmp (FP.ddiv (FP.l2d (Int64.ofNat n.val)) (4616189618054758400 : UInt64)) (4607182418800017408 : UInt64)) .g := by decide +kernel

section OwnFP
open Jvm.FP.Core (b64 Datum roundRatio val64)
abbrev RR (A : Nat) (e : Int) : Datum := roundRatio b64 false A 1 e
theorem own_qmin : b64.qmin = -1074 := by decide
theorem own_qmax : b64.qmax = 971 := by decide
theorem own_R (A : Nat) (e : Int) (hA : A < 2 ^ 53) (h1 : -900 ≤ e) (h2 : e ≤ 900) : ∃ i : Nat, RR A e = .fin false (A * 2 ^ i) (e - i) := by
  by_cases h0 : A = 0
  · subst h0
    refine ⟨(e + 1074).toNat, ?_⟩
    show roundRatio b64 false 0 1 e = _
    unfold roundRatio
    rw [if_pos rfl, own_qmin, Nat.zero_mul, show e - ((e + 1074).toNat : Int) = -1074 by omega]
  · have l1 : 2 ^ A.log2 ≤ A := Nat.log2_self_le h0
    have l2 : A < 2 ^ (A.log2 + 1) := Nat.lt_log2_self
    have l3 : A.log2 ≤ 52 := by have := (Nat.log2_lt h0 (k := 53)).mpr hA; omega
    refine ⟨52 - A.log2, ?_⟩
    refine Jvm.FP.Core.roundRatio_exact Jvm.FP.Core.good_b64 (by decide) ⟨?_, ?_, ?_, Or.inr ?_⟩ ?_
    · show A * 2 ^ (52 - A.log2) < 2 ^ 53
      calc A * 2 ^ (52 - A.log2) < 2 ^ (A.log2 + 1) * 2 ^ (52 - A.log2) := Nat.mul_lt_mul_of_pos_right l2 (Nat.two_pow_pos _)
        _ = 2 ^ 53 := by rw [← Nat.pow_add]; congr 1; omega
    · rw [own_qmin]; omega
    · rw [own_qmax]; omega
    · show 2 ^ 52 ≤ A * 2 ^ (52 - A.log2)
      calc 2 ^ 52 = 2 ^ A.log2 * 2 ^ (52 - A.log2) := by rw [← Nat.pow_add]; congr 1; omega
        _ ≤ A * 2 ^ (52 - A.log2) := Nat.mul_le_mul_right _ l1
    · rw [show (e - (e - ((52 - A.log2 : Nat) : Int))).toNat = 52 - A.log2 by omega, show (e - ((52 - A.log2 : Nat) : Int) - e).toNat = 0 by omega, Nat.pow_zero, Nat.mul_one, Nat.mul_one]
theorem own_fmul {x y : UInt64} {A B : Nat} {e f : Int} (hx : val64 x = RR A e) (hy : val64 y = RR B f) (hA : A < 2 ^ 53) (hB : B < 2 ^ 53) (e1 : -900 ≤ e) (e2 : e ≤ 900) (f1 : -900 ≤ f) (f2 : f ≤ 900) : val64 (FP.dmul x y) = RR (A * B) (e + f) := by
  obtain ⟨i, hi⟩ := own_R A e hA e1 e2
  obtain ⟨j, hj⟩ := own_R B f hB f1 f2
  rw [show FP.dmul x y = Jvm.FP.Core.dmul x y from rfl, Jvm.FP.Core.val64_dmul, hx, hy, hi, hj]
  show roundRatio b64 false (A * 2 ^ i * (B * 2 ^ j)) 1 (e - i + (f - j)) = roundRatio b64 false (A * B) 1 (e + f)
  refine Jvm.FP.Core.roundRatio_congr (by decide) (by decide) ?_
  rw [show (e - i + (f - j) - (e + f)).toNat = 0 by omega, show (e + f - (e - i + (f - j))).toNat = i + j by omega, Nat.pow_zero, Nat.mul_one, Nat.mul_one, Nat.mul_one, Nat.pow_add]
  ac_rfl
theorem own_fdiv {x y : UInt64} {A B : Nat} {e f : Int} (hx : val64 x = RR A e) (hy : val64 y = RR B f) (hA : A < 2 ^ 53) (hB : B < 2 ^ 53) (hB0 : 0 < B) (e1 : -900 ≤ e) (e2 : e ≤ 900) (f1 : -900 ≤ f) (f2 : f ≤ 900) : val64 (FP.ddiv x y) = roundRatio b64 false A B (e - f) := by
  obtain ⟨i, hi⟩ := own_R A e hA e1 e2
  obtain ⟨j, hj⟩ := own_R B f hB f1 f2
  rw [show FP.ddiv x y = Jvm.FP.Core.ddiv x y from rfl, Jvm.FP.Core.val64_ddiv, hx, hy, hi, hj]
  have hd : 0 < B * 2 ^ j := Nat.mul_pos hB0 (Nat.two_pow_pos _)
  show (if B * 2 ^ j = 0 then _ else roundRatio b64 false (A * 2 ^ i) (B * 2 ^ j) (e - i - (f - j))) = _
  rw [if_neg (by omega)]
  refine Jvm.FP.Core.roundRatio_congr hd hB0 ?_
  by_cases q : i ≤ j
  · obtain ⟨k, rfl⟩ : ∃ k, j = i + k := ⟨j - i, by omega⟩
    rw [show (e - i - (f - ((i + k : Nat) : Int)) - (e - f)).toNat = k by omega, show (e - f - (e - i - (f - ((i + k : Nat) : Int)))).toNat = 0 by omega, Nat.pow_zero, Nat.mul_one, Nat.pow_add]
    ac_rfl
  · obtain ⟨k, rfl⟩ : ∃ k, i = j + k := ⟨i - j, by omega⟩
    rw [show (e - ((j + k : Nat) : Int) - (f - j) - (e - f)).toNat = 0 by omega, show (e - f - (e - ((j + k : Nat) : Int) - (f - j))).toNat = k by omega, Nat.pow_zero, Nat.mul_one, Nat.pow_add]
    ac_rfl
theorem own_rpow (A t : Nat) (e : Int) : roundRatio b64 false A (2 ^ t) e = RR A (e - t) := by
  refine Jvm.FP.Core.roundRatio_congr (Nat.two_pow_pos _) (by decide) ?_
  rw [show (e - (e - t)).toNat = t by omega, show (e - t - e).toNat = 0 by omega, Nat.pow_zero, Nat.mul_one, Nat.mul_one]
theorem own_rnum (A B t : Nat) (e : Int) (hB : 0 < B) : roundRatio b64 false (A * 2 ^ t) B e = roundRatio b64 false A B (e + t) := by
  refine Jvm.FP.Core.roundRatio_congr hB hB ?_
  rw [show (e - (e + t)).toNat = 0 by omega, show (e + t - e).toNat = t by omega, Nat.pow_zero, Nat.mul_one]
  ac_rfl
theorem own_unit (A i : Nat) (e md : Int) (h : md ≤ e - i) : A * 2 ^ i * 2 ^ (e - i - md).toNat = A * 2 ^ (e - md).toNat := by
  rw [Nat.mul_assoc, ← Nat.pow_add, show i + (e - i - md).toNat = (e - md).toNat by omega]
theorem own_fadd {x y : UInt64} {A B : Nat} {g : Int} (a b : Nat) (hx : val64 x = RR A (g + a)) (hy : val64 y = RR B (g + b)) (hA : A < 2 ^ 53) (hB : B < 2 ^ 53) (g1 : -900 ≤ g) (g2 : g ≤ 800) (ha : a ≤ 100) (hb9 : b ≤ 100) : val64 (FP.dadd x y) = RR (A * 2 ^ a + B * 2 ^ b) g := by
  obtain ⟨i, hi⟩ := own_R A (g + a) hA (by omega) (by omega)
  obtain ⟨j, hj⟩ := own_R B (g + b) hB (by omega) (by omega)
  rw [show FP.dadd x y = Jvm.FP.Core.dadd x y from rfl, Jvm.FP.Core.val64_dadd, hx, hy, hi, hj]
  generalize hm : min (g + a - i) (g + b - j) = md
  have m1 : md ≤ g + a - i := by omega
  have m2 : md ≤ g + b - j := by omega
  have hu : Jvm.FP.Core.sumUnits false (A * 2 ^ i) (g + a - i) false (B * 2 ^ j) (g + b - j) md = ((A * 2 ^ (g + a - md).toNat + B * 2 ^ (g + b - md).toNat : Nat) : Int) := by
    show ((A * 2 ^ i * 2 ^ (g + a - i - md).toNat : Nat) : Int) + ((B * 2 ^ j * 2 ^ (g + b - j - md).toNat : Nat) : Int) = _
    rw [own_unit A i (g + a) md m1, own_unit B j (g + b) md m2]; rfl
  show Jvm.FP.Core.round b64 (.fin (Jvm.FP.Core.sumSign false false (Jvm.FP.Core.sumUnits false (A * 2 ^ i) (g + a - i) false (B * 2 ^ j) (g + b - j) (min (g + a - i) (g + b - j)))) (Jvm.FP.Core.sumUnits false (A * 2 ^ i) (g + a - i) false (B * 2 ^ j) (g + b - j) (min (g + a - i) (g + b - j))).natAbs (min (g + a - i) (g + b - j))) = _
  rw [hm, hu]
  have hsg : ∀ n : Nat, Jvm.FP.Core.sumSign false false (n : Int) = false := by
    intro n; unfold Jvm.FP.Core.sumSign
    split
    · rfl
    · exact decide_eq_false (by omega)
  rw [hsg, Int.natAbs_natCast]
  show roundRatio b64 false _ 1 md = roundRatio b64 false _ 1 g
  refine Jvm.FP.Core.roundRatio_congr (by decide) (by decide) ?_
  rw [Nat.mul_one, Nat.mul_one, Nat.add_mul, Nat.add_mul, Nat.mul_assoc, Nat.mul_assoc, Nat.mul_assoc, Nat.mul_assoc, ← Nat.pow_add, ← Nat.pow_add, ← Nat.pow_add, ← Nat.pow_add]
  rw [show (g + a - md).toNat + (md - g).toNat = a + (g - md).toNat by omega, show (g + b - md).toNat + (md - g).toNat = b + (g - md).toNat by omega]
theorem own_fsub {x y : UInt64} {A B : Nat} {g : Int} (hx : val64 x = RR A g) (hy : val64 y = RR B g) (hA : A < 2 ^ 53) (hBA : B ≤ A) (g1 : -900 ≤ g) (g2 : g ≤ 800) : val64 (FP.dsub x y) = RR (A - B) g := by
  obtain ⟨i, hi⟩ := own_R A g hA (by omega) (by omega)
  obtain ⟨j, hj⟩ := own_R B g (by omega) (by omega) (by omega)
  rw [show FP.dsub x y = Jvm.FP.Core.dsub x y from rfl, Jvm.FP.Core.val64_dsub, hx, hy, hi, hj]
  generalize hm : min (g - i) (g - j) = md
  have m1 : md ≤ g - i := by omega
  have m2 : md ≤ g - j := by omega
  have hu : Jvm.FP.Core.sumUnits false (A * 2 ^ i) (g - i) true (B * 2 ^ j) (g - j) md = (((A - B) * 2 ^ (g - md).toNat : Nat) : Int) := by
    show ((A * 2 ^ i * 2 ^ (g - i - md).toNat : Nat) : Int) + -((B * 2 ^ j * 2 ^ (g - j - md).toNat : Nat) : Int) = _
    rw [own_unit A i g md m1, own_unit B j g md m2, Nat.sub_mul]
    have := Nat.mul_le_mul_right (2 ^ (g - md).toNat) hBA
    omega
  show Jvm.FP.Core.round b64 (.fin (Jvm.FP.Core.sumSign false true (Jvm.FP.Core.sumUnits false (A * 2 ^ i) (g - i) true (B * 2 ^ j) (g - j) (min (g - i) (g - j)))) (Jvm.FP.Core.sumUnits false (A * 2 ^ i) (g - i) true (B * 2 ^ j) (g - j) (min (g - i) (g - j))).natAbs (min (g - i) (g - j))) = _
  rw [hm, hu]
  have hsg : ∀ n : Nat, Jvm.FP.Core.sumSign false true (n : Int) = false := by
    intro n; unfold Jvm.FP.Core.sumSign
    split
    · rfl
    · exact decide_eq_false (by omega)
  rw [hsg, Int.natAbs_natCast]
  show roundRatio b64 false _ 1 md = roundRatio b64 false _ 1 g
  refine Jvm.FP.Core.roundRatio_congr (by decide) (by decide) ?_
  rw [Nat.mul_one, Nat.mul_one, Nat.mul_assoc, ← Nat.pow_add, show (g - md).toNat + (md - g).toNat = (g - md).toNat by omega]
theorem own_vnn {x : UInt64} {A B : Nat} {e : Int} (h : val64 x = roundRatio b64 false A B e) : Jvm.Free.Fl.NoNaN64 x := Jvm.Free.Fl.val64_no.mpr (by rw [h]; exact Jvm.FP.Core.roundRatio_ne_nan _ _ _ _ _)
theorem own_vl2d (n : Nat) (hn : n < 9223372036854775808) : val64 (FP.l2d (Int64.ofNat n)) = RR n 0 := by
  rw [show FP.l2d (Int64.ofNat n) = Jvm.FP.Core.l2d (Int64.ofNat n) from rfl, Jvm.FP.Core.val64_l2d, own_ofl n hn]
  show roundRatio b64 (decide ((n : Int) < 0)) (n : Int).natAbs 1 0 = _
  rw [decide_eq_false (by omega), Int.natAbs_natCast]
theorem own_v4 : val64 4616189618054758400 = RR 4 0 := by decide +kernel
theorem own_v1 : val64 4607182418800017408 = RR 1 0 := by decide +kernel
theorem own_v1b : val64 4607182418800017408 = RR 4 (-2) := by decide +kernel
theorem own_quart {x : UInt64} (n : Nat) (hn : n < 2 ^ 53) (hx : val64 x = RR n 0) : val64 (FP.ddiv x 4616189618054758400) = RR n (-2) := by
  rw [own_fdiv hx own_v4 hn (by decide) (by decide) (by decide) (by decide) (by decide) (by decide)]
  exact own_rpow n 2 0
theorem own_same {x y z : UInt64} (h : val64 y = val64 z) : FP.dmul x y = FP.dmul x z := by
  show UInt64.ofNat (Jvm.FP.Core.encode b64 (Jvm.FP.Core.round b64 (Jvm.FP.Core.exactProduct (val64 x) (val64 y)))) = UInt64.ofNat (Jvm.FP.Core.encode b64 (Jvm.FP.Core.round b64 (Jvm.FP.Core.exactProduct (val64 x) (val64 z))))
  rw [h]
theorem own_mulnn {x y : UInt64} {A N D : Nat} {e f : Int} (hx : val64 x = RR A e) (hy : val64 y = roundRatio b64 false N D f) (hA : A < 2 ^ 53) (h0 : 0 < A) (e1 : -900 ≤ e) (e2 : e ≤ 900) : Jvm.Free.Fl.NoNaN64 (FP.dmul x y) := by
  apply Jvm.Free.Fl.val64_no.mpr
  obtain ⟨i, hi⟩ := own_R A e hA e1 e2
  rw [show FP.dmul x y = Jvm.FP.Core.dmul x y from rfl, Jvm.FP.Core.val64_dmul, hx, hi, hy]
  rcases Jvm.FP.Core.roundRatio_cases b64 false N D f with ⟨c, q, h⟩ | h
  · rw [h]; exact Jvm.FP.Core.roundRatio_ne_nan _ _ _ _ _
  · rw [h]
    have hd : 0 < A * 2 ^ i := Nat.mul_pos h0 (Nat.two_pow_pos _)
    show Jvm.FP.Core.round b64 (if A * 2 ^ i = 0 then .nan else .inf _) ≠ .nan
    rw [if_neg (by omega)]
    exact Datum.noConfusion
end OwnFP

section OwnScore
open Jvm.FP.Core (b64 roundRatio val64)
set_option maxHeartbeats 4000000 in
theorem own_score (kn bn en fn dn jn : Nat) (hk : kn < 16) (hb9 : bn < 5) (he : en < 16) (hf0 : 0 < fn) (hf : fn ≤ 1048576) (hd : dn ≤ 1099511627776) (hj0 : 0 < jn) (hj : jn ≤ 2147483648) (xk xb xt xi xa : UInt64)
    (vk : val64 xk = RR kn (-2)) (vb : val64 xb = RR bn (-2)) (vt : val64 xt = RR fn (-2)) (vi : val64 xi = RR jn 0) (va : val64 xa = RR (2 ^ en) 0) (qd qn qe : Int64) (hqd : qd = Int64.ofNat dn) (hqn : qn = Int64.ofNat (fn * (kn + 4) * 2 ^ en)) (hqe : qe = Int64.ofNat (fn * 4 * 2 ^ en + kn * ((4 - bn) * 2 ^ en + bn * dn))) :
    Jvm.Free.Fl.NoNaN64 (FP.dsub (4607182418800017408 : UInt64) xb) ∧ Jvm.Free.Fl.NoNaN64 (FP.dmul xb (FP.l2d qd)) ∧ Jvm.Free.Fl.NoNaN64 (FP.ddiv (FP.dmul xb (FP.l2d qd)) xa) ∧ Jvm.Free.Fl.NoNaN64 (FP.dadd (FP.dsub (4607182418800017408 : UInt64) xb) (FP.ddiv (FP.dmul xb (FP.l2d qd)) xa)) ∧ Jvm.Free.Fl.NoNaN64 (FP.dadd xk (4607182418800017408 : UInt64)) ∧ Jvm.Free.Fl.NoNaN64 (FP.dmul xt (FP.dadd xk (4607182418800017408 : UInt64))) ∧ Jvm.Free.Fl.NoNaN64 (FP.dmul xk (FP.dadd (FP.dsub (4607182418800017408 : UInt64) xb) (FP.ddiv (FP.dmul xb (FP.l2d qd)) xa))) ∧ Jvm.Free.Fl.NoNaN64 (FP.dadd xt (FP.dmul xk (FP.dadd (FP.dsub (4607182418800017408 : UInt64) xb) (FP.ddiv (FP.dmul xb (FP.l2d qd)) xa)))) ∧ Jvm.Free.Fl.NoNaN64 (FP.ddiv (FP.dmul xt (FP.dadd xk (4607182418800017408 : UInt64))) (FP.dadd xt (FP.dmul xk (FP.dadd (FP.dsub (4607182418800017408 : UInt64) xb) (FP.ddiv (FP.dmul xb (FP.l2d qd)) xa))))) ∧ Jvm.Free.Fl.NoNaN64 (FP.dmul xi (FP.ddiv (FP.dmul xt (FP.dadd xk (4607182418800017408 : UInt64))) (FP.dadd xt (FP.dmul xk (FP.dadd (FP.dsub (4607182418800017408 : UInt64) xb) (FP.ddiv (FP.dmul xb (FP.l2d qd)) xa)))))) ∧ Jvm.Free.Fl.NoNaN64 (FP.ddiv (FP.l2d qn) (FP.l2d qe)) ∧ FP.dmul xi (FP.ddiv (FP.dmul xt (FP.dadd xk (4607182418800017408 : UInt64))) (FP.dadd xt (FP.dmul xk (FP.dadd (FP.dsub (4607182418800017408 : UInt64) xb) (FP.ddiv (FP.dmul xb (FP.l2d qd)) xa))))) = FP.dmul xi (FP.ddiv (FP.l2d qn) (FP.l2d qe)) := by
  subst hqd hqn hqe
  have hP : 2 ^ en ≤ 32768 := Nat.pow_le_pow_right (n := 2) (by decide) (show en ≤ 15 by omega)
  have hP1 : 0 < 2 ^ en := Nat.two_pow_pos _
  have b53 : (2 : Nat) ^ 53 = 9007199254740992 := rfl
  have m1 : bn * dn ≤ 4 * 1099511627776 := Nat.mul_le_mul (by omega) hd
  have m2 : (4 - bn) * 2 ^ en ≤ 4 * 32768 := Nat.mul_le_mul (by omega) hP
  have v1 := own_fsub own_v1b vb (by decide) (by omega) (by decide) (by decide)
  have vd := own_vl2d dn (by omega)
  have v2 := own_fmul vb vd (by omega) (by omega) (by decide) (by decide) (by decide) (by decide)
  have v3 := own_fdiv v2 va (by omega) (by omega) hP1 (by decide) (by decide) (by decide) (by decide)
  rw [own_rpow] at v3
  have v4 := own_fadd (g := -2 - (en : Int)) en 0 (A := 4 - bn) (B := bn * dn) (by rw [v1]; congr 1; omega) (by rw [v3]; congr 1; omega) (by omega) (by omega) (by omega) (by omega) (by omega) (by omega)
  rw [Nat.pow_zero, Nat.mul_one] at v4
  generalize hLN : (4 - bn) * 2 ^ en + bn * dn = LN at v4 ⊢
  have hLN2 : LN ≤ 4398046642176 := by omega
  have v5 := own_fadd (x := xk) (y := 4607182418800017408) (g := -2) 0 2 (A := kn) (B := 1) (by rw [vk, show (-2 : Int) + ((0 : Nat) : Int) = -2 from rfl]) (by rw [own_v1, show (-2 : Int) + ((2 : Nat) : Int) = 0 from rfl]) (by omega) (by decide) (by decide) (by decide) (by decide) (by decide)
  rw [show kn * 2 ^ 0 + 1 * 2 ^ 2 = kn + 4 by omega] at v5
  have m3 : fn * (kn + 4) ≤ 1048576 * 19 := Nat.mul_le_mul hf (by omega)
  have v6 := own_fmul vt v5 (by omega) (by omega) (by decide) (by decide) (by decide) (by decide)
  have m4 : kn * LN ≤ 15 * 4398046642176 := Nat.mul_le_mul (by omega) hLN2
  have v7 := own_fmul vk v4 (by omega) (by omega) (by decide) (by decide) (by omega) (by omega)
  have v8 := own_fadd (g := -4 - (en : Int)) (en + 2) 0 (A := fn) (B := kn * LN) (by rw [vt]; congr 1; omega) (by rw [v7]; congr 1; omega) (by omega) (by omega) (by omega) (by omega) (by omega) (by omega)
  rw [Nat.pow_zero, Nat.mul_one, show fn * 2 ^ (en + 2) = fn * 4 * 2 ^ en by rw [Nat.pow_add, Nat.mul_assoc, Nat.mul_comm (2 ^ en)]] at v8
  have m5 : fn * 4 * 2 ^ en ≤ 1048576 * 4 * 32768 := Nat.mul_le_mul (by omega) hP
  have m6 : fn * (kn + 4) * 2 ^ en ≤ 1048576 * 19 * 32768 := Nat.mul_le_mul m3 hP
  have m7 : 0 < fn * 4 * 2 ^ en := Nat.mul_pos (by omega) hP1
  generalize hDEN : fn * 4 * 2 ^ en + kn * LN = DEN at v8 ⊢
  have v9 := own_fdiv v6 v8 (by omega) (by omega) (by omega) (by decide) (by decide) (by omega) (by omega)
  have vn := own_vl2d (fn * (kn + 4) * 2 ^ en) (by omega)
  have ve := own_vl2d DEN (by omega)
  have vq := own_fdiv vn ve (by omega) (by omega) (by omega) (by decide) (by decide) (by decide) (by decide)
  have heq : val64 (FP.ddiv (FP.dmul xt (FP.dadd xk (4607182418800017408 : UInt64))) (FP.dadd xt (FP.dmul xk (FP.dadd (FP.dsub (4607182418800017408 : UInt64) xb) (FP.ddiv (FP.dmul xb (FP.l2d (Int64.ofNat dn))) xa))))) = val64 (FP.ddiv (FP.l2d (Int64.ofNat (fn * (kn + 4) * 2 ^ en))) (FP.l2d (Int64.ofNat DEN))) := by
    rw [v9, vq, own_rnum _ _ _ _ (by omega)]
    congr 1
    omega
  exact ⟨own_vnn v1, own_vnn v2, own_vnn v3, own_vnn v4, own_vnn v5, own_vnn v6, own_vnn v7, own_vnn v8, own_vnn v9, own_mulnn vi v9 (by omega) hj0 (by decide) (by decide), own_vnn vq, own_same heq⟩
end OwnScore

theorem d2_0 : decode prog_89_method_1_code 0 = .ok (.aload_n 0, 1) := by decide +kernel
theorem d2_1 : decode prog_89_method_1_code 1 = .ok (.invokespecial 1, 3) := by decide +kernel
theorem d2_4 : decode prog_89_method_1_code 4 = .ok (.return_, 1) := by decide +kernel
theorem pf_0 : plainFor (⟨"com/example/cranfield/cranfield/similarity/IdfSimilarity", "<init>", "()V"⟩ : MethodName) = true := by first | exact plainFor_of_name (by first | (simp [plainName, overriddenIn]; done) | decide +kernel) | decide +kernel
theorem pd_0 : parseMethodDescriptor "()V" = some ⟨[], none⟩ := by decide +kernel
theorem ef_2_rmS (m : MethodId) (a1 : Addr)  : entryFrame m #[(.ref a1)] 1 = mkF m 0 #[.val (.ref a1)] [] := by first | (simp [entryFrame, mkF, argsToLocals, Value.category, maxLocals]; done) | rfl
def Q_rmS (Z : State) (a1 : Addr) (h0 : Heap) (n0 : Nat) (v : Option Value) (h : Heap) (L : List Loc) : Prop := v = none ∧ Fr n0 L ∧ h = h0
set_option maxRecDepth 65536 in
set_option maxHeartbeats 40000000 in
theorem rmS (l : Launch) (Z : State) (a0 : Array Value) (hw : ∀ d ∈ tables_1, d.before a0 Z = true) (ws : List Jvm.Cond) (a1 : Addr) (h0 : Heap) (n0 : Nat) (Z0 : n0 ≤ h0.size)  :
    OwnMet l Z (⟨"com/example/cranfield/cranfield/similarity/IdfSimilarity", "<init>", "()V"⟩ : MethodName) prog_89_method_1_code 1 none ws ({ frames := 1, cells := 0, slots := 0, locals := 12 } : Room) #[(.ref a1)] h0 (Q_rmS Z a1 h0 n0) := by
  refine own_body pf_0 ?_
  intro p e s m below meth c s₁ hx hby hml hown hnm hret hlk hZ X0 e0
  have N0 := Fr.nil n0
  refine own_cast (ef_2_rmS m a1 ) ?_
  refine g_aload_n X0 hx 1 rfl (hb hby d2_0) rfl rfl ?_
  refine g_initO X0 hx hZ 4 rfl hown (hw _ (List.mem_of_getElem? (i := 16) rfl)) (hw _ (List.mem_of_getElem? (i := 17) rfl)) (hw _ (List.mem_of_getElem? (i := 18) rfl)) e0 (by rw [hml]; rfl) (hb hby d2_1) (by decide) 0 (Nat.le_of_eq rfl) (by decide) ?_
  intro T1 X1 e1
  exact g_ret0 X1 hx hret hlk (hb hby d2_4) ⟨rfl, N0, e1⟩ (by decide) (by decide)
theorem d4_0 : decode jdk_117_method_8_code 0 = .ok (.dload_n 0, 1) := by decide +kernel
theorem d4_1 : decode jdk_117_method_8_code 1 = .ok (.invokestatic 38, 3) := by decide +kernel
theorem d4_4 : decode jdk_117_method_8_code 4 = .ok (.ldc2_w 111, 3) := by decide +kernel
theorem d4_7 : decode jdk_117_method_8_code 7 = .ok (.dcmp .g, 1) := by decide +kernel
theorem d4_8 : decode jdk_117_method_8_code 8 = .ok (.ifCond .gt 7, 3) := by decide +kernel
theorem d4_11 : decode jdk_117_method_8_code 11 = .ok (.iconst 1, 1) := by decide +kernel
theorem d4_12 : decode jdk_117_method_8_code 12 = .ok (.goto 4, 3) := by decide +kernel
theorem d4_15 : decode jdk_117_method_8_code 15 = .ok (.iconst 0, 1) := by decide +kernel
theorem d4_16 : decode jdk_117_method_8_code 16 = .ok (.ireturn, 1) := by decide +kernel
theorem pf_1 : plainFor (⟨"java/lang/Double", "isFinite", "(D)Z"⟩ : MethodName) = true := by first | exact plainFor_of_name (by first | (simp [plainName, overriddenIn]; done) | decide +kernel) | decide +kernel
theorem pd_1 : parseMethodDescriptor "(D)D" = some ⟨[.double], some .double⟩ := by decide +kernel
theorem ef_4_rmF (m : MethodId) (xx : UInt64)  : entryFrame m #[(.double xx)] 2 = mkF m 0 #[.val (.double xx), .second] [] := by first | (simp [entryFrame, mkF, argsToLocals, Value.category, maxLocals]; done) | rfl
def Q_rmF (Z : State) (xx : UInt64) (h0 : Heap) (n0 : Nat) (v : Option Value) (h : Heap) (L : List Loc) : Prop := v = some (.int 1) ∧ Fr n0 L ∧ h = h0
set_option maxRecDepth 65536 in
set_option maxHeartbeats 40000000 in
theorem rmF (l : Launch) (Z : State) (a0 : Array Value) (hw : ∀ d ∈ tables_1, d.before a0 Z = true) (ws : List Jvm.Cond) (xx : UInt64) (h0 : Heap) (n0 : Nat) (Z0 : n0 ≤ h0.size) (hn : Jvm.Free.Fl.NoNaN64 xx) (hc : ¬ (0 : Int32) < cmpValue (FP.dcmp (xx &&& 0x7fffffffffffffff) (9218868437227405311 : UInt64)) .g) :
    OwnMet l Z (⟨"java/lang/Double", "isFinite", "(D)Z"⟩ : MethodName) jdk_117_method_8_code 2 (some .boolean) ws ({ frames := 1, cells := 0, slots := 0, locals := 13 } : Room) #[(.double xx)] h0 (Q_rmF Z xx h0 n0) := by
  refine own_body pf_1 ?_
  intro p e s m below meth c s₁ hx hby hml hown hnm hret hlk hZ X0 e0
  have N0 := Fr.nil n0
  refine own_cast (ef_4_rmF m xx ) ?_
  refine g_dload_n X0 hx 1 rfl (hb hby d4_0) rfl ?_
  refine g_absD X0 hx hZ 4 rfl hown (hw _ (List.mem_of_getElem? (i := 23) rfl)) (hw _ (List.mem_of_getElem? (i := 24) rfl)) (hw _ (List.mem_of_getElem? (i := 25) rfl)) (hw _ (List.mem_of_getElem? (i := 26) rfl)) e0 hn (by rw [hml]; rfl) (hb hby d4_1) (by decide) 0 (Nat.le_of_eq rfl) (by decide) (by decide) (by decide) ?_
  intro T1 X1 e1
  refine g_ldcD X1 hx 7 rfl hown hZ (hw _ (List.mem_of_getElem? (i := 27) rfl)) (hb hby d4_4) ?_
  refine g_dcmp X1 hx 8 rfl (cmpValue (FP.dcmp (xx &&& 0x7fffffffffffffff) (9218868437227405311 : UInt64)) .g) rfl (hb hby d4_7) ?_
  refine g_ifN X1 hx 11 rfl (hb hby d4_8) (XT.i0_gt_f hc) ?_
  refine g_iconst X1 hx 12 rfl (1 : Int32) rfl (hb hby d4_11) ?_
  refine g_goto X1 hx 16 (hb hby d4_12) (by decide) (by decide) ?_
  exact g_retZ X1 hx hret hlk rfl (hb hby d4_16) ⟨rfl, N0, e1⟩ (by decide) (by decide)
theorem d1_0 : decode prog_87_method_2_code 0 = .ok (.aload_n 0, 1) := by decide +kernel
theorem d1_1 : decode prog_87_method_2_code 1 = .ok (.invokespecial 11, 3) := by decide +kernel
theorem d1_4 : decode prog_87_method_2_code 4 = .ok (.dload_n 1, 1) := by decide +kernel
theorem d1_5 : decode prog_87_method_2_code 5 = .ok (.invokestatic 16, 3) := by decide +kernel
theorem d1_8 : decode prog_87_method_2_code 8 = .ok (.ifCond .eq 9, 3) := by decide +kernel
theorem d1_11 : decode prog_87_method_2_code 11 = .ok (.dload_n 1, 1) := by decide +kernel
theorem d1_12 : decode prog_87_method_2_code 12 = .ok (.dconst 0, 1) := by decide +kernel
theorem d1_13 : decode prog_87_method_2_code 13 = .ok (.dcmp .l, 1) := by decide +kernel
theorem d1_14 : decode prog_87_method_2_code 14 = .ok (.ifCond .ge 30, 3) := by decide +kernel
theorem d1_17 : decode prog_87_method_2_code 17 = .ok (.new 22, 3) := by decide +kernel
theorem d1_20 : decode prog_87_method_2_code 20 = .ok (.dup, 1) := by decide +kernel
theorem d1_21 : decode prog_87_method_2_code 21 = .ok (.getstatic 24, 3) := by decide +kernel
theorem d1_24 : decode prog_87_method_2_code 24 = .ok (.ldc 30, 2) := by decide +kernel
theorem d1_26 : decode prog_87_method_2_code 26 = .ok (.iconst 1, 1) := by decide +kernel
theorem d1_27 : decode prog_87_method_2_code 27 = .ok (.anewarray 32, 3) := by decide +kernel
theorem d1_30 : decode prog_87_method_2_code 30 = .ok (.dup, 1) := by decide +kernel
theorem d1_31 : decode prog_87_method_2_code 31 = .ok (.iconst 0, 1) := by decide +kernel
theorem d1_32 : decode prog_87_method_2_code 32 = .ok (.dload_n 1, 1) := by decide +kernel
theorem d1_33 : decode prog_87_method_2_code 33 = .ok (.invokestatic 34, 3) := by decide +kernel
theorem d1_36 : decode prog_87_method_2_code 36 = .ok (.aastore, 1) := by decide +kernel
theorem d1_37 : decode prog_87_method_2_code 37 = .ok (.invokestatic 38, 3) := by decide +kernel
theorem d1_40 : decode prog_87_method_2_code 40 = .ok (.invokespecial 44, 3) := by decide +kernel
theorem d1_43 : decode prog_87_method_2_code 43 = .ok (.athrow, 1) := by decide +kernel
theorem d1_44 : decode prog_87_method_2_code 44 = .ok (.dload_n 3, 1) := by decide +kernel
theorem d1_45 : decode prog_87_method_2_code 45 = .ok (.dconst 0, 1) := by decide +kernel
theorem d1_46 : decode prog_87_method_2_code 46 = .ok (.dcmp .l, 1) := by decide +kernel
theorem d1_47 : decode prog_87_method_2_code 47 = .ok (.ifCond .lt 9, 3) := by decide +kernel
theorem d1_50 : decode prog_87_method_2_code 50 = .ok (.dload_n 3, 1) := by decide +kernel
theorem d1_51 : decode prog_87_method_2_code 51 = .ok (.dconst 1, 1) := by decide +kernel
theorem d1_52 : decode prog_87_method_2_code 52 = .ok (.dcmp .g, 1) := by decide +kernel
theorem d1_53 : decode prog_87_method_2_code 53 = .ok (.ifCond .le 30, 3) := by decide +kernel
theorem d1_56 : decode prog_87_method_2_code 56 = .ok (.new 22, 3) := by decide +kernel
theorem d1_59 : decode prog_87_method_2_code 59 = .ok (.dup, 1) := by decide +kernel
theorem d1_60 : decode prog_87_method_2_code 60 = .ok (.getstatic 24, 3) := by decide +kernel
theorem d1_63 : decode prog_87_method_2_code 63 = .ok (.ldc 47, 2) := by decide +kernel
theorem d1_65 : decode prog_87_method_2_code 65 = .ok (.iconst 1, 1) := by decide +kernel
theorem d1_66 : decode prog_87_method_2_code 66 = .ok (.anewarray 32, 3) := by decide +kernel
theorem d1_69 : decode prog_87_method_2_code 69 = .ok (.dup, 1) := by decide +kernel
theorem d1_70 : decode prog_87_method_2_code 70 = .ok (.iconst 0, 1) := by decide +kernel
theorem d1_71 : decode prog_87_method_2_code 71 = .ok (.dload_n 3, 1) := by decide +kernel
theorem d1_72 : decode prog_87_method_2_code 72 = .ok (.invokestatic 34, 3) := by decide +kernel
theorem d1_75 : decode prog_87_method_2_code 75 = .ok (.aastore, 1) := by decide +kernel
theorem d1_76 : decode prog_87_method_2_code 76 = .ok (.invokestatic 38, 3) := by decide +kernel
theorem d1_79 : decode prog_87_method_2_code 79 = .ok (.invokespecial 44, 3) := by decide +kernel
theorem d1_82 : decode prog_87_method_2_code 82 = .ok (.athrow, 1) := by decide +kernel
theorem d1_83 : decode prog_87_method_2_code 83 = .ok (.aload_n 0, 1) := by decide +kernel
theorem d1_84 : decode prog_87_method_2_code 84 = .ok (.dload_n 1, 1) := by decide +kernel
theorem d1_85 : decode prog_87_method_2_code 85 = .ok (.putfield 49, 3) := by decide +kernel
theorem d1_88 : decode prog_87_method_2_code 88 = .ok (.aload_n 0, 1) := by decide +kernel
theorem d1_89 : decode prog_87_method_2_code 89 = .ok (.dload_n 3, 1) := by decide +kernel
theorem d1_90 : decode prog_87_method_2_code 90 = .ok (.putfield 53, 3) := by decide +kernel
theorem d1_93 : decode prog_87_method_2_code 93 = .ok (.return_, 1) := by decide +kernel
theorem pf_2 : plainFor (⟨"com/example/cranfield/cranfield/similarity/Bm25", "<init>", "(DD)V"⟩ : MethodName) = true := by first | exact plainFor_of_name (by first | (simp [plainName, overriddenIn]; done) | decide +kernel) | decide +kernel
theorem pd_2 : parseMethodDescriptor "(D)Z" = some ⟨[.double], some .boolean⟩ := by decide +kernel
theorem ef_1_rmI (m : MethodId) (a1 : Addr) (xk : UInt64) (xb : UInt64) (u1 : Value) (u2 : Value)  : entryFrame m #[(.ref a1), (.double xk), (.double xb)] 5 = mkF m 0 #[.val (.ref a1), .val (.double xk), .second, .val (.double xb), .second] [] := by first | (simp [entryFrame, mkF, argsToLocals, Value.category, maxLocals]; done) | rfl
def Q_rmI (Z : State) (a1 : Addr) (xk : UInt64) (xb : UInt64) (u1 : Value) (u2 : Value) (h0 : Heap) (n0 : Nat) (v : Option Value) (h : Heap) (L : List Loc) : Prop := v = none ∧ Fr n0 L ∧ Keep h0 h [a1] ∧ Exa Z h a1 "com/example/cranfield/cranfield/similarity/Bm25" ∧ Fld Z h a1 "com/example/cranfield/cranfield/similarity/Bm25" "k1" "D" (.double xk) ∧ Fld Z h a1 "com/example/cranfield/cranfield/similarity/Bm25" "b" "D" (.double xb)
set_option maxRecDepth 65536 in
set_option maxHeartbeats 40000000 in
theorem rmI (l : Launch) (Z : State) (a0 : Array Value) (hw : ∀ d ∈ tables_1, d.before a0 Z = true) (ws : List Jvm.Cond) (a1 : Addr) (xk : UInt64) (xb : UInt64) (u1 : Value) (u2 : Value) (h0 : Heap) (n0 : Nat) (Z0 : n0 ≤ h0.size) (E1 : Exa Z h0 a1 "com/example/cranfield/cranfield/similarity/Bm25") (g1 : n0 ≤ a1) (F1 : Fld Z h0 a1 "com/example/cranfield/cranfield/similarity/Bm25" "k1" "D" u1) (F2 : Fld Z h0 a1 "com/example/cranfield/cranfield/similarity/Bm25" "b" "D" u2) (hn : Jvm.Free.Fl.NoNaN64 xk) (hc : ¬ (0 : Int32) < cmpValue (FP.dcmp (xk &&& 0x7fffffffffffffff) (9218868437227405311 : UInt64)) .g) (hc2 : ¬ cmpValue (FP.dcmp xk (0 : UInt64)) .l < (0 : Int32)) (hc3 : ¬ cmpValue (FP.dcmp xb (0 : UInt64)) .l < (0 : Int32)) (hc4 : ¬ (0 : Int32) < cmpValue (FP.dcmp xb (4607182418800017408 : UInt64)) .g) :
    OwnMet l Z (⟨"com/example/cranfield/cranfield/similarity/Bm25", "<init>", "(DD)V"⟩ : MethodName) prog_87_method_2_code 5 none ws ({ frames := 2, cells := 0, slots := 0, locals := 26 } : Room) #[(.ref a1), (.double xk), (.double xb)] h0 (Q_rmI Z a1 xk xb u1 u2 h0 n0) := by
  refine own_body pf_2 ?_
  intro p e s m below meth c s₁ hx hby hml hown hnm hret hlk hZ X0 e0
  have N0 := Fr.nil n0
  refine own_cast (ef_1_rmI m a1 xk xb u1 u2 ) ?_
  refine g_aload_n X0 hx 1 rfl (hb hby d1_0) rfl rfl ?_
  refine g_callI X0 hx hZ 4 rfl (y := (⟨"com/example/cranfield/cranfield/similarity/IdfSimilarity", "<init>", "()V"⟩ : MethodName)) rfl hown (hw _ (List.mem_of_getElem? (i := 11) rfl)) (hw _ (List.mem_of_getElem? (i := 12) rfl)) (hw _ (List.mem_of_getElem? (i := 14) rfl)) (hw _ (List.mem_of_getElem? (i := 15) rfl)) (by decide) a1 [] [] (rmS l Z a0 hw [] a1 h0 n0 Z0 ) e0 (lenOf pd_0 rfl) rfl (by rw [hml]; rfl) (hb hby d1_1) (by decide) 0 (Nat.le_of_eq rfl) (by decide) (by decide) (by decide) ?_
  rintro _ T1 L1 X1 ⟨rfl, N1q, e1⟩
  have N1 := Fr.app N0 N1q
  show Goes p e below (T1.setTop (mkF m 4 #[.val (.ref a1), .val (.double xk), .second, .val (.double xb), .second] [])) _
  refine g_dload_n X1 hx 5 rfl (hb hby d1_4) rfl ?_
  refine g_callS X1 hx hZ 8 rfl (y := (⟨"java/lang/Double", "isFinite", "(D)Z"⟩ : MethodName)) hown (hw _ (List.mem_of_getElem? (i := 19) rfl)) (hw _ (List.mem_of_getElem? (i := 20) rfl)) (hw _ (List.mem_of_getElem? (i := 21) rfl)) (hw _ (List.mem_of_getElem? (i := 22) rfl)) (by decide) [.double xk] [] (rmF l Z a0 hw [] xk h0 n0 Z0 hn hc) e1 (lenOf pd_2 rfl) rfl (by rw [hml]; rfl) (hb hby d1_5) (by decide) 0 (Nat.le_of_eq rfl) (by decide) (by decide) (by decide) ?_
  rintro _ T2 L2 X2 ⟨rfl, N2q, e2⟩
  have N2 := Fr.app N1 N2q
  show Goes p e below (T2.setTop (mkF m 8 #[.val (.ref a1), .val (.double xk), .second, .val (.double xb), .second] [.int (1 : Int32)])) _
  refine g_ifN X2 hx 11 rfl (hb hby d1_8) (XT.i0_eq_f (by decide)) ?_
  refine g_dload_n X2 hx 12 rfl (hb hby d1_11) rfl ?_
  refine g_dconst0 X2 hx 13 rfl (0 : UInt64) own_dc0 (hb hby d1_12) ?_
  refine g_dcmp X2 hx 14 rfl (cmpValue (FP.dcmp xk (0 : UInt64)) .l) rfl (hb hby d1_13) ?_
  refine g_ifY X2 hx 44 (hb hby d1_14) (XT.i0_ge_t hc2) (by decide) (by decide) ?_
  refine g_dload_n X2 hx 45 rfl (hb hby d1_44) rfl ?_
  refine g_dconst0 X2 hx 46 rfl (0 : UInt64) own_dc0 (hb hby d1_45) ?_
  refine g_dcmp X2 hx 47 rfl (cmpValue (FP.dcmp xb (0 : UInt64)) .l) rfl (hb hby d1_46) ?_
  refine g_ifN X2 hx 50 rfl (hb hby d1_47) (XT.i0_lt_f hc3) ?_
  refine g_dload_n X2 hx 51 rfl (hb hby d1_50) rfl ?_
  refine g_dconst1 X2 hx 52 rfl (4607182418800017408 : UInt64) own_dc1 (hb hby d1_51) ?_
  refine g_dcmp X2 hx 53 rfl (cmpValue (FP.dcmp xb (4607182418800017408 : UInt64)) .g) rfl (hb hby d1_52) ?_
  refine g_ifY X2 hx 83 (hb hby d1_53) (XT.i0_le_t hc4) (by decide) (by decide) ?_
  refine g_aload_n X2 hx 84 rfl (hb hby d1_83) rfl rfl ?_
  refine g_dload_n X2 hx 85 rfl (hb hby d1_84) rfl ?_
  refine g_putF X2 hx hZ 88 rfl hown (hw _ (List.mem_of_getElem? (i := 28) rfl)) e2 F1 E1 (Or.inr ⟨(hw _ (List.mem_of_getElem? (i := 29) rfl)), rfl, hnm⟩) (hw _ (List.mem_of_getElem? (i := 6) rfl)) (ty := .double) (by decide) rfl rfl (hb hby d1_85) ?_
  intro T3 h3 X3 e3 W3
  have Fw3 := F1.same W3
  have N3 := Fr.snoc X3 N2 g1
  refine g_aload_n X3 hx 89 rfl (hb hby d1_88) rfl rfl ?_
  refine g_dload_n X3 hx 90 rfl (hb hby d1_89) rfl ?_
  have Fld4 := (F2.other W3 (Or.inr (slot_ne (Or.inr (hw _ (List.mem_of_getElem? (i := 31) rfl))) (Or.inr (hw _ (List.mem_of_getElem? (i := 29) rfl))) (by decide) (t := .double) (t' := .double) (by decide) (by decide))))
  have Exa5 := (E1.wr W3)
  refine g_putF X3 hx hZ 93 rfl hown (hw _ (List.mem_of_getElem? (i := 30) rfl)) e3 Fld4 Exa5 (Or.inr ⟨(hw _ (List.mem_of_getElem? (i := 31) rfl)), rfl, hnm⟩) (hw _ (List.mem_of_getElem? (i := 6) rfl)) (ty := .double) (by decide) rfl rfl (hb hby d1_90) ?_
  intro T6 h6 X6 e6 W6
  have Fw6 := Fld4.same W6
  have N6 := Fr.snoc X6 N3 g1
  have Exa7 := (Exa5.wr W6)
  have Fld8 := (Fw3.other W6 (Or.inr (slot_ne (Or.inr (hw _ (List.mem_of_getElem? (i := 29) rfl))) (Or.inr (hw _ (List.mem_of_getElem? (i := 31) rfl))) (by decide) (t := .double) (t' := .double) (by decide) (by decide))))
  exact g_ret0 X6 hx hret hlk (hb hby d1_93) (by rw [e6]; exact ⟨rfl, N6, (((Keep.refl h0 [a1]).wr W3 (Or.inl (List.mem_of_getElem? (i := 0) rfl))).wr W6 (Or.inl (List.mem_of_getElem? (i := 0) rfl))), Exa7, Fld8, Fw6⟩) (by decide) (by decide)
theorem d6_0 : decode prog_87_method_4_code 0 = .ok (.dconst 1, 1) := by decide +kernel
theorem d6_1 : decode prog_87_method_4_code 1 = .ok (.aload_n 0, 1) := by decide +kernel
theorem d6_2 : decode prog_87_method_4_code 2 = .ok (.getfield 53, 3) := by decide +kernel
theorem d6_5 : decode prog_87_method_4_code 5 = .ok (.dsub, 1) := by decide +kernel
theorem d6_6 : decode prog_87_method_4_code 6 = .ok (.aload_n 0, 1) := by decide +kernel
theorem d6_7 : decode prog_87_method_4_code 7 = .ok (.getfield 53, 3) := by decide +kernel
theorem d6_10 : decode prog_87_method_4_code 10 = .ok (.lload 5, 2) := by decide +kernel
theorem d6_12 : decode prog_87_method_4_code 12 = .ok (.l2d, 1) := by decide +kernel
theorem d6_13 : decode prog_87_method_4_code 13 = .ok (.dmul, 1) := by decide +kernel
theorem d6_14 : decode prog_87_method_4_code 14 = .ok (.dload 7, 2) := by decide +kernel
theorem d6_16 : decode prog_87_method_4_code 16 = .ok (.ddiv, 1) := by decide +kernel
theorem d6_17 : decode prog_87_method_4_code 17 = .ok (.dadd, 1) := by decide +kernel
theorem d6_18 : decode prog_87_method_4_code 18 = .ok (.dstore 9, 2) := by decide +kernel
theorem d6_20 : decode prog_87_method_4_code 20 = .ok (.dload_n 3, 1) := by decide +kernel
theorem d6_21 : decode prog_87_method_4_code 21 = .ok (.aload_n 0, 1) := by decide +kernel
theorem d6_22 : decode prog_87_method_4_code 22 = .ok (.getfield 49, 3) := by decide +kernel
theorem d6_25 : decode prog_87_method_4_code 25 = .ok (.dconst 1, 1) := by decide +kernel
theorem d6_26 : decode prog_87_method_4_code 26 = .ok (.dadd, 1) := by decide +kernel
theorem d6_27 : decode prog_87_method_4_code 27 = .ok (.dmul, 1) := by decide +kernel
theorem d6_28 : decode prog_87_method_4_code 28 = .ok (.dload_n 3, 1) := by decide +kernel
theorem d6_29 : decode prog_87_method_4_code 29 = .ok (.aload_n 0, 1) := by decide +kernel
theorem d6_30 : decode prog_87_method_4_code 30 = .ok (.getfield 49, 3) := by decide +kernel
theorem d6_33 : decode prog_87_method_4_code 33 = .ok (.dload 9, 2) := by decide +kernel
theorem d6_35 : decode prog_87_method_4_code 35 = .ok (.dmul, 1) := by decide +kernel
theorem d6_36 : decode prog_87_method_4_code 36 = .ok (.dadd, 1) := by decide +kernel
theorem d6_37 : decode prog_87_method_4_code 37 = .ok (.ddiv, 1) := by decide +kernel
theorem d6_38 : decode prog_87_method_4_code 38 = .ok (.dstore 11, 2) := by decide +kernel
theorem d6_40 : decode prog_87_method_4_code 40 = .ok (.dload_n 1, 1) := by decide +kernel
theorem d6_41 : decode prog_87_method_4_code 41 = .ok (.dload 11, 2) := by decide +kernel
theorem d6_43 : decode prog_87_method_4_code 43 = .ok (.dmul, 1) := by decide +kernel
theorem d6_44 : decode prog_87_method_4_code 44 = .ok (.dreturn, 1) := by decide +kernel
theorem pf_3 : plainFor (⟨"com/example/cranfield/cranfield/similarity/Bm25", "scoreOf", "(DDJD)D"⟩ : MethodName) = true := by first | exact plainFor_of_name (by first | (simp [plainName, overriddenIn]; done) | decide +kernel) | decide +kernel
theorem ef_6_rmO (m : MethodId) (a1 : Addr) (xk : UInt64) (xb : UInt64) (xi : UInt64) (xt : UInt64) (qd : Int64) (xa : UInt64)  : entryFrame m #[(.ref a1), (.double xi), (.double xt), (.long qd), (.double xa)] 13 = mkF m 0 #[.val (.ref a1), .val (.double xi), .second, .val (.double xt), .second, .val (.long qd), .second, .val (.double xa), .second, .unset, .unset, .unset, .unset] [] := by first | (simp [entryFrame, mkF, argsToLocals, Value.category, maxLocals]; done) | rfl
def Q_rmO (Z : State) (a1 : Addr) (xk : UInt64) (xb : UInt64) (xi : UInt64) (xt : UInt64) (qd : Int64) (xa : UInt64) (h0 : Heap) (n0 : Nat) (v : Option Value) (h : Heap) (L : List Loc) : Prop := v = some (.double (FP.dmul xi (FP.ddiv (FP.dmul xt (FP.dadd xk (4607182418800017408 : UInt64))) (FP.dadd xt (FP.dmul xk (FP.dadd (FP.dsub (4607182418800017408 : UInt64) xb) (FP.ddiv (FP.dmul xb (FP.l2d qd)) xa))))))) ∧ Fr n0 L ∧ h = h0
set_option maxRecDepth 65536 in
set_option maxHeartbeats 40000000 in
theorem rmO (l : Launch) (Z : State) (a0 : Array Value) (hw : ∀ d ∈ tables_1, d.before a0 Z = true) (ws : List Jvm.Cond) (a1 : Addr) (xk : UInt64) (xb : UInt64) (xi : UInt64) (xt : UInt64) (qd : Int64) (xa : UInt64) (h0 : Heap) (n0 : Nat) (Z0 : n0 ≤ h0.size) (F1 : Fld Z h0 a1 "com/example/cranfield/cranfield/similarity/Bm25" "k1" "D" (.double xk)) (F2 : Fld Z h0 a1 "com/example/cranfield/cranfield/similarity/Bm25" "b" "D" (.double xb)) (n1 : Jvm.Free.Fl.NoNaN64 (FP.dsub (4607182418800017408 : UInt64) xb)) (n2 : Jvm.Free.Fl.NoNaN64 (FP.dmul xb (FP.l2d qd))) (n3 : Jvm.Free.Fl.NoNaN64 (FP.ddiv (FP.dmul xb (FP.l2d qd)) xa)) (n4 : Jvm.Free.Fl.NoNaN64 (FP.dadd (FP.dsub (4607182418800017408 : UInt64) xb) (FP.ddiv (FP.dmul xb (FP.l2d qd)) xa))) (n5 : Jvm.Free.Fl.NoNaN64 (FP.dadd xk (4607182418800017408 : UInt64))) (n6 : Jvm.Free.Fl.NoNaN64 (FP.dmul xt (FP.dadd xk (4607182418800017408 : UInt64)))) (n7 : Jvm.Free.Fl.NoNaN64 (FP.dmul xk (FP.dadd (FP.dsub (4607182418800017408 : UInt64) xb) (FP.ddiv (FP.dmul xb (FP.l2d qd)) xa)))) (n8 : Jvm.Free.Fl.NoNaN64 (FP.dadd xt (FP.dmul xk (FP.dadd (FP.dsub (4607182418800017408 : UInt64) xb) (FP.ddiv (FP.dmul xb (FP.l2d qd)) xa))))) (n9 : Jvm.Free.Fl.NoNaN64 (FP.ddiv (FP.dmul xt (FP.dadd xk (4607182418800017408 : UInt64))) (FP.dadd xt (FP.dmul xk (FP.dadd (FP.dsub (4607182418800017408 : UInt64) xb) (FP.ddiv (FP.dmul xb (FP.l2d qd)) xa)))))) (n10 : Jvm.Free.Fl.NoNaN64 (FP.dmul xi (FP.ddiv (FP.dmul xt (FP.dadd xk (4607182418800017408 : UInt64))) (FP.dadd xt (FP.dmul xk (FP.dadd (FP.dsub (4607182418800017408 : UInt64) xb) (FP.ddiv (FP.dmul xb (FP.l2d qd)) xa))))))) :
    OwnMet l Z (⟨"com/example/cranfield/cranfield/similarity/Bm25", "scoreOf", "(DDJD)D"⟩ : MethodName) prog_87_method_4_code 13 (some .double) ws ({ frames := 0, cells := 0, slots := 0, locals := 0 } : Room) #[(.ref a1), (.double xi), (.double xt), (.long qd), (.double xa)] h0 (Q_rmO Z a1 xk xb xi xt qd xa h0 n0) := by
  refine own_body pf_3 ?_
  intro p e s m below meth c s₁ hx hby hml hown hnm hret hlk hZ X0 e0
  have N0 := Fr.nil n0
  refine own_cast (ef_6_rmO m a1 xk xb xi xt qd xa ) ?_
  refine g_dconst1 X0 hx 1 rfl (4607182418800017408 : UInt64) own_dc1 (hb hby d6_0) ?_
  refine g_aload_n X0 hx 2 rfl (hb hby d6_1) rfl rfl ?_
  refine g_getF X0 hx hZ 5 rfl hown (hw _ (List.mem_of_getElem? (i := 30) rfl)) e0 F2 (hb hby d6_2) ?_
  intro T1 X1 e1
  refine g_dsub X1 hx 6 rfl (hb hby d6_5) n1 ?_
  refine g_aload_n X1 hx 7 rfl (hb hby d6_6) rfl rfl ?_
  refine g_getF X1 hx hZ 10 rfl hown (hw _ (List.mem_of_getElem? (i := 30) rfl)) e1 F2 (hb hby d6_7) ?_
  intro T2 X2 e2
  refine g_lload X2 hx 12 rfl (hb hby d6_10) rfl ?_
  refine g_l2d X2 hx 13 rfl (hb hby d6_12) ?_
  refine g_dmul X2 hx 14 rfl (hb hby d6_13) n2 ?_
  refine g_dload X2 hx 16 rfl (hb hby d6_14) rfl ?_
  refine g_ddiv X2 hx 17 rfl (hb hby d6_16) n3 ?_
  refine g_dadd X2 hx 18 rfl (hb hby d6_17) n4 ?_
  refine g_dstore X2 hx 20 rfl (hb hby d6_18) #[.val (.ref a1), .val (.double xi), .second, .val (.double xt), .second, .val (.long qd), .second, .val (.double xa), .second, .val (.double (FP.dadd (FP.dsub (4607182418800017408 : UInt64) xb) (FP.ddiv (FP.dmul xb (FP.l2d qd)) xa))), .second, .unset, .unset] rfl ?_
  refine g_dload_n X2 hx 21 rfl (hb hby d6_20) rfl ?_
  refine g_aload_n X2 hx 22 rfl (hb hby d6_21) rfl rfl ?_
  refine g_getF X2 hx hZ 25 rfl hown (hw _ (List.mem_of_getElem? (i := 28) rfl)) e2 F1 (hb hby d6_22) ?_
  intro T3 X3 e3
  refine g_dconst1 X3 hx 26 rfl (4607182418800017408 : UInt64) own_dc1 (hb hby d6_25) ?_
  refine g_dadd X3 hx 27 rfl (hb hby d6_26) n5 ?_
  refine g_dmul X3 hx 28 rfl (hb hby d6_27) n6 ?_
  refine g_dload_n X3 hx 29 rfl (hb hby d6_28) rfl ?_
  refine g_aload_n X3 hx 30 rfl (hb hby d6_29) rfl rfl ?_
  refine g_getF X3 hx hZ 33 rfl hown (hw _ (List.mem_of_getElem? (i := 28) rfl)) e3 F1 (hb hby d6_30) ?_
  intro T4 X4 e4
  refine g_dload X4 hx 35 rfl (hb hby d6_33) rfl ?_
  refine g_dmul X4 hx 36 rfl (hb hby d6_35) n7 ?_
  refine g_dadd X4 hx 37 rfl (hb hby d6_36) n8 ?_
  refine g_ddiv X4 hx 38 rfl (hb hby d6_37) n9 ?_
  refine g_dstore X4 hx 40 rfl (hb hby d6_38) #[.val (.ref a1), .val (.double xi), .second, .val (.double xt), .second, .val (.long qd), .second, .val (.double xa), .second, .val (.double (FP.dadd (FP.dsub (4607182418800017408 : UInt64) xb) (FP.ddiv (FP.dmul xb (FP.l2d qd)) xa))), .second, .val (.double (FP.ddiv (FP.dmul xt (FP.dadd xk (4607182418800017408 : UInt64))) (FP.dadd xt (FP.dmul xk (FP.dadd (FP.dsub (4607182418800017408 : UInt64) xb) (FP.ddiv (FP.dmul xb (FP.l2d qd)) xa)))))), .second] rfl ?_
  refine g_dload_n X4 hx 41 rfl (hb hby d6_40) rfl ?_
  refine g_dload X4 hx 43 rfl (hb hby d6_41) rfl ?_
  refine g_dmul X4 hx 44 rfl (hb hby d6_43) n10 ?_
  exact g_retD X4 hx hret hlk (hb hby d6_44) ⟨rfl, N0, e4⟩ (by decide) (by decide)
theorem pf_4 : plainFor (⟨"com/example/cranfield/cranfield/similarity/Bm25ScoreOfPinLaw", "law", "(IIJIII)Z"⟩ : MethodName) = true := by first | exact plainFor_of_name (by first | (simp [plainName, overriddenIn]; done) | decide +kernel) | decide +kernel
theorem pd_3 : parseMethodDescriptor "(DD)V" = some ⟨[.double, .double], none⟩ := by decide +kernel
theorem pd_4 : parseMethodDescriptor "(DDJD)D" = some ⟨[.double, .double, .long, .double], some .double⟩ := by decide +kernel
theorem ef_0_rm0 (m : MethodId) (p1 : Int32) (p2 : Int32) (q3 : Int64) (p4 : Int32) (p5 : Int32) (p6 : Int32)  : entryFrame m #[(.int p1), (.int p2), (.long q3), (.int p4), (.int p5), (.int p6)] maxLocals = mkF m 0 #[.val (.int p1), .val (.int p2), .val (.long q3), .second, .val (.int p4), .val (.int p5), .val (.int p6), .unset, .unset, .unset, .unset, .unset, .unset, .unset, .unset, .unset, .unset, .unset, .unset, .unset, .unset, .unset, .unset, .unset, .unset, .unset, .unset, .unset, .unset, .unset, .unset, .unset, .unset, .unset, .unset, .unset, .unset, .unset, .unset, .unset, .unset] [] := by first | (simp [entryFrame, mkF, argsToLocals, Value.category, maxLocals]; done) | rfl
def Q_rm0 (Z : State) (p1 : Int32) (p2 : Int32) (q3 : Int64) (p4 : Int32) (p5 : Int32) (p6 : Int32) (h0 : Heap) (n0 : Nat) (v : Option Value) (h : Heap) (L : List Loc) : Prop := v = some (.int 1) ∧ Fr n0 L
set_option maxRecDepth 65536 in
set_option maxHeartbeats 40000000 in
theorem rm0 (l : Launch) (Z : State) (a0 : Array Value) (hw : ∀ d ∈ tables_1, d.before a0 Z = true) (ws : List Jvm.Cond) (p1 : Int32) (p2 : Int32) (q3 : Int64) (p4 : Int32) (p5 : Int32) (p6 : Int32) (h0 : Heap) (n0 : Nat) (Z0 : n0 ≤ h0.size)  :
    OwnMet l Z x code maxLocals ret ws room_1 #[(.int p1), (.int p2), (.long q3), (.int p4), (.int p5), (.int p6)] h0 (Q_rm0 Z p1 p2 q3 p4 p5 p6 h0 n0) := by
  refine own_body pf_4 ?_
  intro p e s m below meth c s₁ hx hby hml hown hnm hret hlk hZ X0 e0
  have N0 := Fr.nil n0
  refine own_cast (ef_0_rm0 m p1 p2 q3 p4 p5 p6 ) ?_
  refine g_iload X0 hx 2 rfl (hb hby at_0) rfl ?_
  refine g_bipush X0 hx 4 rfl (15 : Int32) rfl (hb hby at_2) ?_
  refine g_iand X0 hx 5 rfl (hb hby at_4) ?_
  obtain ⟨kn, e_kn, l_kn⟩ := own_m15 p4
  rw [e_kn]
  refine g_i2l X0 hx 6 rfl (hb hby at_5) ?_
  rw [own_i2l kn (by omega)]
  refine g_lstore X0 hx 8 rfl (hb hby at_6) #[.val (.int p1), .val (.int p2), .val (.long q3), .second, .val (.int p4), .val (.int p5), .val (.int p6), .val (.long (Int64.ofNat kn)), .second, .unset, .unset, .unset, .unset, .unset, .unset, .unset, .unset, .unset, .unset, .unset, .unset, .unset, .unset, .unset, .unset, .unset, .unset, .unset, .unset, .unset, .unset, .unset, .unset, .unset, .unset, .unset, .unset, .unset, .unset, .unset, .unset] rfl ?_
  refine g_iload X0 hx 10 rfl (hb hby at_8) rfl ?_
  refine g_ldcI X0 hx 12 rfl hown hZ (hw _ (List.mem_of_getElem? (i := 0) rfl)) (hb hby at_10) ?_
  refine g_iand X0 hx 13 rfl (hb hby at_12) ?_
  refine g_iconst X0 hx 14 rfl (5 : Int32) rfl (hb hby at_13) ?_
  refine g_irem X0 hx 15 rfl (hb hby at_14) (by decide) ?_
  obtain ⟨bn, e_bn, l_bn⟩ := own_rem5 p5
  rw [e_bn]
  refine g_i2l X0 hx 16 rfl (hb hby at_15) ?_
  rw [own_i2l bn (by omega)]
  refine g_lstore X0 hx 18 rfl (hb hby at_16) #[.val (.int p1), .val (.int p2), .val (.long q3), .second, .val (.int p4), .val (.int p5), .val (.int p6), .val (.long (Int64.ofNat kn)), .second, .val (.long (Int64.ofNat bn)), .second, .unset, .unset, .unset, .unset, .unset, .unset, .unset, .unset, .unset, .unset, .unset, .unset, .unset, .unset, .unset, .unset, .unset, .unset, .unset, .unset, .unset, .unset, .unset, .unset, .unset, .unset, .unset, .unset, .unset, .unset] rfl ?_
  refine g_iload X0 hx 20 rfl (hb hby at_18) rfl ?_
  refine g_bipush X0 hx 22 rfl (15 : Int32) rfl (hb hby at_20) ?_
  refine g_iand X0 hx 23 rfl (hb hby at_22) ?_
  obtain ⟨en, e_en, l_en⟩ := own_m15 p6
  rw [e_en]
  refine g_istore X0 hx 25 rfl (hb hby at_23) #[.val (.int p1), .val (.int p2), .val (.long q3), .second, .val (.int p4), .val (.int p5), .val (.int p6), .val (.long (Int64.ofNat kn)), .second, .val (.long (Int64.ofNat bn)), .second, .val (.int (Int32.ofNat en)), .unset, .unset, .unset, .unset, .unset, .unset, .unset, .unset, .unset, .unset, .unset, .unset, .unset, .unset, .unset, .unset, .unset, .unset, .unset, .unset, .unset, .unset, .unset, .unset, .unset, .unset, .unset, .unset, .unset] rfl ?_
  refine g_iload_n X0 hx 26 rfl (hb hby at_25) rfl ?_
  refine g_ldcI X0 hx 28 rfl hown hZ (hw _ (List.mem_of_getElem? (i := 1) rfl)) (hb hby at_26) ?_
  refine g_iand X0 hx 29 rfl (hb hby at_28) ?_
  obtain ⟨f0, e_f0, l_f0⟩ := own_m20 p2
  rw [e_f0]
  refine g_i2l X0 hx 30 rfl (hb hby at_29) ?_
  rw [own_i2l f0 (by omega)]
  refine g_lconst X0 hx 31 rfl (1 : Int64) rfl (hb hby at_30) ?_
  refine g_ladd X0 hx 32 rfl (hb hby at_31) ?_
  obtain ⟨fn, e_fn, l_fn, z_fn⟩ : ∃ k : Nat, Int64.ofNat f0 + (1 : Int64) = Int64.ofNat k ∧ k ≤ 1048576 ∧ 0 < k := ⟨_, own_addN f0 1 (by omega), by omega, by omega⟩
  rw [e_fn]
  refine g_lstore X0 hx 34 rfl (hb hby at_32) #[.val (.int p1), .val (.int p2), .val (.long q3), .second, .val (.int p4), .val (.int p5), .val (.int p6), .val (.long (Int64.ofNat kn)), .second, .val (.long (Int64.ofNat bn)), .second, .val (.int (Int32.ofNat en)), .val (.long (Int64.ofNat fn)), .second, .unset, .unset, .unset, .unset, .unset, .unset, .unset, .unset, .unset, .unset, .unset, .unset, .unset, .unset, .unset, .unset, .unset, .unset, .unset, .unset, .unset, .unset, .unset, .unset, .unset, .unset, .unset] rfl ?_
  refine g_lload_n X0 hx 35 rfl (hb hby at_34) rfl ?_
  refine g_ldcJ X0 hx 38 rfl hown hZ (hw _ (List.mem_of_getElem? (i := 2) rfl)) (hb hby at_35) ?_
  refine g_land X0 hx 39 rfl (hb hby at_38) ?_
  obtain ⟨d0, e_d0, l_d0⟩ := own_m40 q3
  rw [e_d0]
  refine g_lconst X0 hx 40 rfl (1 : Int64) rfl (hb hby at_39) ?_
  refine g_ladd X0 hx 41 rfl (hb hby at_40) ?_
  obtain ⟨dn, e_dn, l_dn, z_dn⟩ : ∃ k : Nat, Int64.ofNat d0 + (1 : Int64) = Int64.ofNat k ∧ k ≤ 1099511627776 ∧ 0 < k := ⟨_, own_addN d0 1 (by omega), by omega, by omega⟩
  rw [e_dn]
  refine g_lstore X0 hx 43 rfl (hb hby at_41) #[.val (.int p1), .val (.int p2), .val (.long q3), .second, .val (.int p4), .val (.int p5), .val (.int p6), .val (.long (Int64.ofNat kn)), .second, .val (.long (Int64.ofNat bn)), .second, .val (.int (Int32.ofNat en)), .val (.long (Int64.ofNat fn)), .second, .val (.long (Int64.ofNat dn)), .second, .unset, .unset, .unset, .unset, .unset, .unset, .unset, .unset, .unset, .unset, .unset, .unset, .unset, .unset, .unset, .unset, .unset, .unset, .unset, .unset, .unset, .unset, .unset, .unset, .unset] rfl ?_
  refine g_iload_n X0 hx 44 rfl (hb hby at_43) rfl ?_
  refine g_i2l X0 hx 45 rfl (hb hby at_44) ?_
  refine g_ldcJ X0 hx 48 rfl hown hZ (hw _ (List.mem_of_getElem? (i := 3) rfl)) (hb hby at_45) ?_
  refine g_land X0 hx 49 rfl (hb hby at_48) ?_
  obtain ⟨j0, e_j0, l_j0⟩ := own_m31 p1.toInt64
  rw [e_j0]
  refine g_lconst X0 hx 50 rfl (1 : Int64) rfl (hb hby at_49) ?_
  refine g_ladd X0 hx 51 rfl (hb hby at_50) ?_
  obtain ⟨jn, e_jn, l_jn, z_jn⟩ : ∃ k : Nat, Int64.ofNat j0 + (1 : Int64) = Int64.ofNat k ∧ k ≤ 2147483648 ∧ 0 < k := ⟨_, own_addN j0 1 (by omega), by omega, by omega⟩
  rw [e_jn]
  have vj := own_vl2d jn (by omega)
  have vk := own_quart kn (by omega) (own_vl2d kn (by omega))
  have vb := own_quart bn (by omega) (own_vl2d bn (by omega))
  have vt := own_quart fn (by omega) (own_vl2d fn (by omega))
  have ck := own_kall ⟨kn, l_kn⟩
  have cb := own_ball ⟨bn, l_bn⟩
  simp only at ck cb
  refine g_lstore X0 hx 53 rfl (hb hby at_51) #[.val (.int p1), .val (.int p2), .val (.long q3), .second, .val (.int p4), .val (.int p5), .val (.int p6), .val (.long (Int64.ofNat kn)), .second, .val (.long (Int64.ofNat bn)), .second, .val (.int (Int32.ofNat en)), .val (.long (Int64.ofNat fn)), .second, .val (.long (Int64.ofNat dn)), .second, .val (.long (Int64.ofNat jn)), .second, .unset, .unset, .unset, .unset, .unset, .unset, .unset, .unset, .unset, .unset, .unset, .unset, .unset, .unset, .unset, .unset, .unset, .unset, .unset, .unset, .unset, .unset, .unset] rfl ?_
  refine g_lload X0 hx 55 rfl (hb hby at_53) rfl ?_
  refine g_l2d X0 hx 56 rfl (hb hby at_55) ?_
  refine g_dstore X0 hx 58 rfl (hb hby at_56) #[.val (.int p1), .val (.int p2), .val (.long q3), .second, .val (.int p4), .val (.int p5), .val (.int p6), .val (.long (Int64.ofNat kn)), .second, .val (.long (Int64.ofNat bn)), .second, .val (.int (Int32.ofNat en)), .val (.long (Int64.ofNat fn)), .second, .val (.long (Int64.ofNat dn)), .second, .val (.long (Int64.ofNat jn)), .second, .val (.double (FP.l2d (Int64.ofNat jn))), .second, .unset, .unset, .unset, .unset, .unset, .unset, .unset, .unset, .unset, .unset, .unset, .unset, .unset, .unset, .unset, .unset, .unset, .unset, .unset, .unset, .unset] rfl ?_
  refine g_lload X0 hx 60 rfl (hb hby at_58) rfl ?_
  refine g_l2d X0 hx 61 rfl (hb hby at_60) ?_
  refine g_ldcD X0 hx 64 rfl hown hZ (hw _ (List.mem_of_getElem? (i := 4) rfl)) (hb hby at_61) ?_
  refine g_ddiv X0 hx 65 rfl (hb hby at_64) (own_vnn vk) ?_
  generalize hg_xk : FP.ddiv (FP.l2d (Int64.ofNat kn)) (4616189618054758400 : UInt64) = xk at vk ck ⊢
  refine g_dstore X0 hx 67 rfl (hb hby at_65) #[.val (.int p1), .val (.int p2), .val (.long q3), .second, .val (.int p4), .val (.int p5), .val (.int p6), .val (.long (Int64.ofNat kn)), .second, .val (.long (Int64.ofNat bn)), .second, .val (.int (Int32.ofNat en)), .val (.long (Int64.ofNat fn)), .second, .val (.long (Int64.ofNat dn)), .second, .val (.long (Int64.ofNat jn)), .second, .val (.double (FP.l2d (Int64.ofNat jn))), .second, .val (.double xk), .second, .unset, .unset, .unset, .unset, .unset, .unset, .unset, .unset, .unset, .unset, .unset, .unset, .unset, .unset, .unset, .unset, .unset, .unset, .unset] rfl ?_
  refine g_lload X0 hx 69 rfl (hb hby at_67) rfl ?_
  refine g_l2d X0 hx 70 rfl (hb hby at_69) ?_
  refine g_ldcD X0 hx 73 rfl hown hZ (hw _ (List.mem_of_getElem? (i := 4) rfl)) (hb hby at_70) ?_
  refine g_ddiv X0 hx 74 rfl (hb hby at_73) (own_vnn vb) ?_
  generalize hg_xb : FP.ddiv (FP.l2d (Int64.ofNat bn)) (4616189618054758400 : UInt64) = xb at vb cb ⊢
  refine g_dstore X0 hx 76 rfl (hb hby at_74) #[.val (.int p1), .val (.int p2), .val (.long q3), .second, .val (.int p4), .val (.int p5), .val (.int p6), .val (.long (Int64.ofNat kn)), .second, .val (.long (Int64.ofNat bn)), .second, .val (.int (Int32.ofNat en)), .val (.long (Int64.ofNat fn)), .second, .val (.long (Int64.ofNat dn)), .second, .val (.long (Int64.ofNat jn)), .second, .val (.double (FP.l2d (Int64.ofNat jn))), .second, .val (.double xk), .second, .val (.double xb), .second, .unset, .unset, .unset, .unset, .unset, .unset, .unset, .unset, .unset, .unset, .unset, .unset, .unset, .unset, .unset, .unset, .unset] rfl ?_
  refine g_lload X0 hx 78 rfl (hb hby at_76) rfl ?_
  refine g_l2d X0 hx 79 rfl (hb hby at_78) ?_
  refine g_ldcD X0 hx 82 rfl hown hZ (hw _ (List.mem_of_getElem? (i := 4) rfl)) (hb hby at_79) ?_
  refine g_ddiv X0 hx 83 rfl (hb hby at_82) (own_vnn vt) ?_
  generalize hg_xt : FP.ddiv (FP.l2d (Int64.ofNat fn)) (4616189618054758400 : UInt64) = xt at vt  ⊢
  refine g_dstore X0 hx 85 rfl (hb hby at_83) #[.val (.int p1), .val (.int p2), .val (.long q3), .second, .val (.int p4), .val (.int p5), .val (.int p6), .val (.long (Int64.ofNat kn)), .second, .val (.long (Int64.ofNat bn)), .second, .val (.int (Int32.ofNat en)), .val (.long (Int64.ofNat fn)), .second, .val (.long (Int64.ofNat dn)), .second, .val (.long (Int64.ofNat jn)), .second, .val (.double (FP.l2d (Int64.ofNat jn))), .second, .val (.double xk), .second, .val (.double xb), .second, .val (.double xt), .second, .unset, .unset, .unset, .unset, .unset, .unset, .unset, .unset, .unset, .unset, .unset, .unset, .unset, .unset, .unset] rfl ?_
  refine g_lconst X0 hx 86 rfl (1 : Int64) rfl (hb hby at_85) ?_
  refine g_iload X0 hx 88 rfl (hb hby at_86) rfl ?_
  refine g_lshl X0 hx 89 rfl (hb hby at_88) ?_
  rw [own_p2 ⟨en, l_en⟩]
  have hP : 2 ^ en ≤ 32768 := Nat.pow_le_pow_right (n := 2) (by decide) (show en ≤ 15 by omega)
  have va := own_vl2d (2 ^ en) (by omega)
  refine g_lstore X0 hx 91 rfl (hb hby at_89) #[.val (.int p1), .val (.int p2), .val (.long q3), .second, .val (.int p4), .val (.int p5), .val (.int p6), .val (.long (Int64.ofNat kn)), .second, .val (.long (Int64.ofNat bn)), .second, .val (.int (Int32.ofNat en)), .val (.long (Int64.ofNat fn)), .second, .val (.long (Int64.ofNat dn)), .second, .val (.long (Int64.ofNat jn)), .second, .val (.double (FP.l2d (Int64.ofNat jn))), .second, .val (.double xk), .second, .val (.double xb), .second, .val (.double xt), .second, .val (.long (Int64.ofNat (2 ^ en))), .second, .unset, .unset, .unset, .unset, .unset, .unset, .unset, .unset, .unset, .unset, .unset, .unset, .unset] rfl ?_
  refine g_lload X0 hx 93 rfl (hb hby at_91) rfl ?_
  refine g_l2d X0 hx 94 rfl (hb hby at_93) ?_
  refine g_dstore X0 hx 96 rfl (hb hby at_94) #[.val (.int p1), .val (.int p2), .val (.long q3), .second, .val (.int p4), .val (.int p5), .val (.int p6), .val (.long (Int64.ofNat kn)), .second, .val (.long (Int64.ofNat bn)), .second, .val (.int (Int32.ofNat en)), .val (.long (Int64.ofNat fn)), .second, .val (.long (Int64.ofNat dn)), .second, .val (.long (Int64.ofNat jn)), .second, .val (.double (FP.l2d (Int64.ofNat jn))), .second, .val (.double xk), .second, .val (.double xb), .second, .val (.double xt), .second, .val (.long (Int64.ofNat (2 ^ en))), .second, .val (.double (FP.l2d (Int64.ofNat (2 ^ en)))), .second, .unset, .unset, .unset, .unset, .unset, .unset, .unset, .unset, .unset, .unset, .unset] rfl ?_
  refine g_new X0 hx hZ 99 rfl hown (hw _ (List.mem_of_getElem? (i := 5) rfl)) (hw _ (List.mem_of_getElem? (i := 6) rfl)) (hw _ (List.mem_of_getElem? (i := 7) rfl)) e0 (hb hby at_96) (by decide) (by decide) ?_
  intro T1 h1 o1 g1 X1 e1 E1 A1 D1
  have ge_o1 : n0 ≤ o1 := Nat.le_trans Z0 (Nat.le_of_eq g1.symm)
  refine g_dup X1 hx 100 rfl (hb hby at_99) rfl ?_
  refine g_dload X1 hx 102 rfl (hb hby at_100) rfl ?_
  refine g_dload X1 hx 104 rfl (hb hby at_102) rfl ?_
  have Zl3 : n0 ≤ h1.size := (Nat.le_trans Z0 E1.1)
  refine g_callI X1 hx hZ 107 rfl (y := (⟨"com/example/cranfield/cranfield/similarity/Bm25", "<init>", "(DD)V"⟩ : MethodName)) rfl hown (hw _ (List.mem_of_getElem? (i := 8) rfl)) (hw _ (List.mem_of_getElem? (i := 9) rfl)) (hw _ (List.mem_of_getElem? (i := 7) rfl)) (hw _ (List.mem_of_getElem? (i := 10) rfl)) (by decide) o1 [.double xk, .double xb] [.ref o1] (rmI l Z a0 hw [] o1 xk xb _ _ h1 n0 Zl3 A1 ge_o1 (D1 (Or.inr (hw _ (List.mem_of_getElem? (i := 29) rfl))) (ty := .double) (by decide)) (D1 (Or.inr (hw _ (List.mem_of_getElem? (i := 31) rfl))) (ty := .double) (by decide)) (own_vnn vk) ck.1 ck.2 cb.1 cb.2) e1 (lenOf pd_3 rfl) rfl (by rw [hml]; rfl) (hb hby at_104) (by decide) 1 (Nat.le_of_eq rfl) (by decide) (by decide) (by decide) ?_
  rintro _ T2 L2 X2 ⟨rfl, N2q, K2, E2, F2, G2⟩
  have N2 := Fr.app N0 N2q
  show Goes p e below (T2.setTop (mkF m 107 #[.val (.int p1), .val (.int p2), .val (.long q3), .second, .val (.int p4), .val (.int p5), .val (.int p6), .val (.long (Int64.ofNat kn)), .second, .val (.long (Int64.ofNat bn)), .second, .val (.int (Int32.ofNat en)), .val (.long (Int64.ofNat fn)), .second, .val (.long (Int64.ofNat dn)), .second, .val (.long (Int64.ofNat jn)), .second, .val (.double (FP.l2d (Int64.ofNat jn))), .second, .val (.double xk), .second, .val (.double xb), .second, .val (.double xt), .second, .val (.long (Int64.ofNat (2 ^ en))), .second, .val (.double (FP.l2d (Int64.ofNat (2 ^ en)))), .second, .unset, .unset, .unset, .unset, .unset, .unset, .unset, .unset, .unset, .unset, .unset] [.ref o1])) _
  refine g_astore X2 hx 109 rfl (hb hby at_107) rfl #[.val (.int p1), .val (.int p2), .val (.long q3), .second, .val (.int p4), .val (.int p5), .val (.int p6), .val (.long (Int64.ofNat kn)), .second, .val (.long (Int64.ofNat bn)), .second, .val (.int (Int32.ofNat en)), .val (.long (Int64.ofNat fn)), .second, .val (.long (Int64.ofNat dn)), .second, .val (.long (Int64.ofNat jn)), .second, .val (.double (FP.l2d (Int64.ofNat jn))), .second, .val (.double xk), .second, .val (.double xb), .second, .val (.double xt), .second, .val (.long (Int64.ofNat (2 ^ en))), .second, .val (.double (FP.l2d (Int64.ofNat (2 ^ en)))), .second, .val (.ref o1), .unset, .unset, .unset, .unset, .unset, .unset, .unset, .unset, .unset, .unset] rfl ?_
  refine g_aload X2 hx 111 rfl (hb hby at_109) rfl rfl ?_
  refine g_dload X2 hx 113 rfl (hb hby at_111) rfl ?_
  refine g_dload X2 hx 115 rfl (hb hby at_113) rfl ?_
  refine g_lload X2 hx 117 rfl (hb hby at_115) rfl ?_
  refine g_dload X2 hx 119 rfl (hb hby at_117) rfl ?_
  obtain ⟨n1, n2, n3, n4, n5, n6, n7, n8, n9, n10, nq, heq⟩ := own_score kn bn en fn dn jn l_kn l_bn l_en z_fn l_fn l_dn z_jn l_jn xk xb xt (FP.l2d (Int64.ofNat jn)) (FP.l2d (Int64.ofNat (2 ^ en))) vk vb vt vj va (Int64.ofNat dn) (Int64.ofNat (fn * (kn + 4) * 2 ^ en)) (Int64.ofNat (fn * 4 * 2 ^ en + kn * ((4 - bn) * 2 ^ en + bn * dn))) rfl rfl rfl
  have Zl5 : n0 ≤ T2.heap.size := (Nat.le_trans Zl3 K2.1)
  refine g_callV X2 hx hZ 122 rfl (y := (⟨"com/example/cranfield/cranfield/similarity/Bm25", "scoreOf", "(DDJD)D"⟩ : MethodName)) hown (hw _ (List.mem_of_getElem? (i := 32) rfl)) (hw _ (List.mem_of_getElem? (i := 33) rfl)) (hw _ (List.mem_of_getElem? (i := 35) rfl)) (hw _ (List.mem_of_getElem? (i := 34) rfl)) (hw _ (List.mem_of_getElem? (i := 7) rfl)) (hw _ (List.mem_of_getElem? (i := 36) rfl)) (by decide) o1 [.double (FP.l2d (Int64.ofNat jn)), .double xt, .long (Int64.ofNat dn), .double (FP.l2d (Int64.ofNat (2 ^ en)))] [] (rmO l Z a0 hw [] o1 xk xb (FP.l2d (Int64.ofNat jn)) xt (Int64.ofNat dn) (FP.l2d (Int64.ofNat (2 ^ en))) T2.heap n0 Zl5 F2 G2 n1 n2 n3 n4 n5 n6 n7 n8 n9 n10) rfl E2 (lenOf pd_4 rfl) rfl (by rw [hml]; rfl) (hb hby at_119) (by decide) 0 (Nat.le_of_eq rfl) (by decide) (by decide) (by decide) ?_
  rintro _ T4 L4 X4 ⟨rfl, N4q, e4⟩
  have N4 := Fr.app N2 N4q
  show Goes p e below (T4.setTop (mkF m 122 #[.val (.int p1), .val (.int p2), .val (.long q3), .second, .val (.int p4), .val (.int p5), .val (.int p6), .val (.long (Int64.ofNat kn)), .second, .val (.long (Int64.ofNat bn)), .second, .val (.int (Int32.ofNat en)), .val (.long (Int64.ofNat fn)), .second, .val (.long (Int64.ofNat dn)), .second, .val (.long (Int64.ofNat jn)), .second, .val (.double (FP.l2d (Int64.ofNat jn))), .second, .val (.double xk), .second, .val (.double xb), .second, .val (.double xt), .second, .val (.long (Int64.ofNat (2 ^ en))), .second, .val (.double (FP.l2d (Int64.ofNat (2 ^ en)))), .second, .val (.ref o1), .unset, .unset, .unset, .unset, .unset, .unset, .unset, .unset, .unset, .unset] [.double (FP.dmul (FP.l2d (Int64.ofNat jn)) (FP.ddiv (FP.dmul xt (FP.dadd xk (4607182418800017408 : UInt64))) (FP.dadd xt (FP.dmul xk (FP.dadd (FP.dsub (4607182418800017408 : UInt64) xb) (FP.ddiv (FP.dmul xb (FP.l2d (Int64.ofNat dn))) (FP.l2d (Int64.ofNat (2 ^ en)))))))))])) _
  have m1 : bn * dn ≤ 4 * 1099511627776 := Nat.mul_le_mul (by omega) l_dn
  have m2 : (4 - bn) * 2 ^ en ≤ 4 * 32768 := Nat.mul_le_mul (by omega) hP
  have m3 : fn * (kn + 4) ≤ 1048576 * 19 := Nat.mul_le_mul l_fn (by omega)
  have hLN2 : (4 - bn) * 2 ^ en + bn * dn ≤ 4398046642176 := by omega
  have m4 : kn * ((4 - bn) * 2 ^ en + bn * dn) ≤ 15 * 4398046642176 := Nat.mul_le_mul (by omega) hLN2
  have m5 : fn * 4 * 2 ^ en ≤ 1048576 * 4 * 32768 := Nat.mul_le_mul (by omega) hP
  have f4 : (4 : Int64) = Int64.ofNat 4 := rfl
  refine g_dstore X4 hx 124 rfl (hb hby at_122) #[.val (.int p1), .val (.int p2), .val (.long q3), .second, .val (.int p4), .val (.int p5), .val (.int p6), .val (.long (Int64.ofNat kn)), .second, .val (.long (Int64.ofNat bn)), .second, .val (.int (Int32.ofNat en)), .val (.long (Int64.ofNat fn)), .second, .val (.long (Int64.ofNat dn)), .second, .val (.long (Int64.ofNat jn)), .second, .val (.double (FP.l2d (Int64.ofNat jn))), .second, .val (.double xk), .second, .val (.double xb), .second, .val (.double xt), .second, .val (.long (Int64.ofNat (2 ^ en))), .second, .val (.double (FP.l2d (Int64.ofNat (2 ^ en)))), .second, .val (.ref o1), .val (.double (FP.dmul (FP.l2d (Int64.ofNat jn)) (FP.ddiv (FP.dmul xt (FP.dadd xk (4607182418800017408 : UInt64))) (FP.dadd xt (FP.dmul xk (FP.dadd (FP.dsub (4607182418800017408 : UInt64) xb) (FP.ddiv (FP.dmul xb (FP.l2d (Int64.ofNat dn))) (FP.l2d (Int64.ofNat (2 ^ en)))))))))), .second, .unset, .unset, .unset, .unset, .unset, .unset, .unset, .unset] rfl ?_
  refine g_ldcJ X4 hx 127 rfl hown hZ (hw _ (List.mem_of_getElem? (i := 37) rfl)) (hb hby at_124) ?_
  refine g_lload X4 hx 129 rfl (hb hby at_127) rfl ?_
  refine g_lsub X4 hx 130 rfl (hb hby at_129) ?_
  refine g_lload X4 hx 132 rfl (hb hby at_130) rfl ?_
  refine g_lmul X4 hx 133 rfl (hb hby at_132) ?_
  refine g_lload X4 hx 135 rfl (hb hby at_133) rfl ?_
  refine g_lload X4 hx 137 rfl (hb hby at_135) rfl ?_
  refine g_lmul X4 hx 138 rfl (hb hby at_137) ?_
  refine g_ladd X4 hx 139 rfl (hb hby at_138) ?_
  have eln : (((4 : Int64) - (Int64.ofNat bn)) * (Int64.ofNat (2 ^ en))) + ((Int64.ofNat bn) * (Int64.ofNat dn)) = Int64.ofNat ((4 - bn) * 2 ^ en + bn * dn) := by
    rw [f4, own_subN 4 bn (by decide) (by omega), own_mulN (4 - bn) (2 ^ en) 4 32768 (by omega) hP (by decide) (by decide) (by decide), own_mulN bn dn 4 1099511627776 (by omega) l_dn (by decide) (by decide) (by decide), own_addN _ _ (by omega)]
  rw [eln]
  refine g_lstore X4 hx 141 rfl (hb hby at_139) #[.val (.int p1), .val (.int p2), .val (.long q3), .second, .val (.int p4), .val (.int p5), .val (.int p6), .val (.long (Int64.ofNat kn)), .second, .val (.long (Int64.ofNat bn)), .second, .val (.int (Int32.ofNat en)), .val (.long (Int64.ofNat fn)), .second, .val (.long (Int64.ofNat dn)), .second, .val (.long (Int64.ofNat jn)), .second, .val (.double (FP.l2d (Int64.ofNat jn))), .second, .val (.double xk), .second, .val (.double xb), .second, .val (.double xt), .second, .val (.long (Int64.ofNat (2 ^ en))), .second, .val (.double (FP.l2d (Int64.ofNat (2 ^ en)))), .second, .val (.ref o1), .val (.double (FP.dmul (FP.l2d (Int64.ofNat jn)) (FP.ddiv (FP.dmul xt (FP.dadd xk (4607182418800017408 : UInt64))) (FP.dadd xt (FP.dmul xk (FP.dadd (FP.dsub (4607182418800017408 : UInt64) xb) (FP.ddiv (FP.dmul xb (FP.l2d (Int64.ofNat dn))) (FP.l2d (Int64.ofNat (2 ^ en)))))))))), .second, .val (.long (Int64.ofNat ((4 - bn) * 2 ^ en + bn * dn))), .second, .unset, .unset, .unset, .unset, .unset, .unset] rfl ?_
  refine g_lload X4 hx 143 rfl (hb hby at_141) rfl ?_
  refine g_lload X4 hx 145 rfl (hb hby at_143) rfl ?_
  refine g_ldcJ X4 hx 148 rfl hown hZ (hw _ (List.mem_of_getElem? (i := 37) rfl)) (hb hby at_145) ?_
  refine g_ladd X4 hx 149 rfl (hb hby at_148) ?_
  refine g_lmul X4 hx 150 rfl (hb hby at_149) ?_
  refine g_lload X4 hx 152 rfl (hb hby at_150) rfl ?_
  refine g_lmul X4 hx 153 rfl (hb hby at_152) ?_
  have enu : ((Int64.ofNat fn) * ((Int64.ofNat kn) + (4 : Int64))) * (Int64.ofNat (2 ^ en)) = Int64.ofNat (fn * (kn + 4) * 2 ^ en) := by
    rw [f4, own_addN kn 4 (by omega), own_mulN fn (kn + 4) 1048576 19 l_fn (by omega) (by decide) (by decide) (by decide), own_mulN _ (2 ^ en) (1048576 * 19) 32768 m3 hP (by decide) (by decide) (by decide)]
  rw [enu]
  refine g_lstore X4 hx 155 rfl (hb hby at_153) #[.val (.int p1), .val (.int p2), .val (.long q3), .second, .val (.int p4), .val (.int p5), .val (.int p6), .val (.long (Int64.ofNat kn)), .second, .val (.long (Int64.ofNat bn)), .second, .val (.int (Int32.ofNat en)), .val (.long (Int64.ofNat fn)), .second, .val (.long (Int64.ofNat dn)), .second, .val (.long (Int64.ofNat jn)), .second, .val (.double (FP.l2d (Int64.ofNat jn))), .second, .val (.double xk), .second, .val (.double xb), .second, .val (.double xt), .second, .val (.long (Int64.ofNat (2 ^ en))), .second, .val (.double (FP.l2d (Int64.ofNat (2 ^ en)))), .second, .val (.ref o1), .val (.double (FP.dmul (FP.l2d (Int64.ofNat jn)) (FP.ddiv (FP.dmul xt (FP.dadd xk (4607182418800017408 : UInt64))) (FP.dadd xt (FP.dmul xk (FP.dadd (FP.dsub (4607182418800017408 : UInt64) xb) (FP.ddiv (FP.dmul xb (FP.l2d (Int64.ofNat dn))) (FP.l2d (Int64.ofNat (2 ^ en)))))))))), .second, .val (.long (Int64.ofNat ((4 - bn) * 2 ^ en + bn * dn))), .second, .val (.long (Int64.ofNat (fn * (kn + 4) * 2 ^ en))), .second, .unset, .unset, .unset, .unset] rfl ?_
  refine g_lload X4 hx 157 rfl (hb hby at_155) rfl ?_
  refine g_ldcJ X4 hx 160 rfl hown hZ (hw _ (List.mem_of_getElem? (i := 37) rfl)) (hb hby at_157) ?_
  refine g_lmul X4 hx 161 rfl (hb hby at_160) ?_
  refine g_lload X4 hx 163 rfl (hb hby at_161) rfl ?_
  refine g_lmul X4 hx 164 rfl (hb hby at_163) ?_
  refine g_lload X4 hx 166 rfl (hb hby at_164) rfl ?_
  refine g_lload X4 hx 168 rfl (hb hby at_166) rfl ?_
  refine g_lmul X4 hx 169 rfl (hb hby at_168) ?_
  refine g_ladd X4 hx 170 rfl (hb hby at_169) ?_
  have ede : (((Int64.ofNat fn) * (4 : Int64)) * (Int64.ofNat (2 ^ en))) + ((Int64.ofNat kn) * (Int64.ofNat ((4 - bn) * 2 ^ en + bn * dn))) = Int64.ofNat (fn * 4 * 2 ^ en + kn * ((4 - bn) * 2 ^ en + bn * dn)) := by
    rw [f4, own_mulN fn 4 1048576 4 l_fn (by decide) (by decide) (by decide) (by decide), own_mulN _ (2 ^ en) (1048576 * 4) 32768 (by omega) hP (by decide) (by decide) (by decide), own_mulN kn _ 15 4398046642176 (by omega) hLN2 (by decide) (by decide) (by decide), own_addN _ _ (by omega)]
  rw [ede]
  refine g_lstore X4 hx 172 rfl (hb hby at_170) #[.val (.int p1), .val (.int p2), .val (.long q3), .second, .val (.int p4), .val (.int p5), .val (.int p6), .val (.long (Int64.ofNat kn)), .second, .val (.long (Int64.ofNat bn)), .second, .val (.int (Int32.ofNat en)), .val (.long (Int64.ofNat fn)), .second, .val (.long (Int64.ofNat dn)), .second, .val (.long (Int64.ofNat jn)), .second, .val (.double (FP.l2d (Int64.ofNat jn))), .second, .val (.double xk), .second, .val (.double xb), .second, .val (.double xt), .second, .val (.long (Int64.ofNat (2 ^ en))), .second, .val (.double (FP.l2d (Int64.ofNat (2 ^ en)))), .second, .val (.ref o1), .val (.double (FP.dmul (FP.l2d (Int64.ofNat jn)) (FP.ddiv (FP.dmul xt (FP.dadd xk (4607182418800017408 : UInt64))) (FP.dadd xt (FP.dmul xk (FP.dadd (FP.dsub (4607182418800017408 : UInt64) xb) (FP.ddiv (FP.dmul xb (FP.l2d (Int64.ofNat dn))) (FP.l2d (Int64.ofNat (2 ^ en)))))))))), .second, .val (.long (Int64.ofNat ((4 - bn) * 2 ^ en + bn * dn))), .second, .val (.long (Int64.ofNat (fn * (kn + 4) * 2 ^ en))), .second, .val (.long (Int64.ofNat (fn * 4 * 2 ^ en + kn * ((4 - bn) * 2 ^ en + bn * dn)))), .second, .unset, .unset] rfl ?_
  refine g_dload X4 hx 174 rfl (hb hby at_172) rfl ?_
  refine g_lload X4 hx 176 rfl (hb hby at_174) rfl ?_
  refine g_l2d X4 hx 177 rfl (hb hby at_176) ?_
  refine g_lload X4 hx 179 rfl (hb hby at_177) rfl ?_
  refine g_l2d X4 hx 180 rfl (hb hby at_179) ?_
  refine g_ddiv X4 hx 181 rfl (hb hby at_180) nq ?_
  refine g_dmul X4 hx 182 rfl (hb hby at_181) (heq ▸ n10) ?_
  refine g_dstore X4 hx 184 rfl (hb hby at_182) #[.val (.int p1), .val (.int p2), .val (.long q3), .second, .val (.int p4), .val (.int p5), .val (.int p6), .val (.long (Int64.ofNat kn)), .second, .val (.long (Int64.ofNat bn)), .second, .val (.int (Int32.ofNat en)), .val (.long (Int64.ofNat fn)), .second, .val (.long (Int64.ofNat dn)), .second, .val (.long (Int64.ofNat jn)), .second, .val (.double (FP.l2d (Int64.ofNat jn))), .second, .val (.double xk), .second, .val (.double xb), .second, .val (.double xt), .second, .val (.long (Int64.ofNat (2 ^ en))), .second, .val (.double (FP.l2d (Int64.ofNat (2 ^ en)))), .second, .val (.ref o1), .val (.double (FP.dmul (FP.l2d (Int64.ofNat jn)) (FP.ddiv (FP.dmul xt (FP.dadd xk (4607182418800017408 : UInt64))) (FP.dadd xt (FP.dmul xk (FP.dadd (FP.dsub (4607182418800017408 : UInt64) xb) (FP.ddiv (FP.dmul xb (FP.l2d (Int64.ofNat dn))) (FP.l2d (Int64.ofNat (2 ^ en)))))))))), .second, .val (.long (Int64.ofNat ((4 - bn) * 2 ^ en + bn * dn))), .second, .val (.long (Int64.ofNat (fn * (kn + 4) * 2 ^ en))), .second, .val (.long (Int64.ofNat (fn * 4 * 2 ^ en + kn * ((4 - bn) * 2 ^ en + bn * dn)))), .second, .val (.double (FP.dmul (FP.l2d (Int64.ofNat jn)) (FP.ddiv (FP.l2d (Int64.ofNat (fn * (kn + 4) * 2 ^ en))) (FP.l2d (Int64.ofNat (fn * 4 * 2 ^ en + kn * ((4 - bn) * 2 ^ en + bn * dn))))))), .second] rfl ?_
  refine g_dload X4 hx 186 rfl (hb hby at_184) rfl ?_
  refine g_dload X4 hx 188 rfl (hb hby at_186) rfl ?_
  refine g_dcmp X4 hx 189 rfl (0 : Int32) (by rw [heq]; exact dcmpV_self (heq ▸ n10) _) (hb hby at_188) ?_
  refine g_ifN X4 hx 192 rfl (hb hby at_189) (XT.i0_ne_f rfl) ?_
  refine g_iconst X4 hx 193 rfl (1 : Int32) rfl (hb hby at_192) ?_
  refine g_goto X4 hx 197 (hb hby at_193) (by decide) (by decide) ?_
  exact g_retZ X4 hx hret hlk rfl (hb hby at_197) ⟨rfl, N4⟩ (by decide) (by decide)
set_option maxRecDepth 65536 in
set_option maxHeartbeats 40000000 in
theorem comes_1 {Post : Tables → Env → Array Value → State → Outcome → State → Prop} (hpost : ∀ tb e args s v u, (limb_1_1.after args s (.returned v) u = true ∧ limb_1_2.after args s (.returned v) u = true ∧ True) → FrameEnd s (.returned v) u (Jvm.fieldLocs frame_1_writes args s ++ Jvm.arrayLocs frame_1_arrays args s ++ Jvm.staticLocs frame_1_statics s) 16 128 → Post tb e args s (.returned v) u) :
    ArmFor flags0 classFile x code maxLocals ret World_1 tables_1 room_1 Calls_1 rest_1 Pre_1 Post := by
  intro l hfl _ _ p e ha hc hk s m args below hf hA hF happ hP
  obtain ⟨hcalls, hrest, hpre⟩ := hP
  obtain ⟨-, -, -, hnamed, -, -, -, hat⟩ := (Spec.applies_iff hf).mp happ
  obtain ⟨hg, hn⟩ := and_e (Cond.before_iff.mp (show (Jvm.Cond.and given_1 narrow_1).before args s = true from hpre))
  obtain ⟨h1, hr1⟩ := and_e hg
  obtain ⟨hk1, hr2⟩ := and_e hr1
  obtain ⟨hk2, hr3⟩ := and_e hr2
  obtain ⟨hk3, hr4⟩ := and_e hr3
  obtain ⟨hk4, hr5⟩ := and_e hr4
  obtain ⟨hk5, hr6⟩ := and_e hr5
  obtain ⟨w0, w1, w2, w3, w4, w5, rfl⟩ : ∃ w0 w1 w2 w3 w4 w5 : Value, args = #[w0, w1, w2, w3, w4, w5] := by
    have hs : args.size = 6 := by simpa [Cond.value, given_1] using h1
    obtain ⟨L⟩ := args
    match L, hs with
    | [w0, w1, w2, w3, w4, w5], _ => exact ⟨w0, w1, w2, w3, w4, w5, rfl⟩
  have hw := fun d (hd : d ∈ tables_1) => atoms_spec (ws := Jvm.Cond.code x code maxLocals ret :: tables_1) hat d (List.mem_cons_of_mem _ hd)
  have hfit : Fit s := fun {y c} hc i hi => by
    obtain ⟨ha, rfl⟩ := Array.getElem?_eq_some_iff.mp hc
    have q := List.all_eq_true.mp ((Array.all_eq_true_iff_forall_mem.mp hF) _ (Array.getElem_mem ha)) i (List.mem_range.mpr hi)
    simpa [Array.getElem?_eq_getElem hi] using q
  obtain ⟨i0, e0⟩ := is_v hk1
  obtain rfl : w0 = (.int i0) := Option.some.inj e0
  obtain ⟨i1, e1⟩ := is_v hk2
  obtain rfl : w1 = (.int i1) := Option.some.inj e1
  obtain ⟨i2, e2⟩ := isL_v hk3
  obtain rfl : w2 = (.long i2) := Option.some.inj e2
  obtain ⟨i3, e3⟩ := is_v hk4
  obtain rfl : w3 = (.int i3) := Option.some.inj e3
  obtain ⟨i4, e4⟩ := is_v hk5
  obtain rfl : w4 = (.int i4) := Option.some.inj e4
  obtain ⟨i5, e5⟩ := is_v hr6
  obtain rfl : w5 = (.int i5) := Option.some.inj e5
  obtain ⟨n, o, h1, h2, h3, _, L, rfl, ⟨rfl, N⟩, hq⟩ := rm0 l s _ hw tables_1 i0 i1 i2 i3 i4 i5  s.heap s.heap.size (Nat.le_refl _)  p e ha hc hk s m _ below hf ((Spec.applies_iff_loose hf).mp happ).1 ⟨rfl, State.Warmed39.refl s, rfl⟩ trivial
  refine ⟨n, _, h1, h2, h3, hpost _ _ _ _ _ _ ⟨Cond.after_iff.mpr rfl, Cond.after_iff.mpr (eq_i res_at (Term.int_eval (1)) rfl), trivial⟩ ⟨hq.1, hq.2.1, (hq.2.2.sift fun y hy => Or.inr (N y hy)).mono (by decide) (by decide)⟩⟩
theorem main_1_1 : Claimed_1_1 := comes_1 fun _ _ _ _ _ _ h hF => ⟨h.1, hF⟩
theorem main_1_2 : Claimed_1_2 := comes_1 fun _ _ _ _ _ _ h hF => ⟨h.2.1, hF⟩
end Jvm.Pilot.@@N@@
namespace Jvm.Pilot.@@N@@
open Jvm Jvm.ClassFile Sem Op Lib Jvm.Free Jvm.Stand Jvm.Pilot.@@N@@.Jvm.D
/-! MADE BY PROGRAM (witnessworld.py) out of the Statement's table words and the real class files: 17 classes; the members and pool entries that the words name. The judged class is class 1, her method 1. -/
namespace start1
open Jvm.ClassFile
def u (s : String) : CpInfo := .utf8 (stringToUtf16 s)
/-- a pool by its gaps: so many unusable entries, then the entry; so many at the end -/
def gap : Nat → List CpInfo → List CpInfo
  | 0, r => r
  | n + 1, r => .unusable :: gap n r
def poolList (es : List (Nat × CpInfo)) (last : Nat) : List CpInfo := es.foldr (fun e r => gap e.1 (e.2 :: r)) (gap last [])
def pool (es : List (Nat × CpInfo)) (last : Nat) : Array CpInfo := ⟨poolList es last⟩
def fileOf (pool : Array CpInfo) (this : Nat) (attrs : Array Attribute := #[]) (ms : Array MethodInfo := #[]) (fl : Nat := 33) (sup : Nat := 0) (ifs : Array Nat := #[]) (fds : Array FieldInfo := #[]) : ClassFile where
  minorVersion := 0
  majorVersion := 65
  constantPool := pool
  accessFlags := fl
  thisClass := this
  superClass := sup
  interfaces := ifs
  fields := fds
  methods := ms
  attributes := attrs
def plain (name : String) (sup : Option ClassId) : Class where
  name := name
  kind := .ordinary
  loader := none
  accessFlags := 33
  super := sup
  interfaces := #[]
  cf := none
  fields := #[]
  methods := #[]
  instanceTypes := #[]
  staticTypes := #[]
  resolved := #[]
  callSites := []
  init := .initialized
  statics := none
  mirror := none

def pool0 : Array CpInfo := pool [(5, u "<init>"), (0, u "()V"), (1, .class_ 10), (1, u "java/lang/Object")] 113

def k0c0 : Code := { maxStack := 0, maxLocals := 1, code := object_method_1_code, exceptionTable := #[], attributes := #[] }
def k0m0 : Method := { name := "<init>", desc := "()V", sig := { parameters := [], returnType := none }, accessFlags := 1, code := some k0c0 }
/-- java/lang/Object -/
def k0 : Class := { plain "java/lang/Object" none with
  accessFlags := 33
  interfaces := #[]
  cf := some (fileOf pool0 8 #[] #[{ accessFlags := 1, nameIndex := 5, descriptorIndex := 6, attributes := #[] }] 33 0 #[] #[])
  fields := #[]
  methods := #[k0m0]
  instanceTypes := #[]
  staticTypes := #[]
  resolved := Array.replicate 124 none
  statics := none }

def pool1 : Array CpInfo := pool [(2, .class_ 4), (1, u "java/lang/Object"), (0, u "<init>"), (0, u "()V"), (0, .integer 2147483647), (0, .integer 1048575), (0, .long 1099511627775), (1, .long 2147483647), (1, .double 4616189618054758400), (1, .class_ 16), (0, u "com/example/cranfield/cranfield/similarity/Bm25"), (0, .methodref 15 18), (0, .nameAndType 5 19), (0, u "(DD)V"), (0, .methodref 15 21), (0, .nameAndType 22 23), (0, u "scoreOf"), (0, u "(DDJD)D"), (0, .long 4), (1, .class_ 27), (0, u "com/example/cranfield/cranfield/similarity/Bm25ScoreOfPinLaw"), (2, u "law"), (0, u "(IIJIII)Z")] 3

def k1m0 : Method := { name := "<init>", desc := "()V", sig := { parameters := [], returnType := none }, accessFlags := 1, code := none }
def k1c1 : Code := { maxStack := 9, maxLocals := 41, code := code, exceptionTable := #[], attributes := #[] }
def k1m1 : Method := { name := "law", desc := "(IIJIII)Z", sig := { parameters := [.int, .int, .long, .int, .int, .int], returnType := some .boolean }, accessFlags := 9, code := some k1c1 }
/-- com/example/cranfield/cranfield/similarity/Bm25ScoreOfPinLaw -/
def k1 : Class := { plain "com/example/cranfield/cranfield/similarity/Bm25ScoreOfPinLaw" (some 0) with
  accessFlags := 49
  interfaces := #[]
  cf := some (fileOf pool1 26 #[] #[{ accessFlags := 1, nameIndex := 5, descriptorIndex := 6, attributes := #[] }, { accessFlags := 9, nameIndex := 30, descriptorIndex := 31, attributes := #[] }] 49 2 #[] #[])
  fields := #[]
  methods := #[k1m0, k1m1]
  instanceTypes := #[]
  staticTypes := #[]
  resolved := Array.replicate 35 none
  statics := none }

def pool2 : Array CpInfo := pool [(1, .class_ 2), (0, u "com/example/cranfield/cranfield/similarity/Similarity$1"), (4, .class_ 8), (0, u "com/example/cranfield/cranfield/similarity/Similarity$Weight"), (1, .class_ 12), (1, u "com/example/cranfield/cranfield/similarity/Similarity"), (2, .class_ 16), (0, u "com/example/cranfield/cranfield/similarity/Similarity$2"), (3, .class_ 21), (0, u "java/lang/Object")] 14

/-- com/example/cranfield/cranfield/similarity/Similarity -/
def k2 : Class := { plain "com/example/cranfield/cranfield/similarity/Similarity" (some 0) with
  accessFlags := 1537
  interfaces := #[]
  cf := some (fileOf pool2 10 #[.nestMembers #[7, 15, 1]] #[] 1537 20 #[] #[])
  fields := #[]
  methods := #[]
  instanceTypes := #[]
  staticTypes := #[]
  resolved := Array.replicate 36 none
  statics := none }

def pool3 : Array CpInfo := pool [(1, .methodref 2 3), (0, .class_ 4), (0, .nameAndType 5 6), (0, u "java/lang/Object"), (0, u "<init>"), (0, u "()V"), (26, .class_ 35), (1, u "com/example/cranfield/cranfield/similarity/IdfSimilarity"), (35, .class_ 72), (0, u "com/example/cranfield/cranfield/similarity/IdfSimilarity$1"), (3, .class_ 77), (0, u "com/example/cranfield/cranfield/similarity/Similarity")] 21

def k3c0 : Code := { maxStack := 1, maxLocals := 1, code := prog_89_method_1_code, exceptionTable := #[], attributes := #[] }
def k3m0 : Method := { name := "<init>", desc := "()V", sig := { parameters := [], returnType := none }, accessFlags := 0, code := some k3c0 }
/-- com/example/cranfield/cranfield/similarity/IdfSimilarity -/
def k3 : Class := { plain "com/example/cranfield/cranfield/similarity/IdfSimilarity" (some 0) with
  accessFlags := 1057
  interfaces := #[2]
  cf := some (fileOf pool3 33 #[.nestMembers #[71]] #[{ accessFlags := 0, nameIndex := 5, descriptorIndex := 6, attributes := #[] }] 1057 2 #[76] #[])
  fields := #[]
  methods := #[k3m0]
  instanceTypes := #[]
  staticTypes := #[]
  resolved := Array.replicate 99 none
  statics := none }

def pool4 : Array CpInfo := pool [(1, .class_ 2), (0, u "com/example/cranfield/cranfield/similarity/Bm25"), (6, u "<init>"), (0, u "(DD)V"), (0, .methodref 12 13), (0, .class_ 14), (0, .nameAndType 9 15), (0, u "com/example/cranfield/cranfield/similarity/IdfSimilarity"), (0, u "()V"), (0, .methodref 17 18), (0, .class_ 19), (0, .nameAndType 20 21), (0, u "java/lang/Double"), (0, u "isFinite"), (0, u "(D)Z"), (27, .fieldref 1 50), (0, .nameAndType 51 52), (0, u "k1"), (0, u "D"), (0, .fieldref 1 54), (0, .nameAndType 55 52), (0, u "b"), (33, u "DEFAULT_K1"), (1, u "DEFAULT_B"), (5, u "scoreOf"), (0, u "(DDJD)D")] 6

def k4m0 : Method := { name := "<init>", desc := "()V", sig := { parameters := [], returnType := none }, accessFlags := 1, code := none }
def k4c1 : Code := { maxStack := 9, maxLocals := 5, code := prog_87_method_2_code, exceptionTable := #[], attributes := #[] }
def k4m1 : Method := { name := "<init>", desc := "(DD)V", sig := { parameters := [.double, .double], returnType := none }, accessFlags := 1, code := some k4c1 }
def k4c2 : Code := { maxStack := 8, maxLocals := 13, code := prog_87_method_4_code, exceptionTable := #[], attributes := #[] }
def k4m2 : Method := { name := "scoreOf", desc := "(DDJD)D", sig := { parameters := [.double, .double, .long, .double], returnType := some .double }, accessFlags := 0, code := some k4c2 }
/-- com/example/cranfield/cranfield/similarity/Bm25 -/
def k4 : Class := { plain "com/example/cranfield/cranfield/similarity/Bm25" (some 3) with
  accessFlags := 49
  interfaces := #[]
  cf := some (fileOf pool4 1 #[] #[{ accessFlags := 1, nameIndex := 9, descriptorIndex := 15, attributes := #[] }, { accessFlags := 1, nameIndex := 9, descriptorIndex := 10, attributes := #[] }, { accessFlags := 0, nameIndex := 97, descriptorIndex := 98, attributes := #[] }] 49 12 #[] #[{ accessFlags := 25, nameIndex := 89, descriptorIndex := 52, attributes := #[] }, { accessFlags := 25, nameIndex := 91, descriptorIndex := 52, attributes := #[] }, { accessFlags := 18, nameIndex := 51, descriptorIndex := 52, attributes := #[] }, { accessFlags := 18, nameIndex := 55, descriptorIndex := 52, attributes := #[] }])
  fields := #[{ name := "DEFAULT_K1", type := .double, accessFlags := 25, slot := 0, constantValue := 0 }, { name := "DEFAULT_B", type := .double, accessFlags := 25, slot := 1, constantValue := 0 }, { name := "k1", type := .double, accessFlags := 18, slot := 0, constantValue := 0 }, { name := "b", type := .double, accessFlags := 18, slot := 1, constantValue := 0 }]
  methods := #[k4m0, k4m1, k4m2]
  instanceTypes := #[.double, .double]
  staticTypes := #[.double, .double]
  resolved := Array.replicate 105 none
  statics := none }

def pool5 : Array CpInfo := pool [(1, .class_ 2), (0, u "java/io/Serializable"), (0, .class_ 4), (0, u "java/lang/Object")] 2

/-- java/io/Serializable -/
def k5 : Class := { plain "java/io/Serializable" (some 0) with
  accessFlags := 1537
  interfaces := #[]
  cf := some (fileOf pool5 1 #[] #[] 1537 3 #[] #[])
  fields := #[]
  methods := #[]
  instanceTypes := #[]
  staticTypes := #[]
  resolved := Array.replicate 7 none
  statics := none }

def pool6 : Array CpInfo := pool [(2, .class_ 4), (1, u "java/lang/Object"), (0, u "<init>"), (0, u "()V"), (1, .class_ 10), (1, u "java/lang/Number"), (2, .class_ 14), (0, u "java/io/Serializable"), (0, u "serialVersionUID"), (0, u "J")] 20

def k6m0 : Method := { name := "<init>", desc := "()V", sig := { parameters := [], returnType := none }, accessFlags := 1, code := none }
/-- java/lang/Number -/
def k6 : Class := { plain "java/lang/Number" (some 0) with
  accessFlags := 1057
  interfaces := #[5]
  cf := some (fileOf pool6 8 #[] #[{ accessFlags := 1, nameIndex := 5, descriptorIndex := 6, attributes := #[] }] 1057 2 #[13] #[{ accessFlags := 26, nameIndex := 15, descriptorIndex := 16, attributes := #[] }])
  fields := #[{ name := "serialVersionUID", type := .long, accessFlags := 26, slot := 0, constantValue := 0 }]
  methods := #[k6m0]
  instanceTypes := #[]
  staticTypes := #[.long]
  resolved := Array.replicate 37 none
  statics := none }

def pool7 : Array CpInfo := pool [(1, .class_ 2), (0, u "java/lang/Comparable"), (0, .class_ 4), (0, u "java/lang/Object")] 7

/-- java/lang/Comparable -/
def k7 : Class := { plain "java/lang/Comparable" (some 0) with
  accessFlags := 1537
  interfaces := #[]
  cf := some (fileOf pool7 1 #[] #[] 1537 3 #[] #[])
  fields := #[]
  methods := #[]
  instanceTypes := #[]
  staticTypes := #[]
  resolved := Array.replicate 12 none
  statics := none }

def pool8 : Array CpInfo := pool [(1, .class_ 2), (0, u "java/lang/constant/Constable"), (0, .class_ 4), (0, u "java/lang/Object")] 6

/-- java/lang/constant/Constable -/
def k8 : Class := { plain "java/lang/constant/Constable" (some 0) with
  accessFlags := 1537
  interfaces := #[]
  cf := some (fileOf pool8 1 #[] #[] 1537 3 #[] #[])
  fields := #[]
  methods := #[]
  instanceTypes := #[]
  staticTypes := #[]
  resolved := Array.replicate 11 none
  statics := none }

def pool9 : Array CpInfo := pool [(1, .class_ 2), (0, u "java/lang/constant/ConstantDesc"), (0, .class_ 4), (0, u "java/lang/Object")] 32

/-- java/lang/constant/ConstantDesc -/
def k9 : Class := { plain "java/lang/constant/ConstantDesc" (some 0) with
  accessFlags := 1537
  interfaces := #[]
  cf := some (fileOf pool9 1 #[] #[] 1537 3 #[] #[])
  fields := #[]
  methods := #[]
  instanceTypes := #[]
  staticTypes := #[]
  resolved := Array.replicate 37 none
  statics := none }

def pool10 : Array CpInfo := pool [(1, .class_ 2), (0, u "java/lang/Double"), (10, u "isFinite"), (0, u "(D)Z"), (8, .class_ 25), (1, u "java/lang/Math"), (12, .methodref 23 39), (0, .nameAndType 40 41), (0, u "abs"), (0, u "(D)D"), (69, .double 9218868437227405311), (2, .class_ 116), (1, u "java/lang/Number"), (3, u "value"), (0, u "D"), (51, u "TYPE"), (0, u "Ljava/lang/Class;"), (0, .class_ 176), (0, u "java/lang/Comparable"), (0, .class_ 178), (0, u "java/lang/constant/Constable"), (0, .class_ 180), (0, u "java/lang/constant/ConstantDesc"), (0, u "POSITIVE_INFINITY"), (3, u "NEGATIVE_INFINITY"), (2, u "NaN"), (2, u "MAX_VALUE"), (0, u "MIN_NORMAL"), (0, u "MIN_VALUE"), (2, u "SIZE"), (0, u "I"), (1, u "PRECISION"), (1, u "MAX_EXPONENT"), (1, u "MIN_EXPONENT"), (1, u "BYTES"), (3, u "serialVersionUID"), (0, u "J")] 79

def k10c0 : Code := { maxStack := 4, maxLocals := 2, code := jdk_117_method_8_code, exceptionTable := #[], attributes := #[] }
def k10m0 : Method := { name := "isFinite", desc := "(D)Z", sig := { parameters := [.double], returnType := some .boolean }, accessFlags := 9, code := some k10c0 }
/-- java/lang/Double -/
def k10 : Class := { plain "java/lang/Double" (some 6) with
  accessFlags := 49
  interfaces := #[7, 8, 9]
  cf := some (fileOf pool10 1 #[] #[{ accessFlags := 9, nameIndex := 13, descriptorIndex := 14, attributes := #[] }] 49 114 #[175, 177, 179] #[{ accessFlags := 25, nameIndex := 181, descriptorIndex := 121, attributes := #[] }, { accessFlags := 25, nameIndex := 185, descriptorIndex := 121, attributes := #[] }, { accessFlags := 25, nameIndex := 188, descriptorIndex := 121, attributes := #[] }, { accessFlags := 25, nameIndex := 191, descriptorIndex := 121, attributes := #[] }, { accessFlags := 25, nameIndex := 192, descriptorIndex := 121, attributes := #[] }, { accessFlags := 25, nameIndex := 193, descriptorIndex := 121, attributes := #[] }, { accessFlags := 25, nameIndex := 196, descriptorIndex := 197, attributes := #[] }, { accessFlags := 25, nameIndex := 199, descriptorIndex := 197, attributes := #[] }, { accessFlags := 25, nameIndex := 201, descriptorIndex := 197, attributes := #[] }, { accessFlags := 25, nameIndex := 203, descriptorIndex := 197, attributes := #[] }, { accessFlags := 25, nameIndex := 205, descriptorIndex := 197, attributes := #[] }, { accessFlags := 25, nameIndex := 173, descriptorIndex := 174, attributes := #[] }, { accessFlags := 18, nameIndex := 120, descriptorIndex := 121, attributes := #[] }, { accessFlags := 26, nameIndex := 209, descriptorIndex := 210, attributes := #[] }])
  fields := #[{ name := "POSITIVE_INFINITY", type := .double, accessFlags := 25, slot := 0, constantValue := 0 }, { name := "NEGATIVE_INFINITY", type := .double, accessFlags := 25, slot := 1, constantValue := 0 }, { name := "NaN", type := .double, accessFlags := 25, slot := 2, constantValue := 0 }, { name := "MAX_VALUE", type := .double, accessFlags := 25, slot := 3, constantValue := 0 }, { name := "MIN_NORMAL", type := .double, accessFlags := 25, slot := 4, constantValue := 0 }, { name := "MIN_VALUE", type := .double, accessFlags := 25, slot := 5, constantValue := 0 }, { name := "SIZE", type := .int, accessFlags := 25, slot := 6, constantValue := 0 }, { name := "PRECISION", type := .int, accessFlags := 25, slot := 7, constantValue := 0 }, { name := "MAX_EXPONENT", type := .int, accessFlags := 25, slot := 8, constantValue := 0 }, { name := "MIN_EXPONENT", type := .int, accessFlags := 25, slot := 9, constantValue := 0 }, { name := "BYTES", type := .int, accessFlags := 25, slot := 10, constantValue := 0 }, { name := "TYPE", type := (.object "java/lang/Class"), accessFlags := 25, slot := 11, constantValue := 0 }, { name := "value", type := .double, accessFlags := 18, slot := 0, constantValue := 0 }, { name := "serialVersionUID", type := .long, accessFlags := 26, slot := 12, constantValue := 0 }]
  methods := #[k10m0]
  instanceTypes := #[.double]
  staticTypes := #[.double, .double, .double, .double, .double, .double, .int, .int, .int, .int, .int, (.object "java/lang/Class"), .long]
  resolved := Array.replicate 290 none
  statics := none }

def pool11 : Array CpInfo := pool [(1, .class_ 2), (0, u "java/lang/Math"), (1, .class_ 6), (1, u "java/lang/Object"), (0, u "<init>"), (0, u "()V"), (5, u "(D)D"), (83, .class_ 100), (1, u "java/lang/Math$RandomNumberGeneratorHolder"), (23, u "abs"), (47, u "negativeZeroFloatBits"), (0, u "J"), (2, u "negativeZeroDoubleBits"), (68, u "$assertionsDisabled"), (0, u "Z"), (91, u "twoToTheDoubleScaleDown"), (0, u "D"), (4, u "twoToTheDoubleScaleUp"), (9, u "E"), (3, u "PI"), (2, u "TAU"), (2, u "DEGREES_TO_RADIANS"), (0, u "RADIANS_TO_DEGREES")] 94

def k11m0 : Method := { name := "<init>", desc := "()V", sig := { parameters := [], returnType := none }, accessFlags := 2, code := none }
def k11c1 : Code := { maxStack := 4, maxLocals := 2, code := jdk_29_method_64_code, exceptionTable := #[], attributes := #[] }
def k11m1 : Method := { name := "abs", desc := "(D)D", sig := { parameters := [.double], returnType := some .double }, accessFlags := 9, code := some k11c1 }
/-- java/lang/Math -/
def k11 : Class := { plain "java/lang/Math" (some 0) with
  accessFlags := 49
  interfaces := #[]
  cf := some (fileOf pool11 1 #[.nestMembers #[98]] #[{ accessFlags := 2, nameIndex := 7, descriptorIndex := 8, attributes := #[] }, { accessFlags := 9, nameIndex := 124, descriptorIndex := 14, attributes := #[] }] 49 4 #[] #[{ accessFlags := 25, nameIndex := 354, descriptorIndex := 339, attributes := #[] }, { accessFlags := 25, nameIndex := 358, descriptorIndex := 339, attributes := #[] }, { accessFlags := 25, nameIndex := 361, descriptorIndex := 339, attributes := #[] }, { accessFlags := 26, nameIndex := 364, descriptorIndex := 339, attributes := #[] }, { accessFlags := 26, nameIndex := 365, descriptorIndex := 339, attributes := #[] }, { accessFlags := 26, nameIndex := 172, descriptorIndex := 173, attributes := #[] }, { accessFlags := 26, nameIndex := 176, descriptorIndex := 173, attributes := #[] }, { accessFlags := 8, nameIndex := 344, descriptorIndex := 339, attributes := #[] }, { accessFlags := 8, nameIndex := 338, descriptorIndex := 339, attributes := #[] }, { accessFlags := 4120, nameIndex := 245, descriptorIndex := 246, attributes := #[] }])
  fields := #[{ name := "E", type := .double, accessFlags := 25, slot := 0, constantValue := 0 }, { name := "PI", type := .double, accessFlags := 25, slot := 1, constantValue := 0 }, { name := "TAU", type := .double, accessFlags := 25, slot := 2, constantValue := 0 }, { name := "DEGREES_TO_RADIANS", type := .double, accessFlags := 26, slot := 3, constantValue := 0 }, { name := "RADIANS_TO_DEGREES", type := .double, accessFlags := 26, slot := 4, constantValue := 0 }, { name := "negativeZeroFloatBits", type := .long, accessFlags := 26, slot := 5, constantValue := 0 }, { name := "negativeZeroDoubleBits", type := .long, accessFlags := 26, slot := 6, constantValue := 0 }, { name := "twoToTheDoubleScaleUp", type := .double, accessFlags := 8, slot := 7, constantValue := 0 }, { name := "twoToTheDoubleScaleDown", type := .double, accessFlags := 8, slot := 8, constantValue := 0 }, { name := "$assertionsDisabled", type := .boolean, accessFlags := 4120, slot := 9, constantValue := 0 }]
  methods := #[k11m0, k11m1]
  instanceTypes := #[]
  staticTypes := #[.double, .double, .double, .double, .double, .long, .long, .double, .double, .boolean]
  resolved := Array.replicate 460 none
  statics := none }

def pool12 : Array CpInfo := pool [(1, u "java/lang/Cloneable"), (0, .class_ 1), (0, u "java/lang/Object"), (0, .class_ 3)] 3

/-- java/lang/Cloneable -/
def k12 : Class := { plain "java/lang/Cloneable" (some 0) with
  accessFlags := 1537
  interfaces := #[]
  cf := some (fileOf pool12 2 #[] #[] 1537 4 #[] #[])
  fields := #[]
  methods := #[]
  instanceTypes := #[]
  staticTypes := #[]
  resolved := Array.replicate 8 none
  statics := none }

/-- the primitive byte -/
def k13 : Class := { plain "byte" none with kind := .primitive 'B', accessFlags := 0x411 }
/-- [B -/
def k14 : Class := { plain "[B" (some 0) with kind := .array 13 .byte, interfaces := #[12, 5], accessFlags := 1041 }

/-- the primitive int -/
def k15 : Class := { plain "int" none with kind := .primitive 'I', accessFlags := 0x411 }
/-- [I -/
def k16 : Class := { plain "[I" (some 0) with kind := .array 15 .int, interfaces := #[12, 5], accessFlags := 1041 }

def heap : Heap := #[]
def classes : Array Class := #[k0, k1, k2, k3, k4, k5, k6, k7, k8, k9, k10, k11, k12, k13, k14, k15, k16]
def interned : List (Array UInt16 × Addr) := []
def slotsUsed : Nat := 0
def theMethod : MethodId := ⟨1, 1⟩
def args0 : Array Value := #[.int 5, .int 7, .long 3, .int 4, .int 3, .int 9]
def aboutOver (below : List Frame) : State where
  vm := { classes := classes, interned := interned.toArray }
  heap := heap
  slotsUsed := slotsUsed
  threads := #[{ frames := .invoking theMethod args0 :: below }]
def below0 : List Frame := [.native { method := ⟨0, 0⟩, args := #[] }]
def about1 : State := aboutOver below0
def p0 : Program := .bare "" "" ""
def e0 : Env := launch0.env 0 0 0
theorem w_frames : about1.frames = Frame.invoking theMethod args0 :: below0 := rfl
set_option maxRecDepth 65536 in
theorem w_args : argsFit about1.vm theMethod args0 = true := by decide +kernel
set_option maxRecDepth 65536 in
theorem w_heap : heapFits about1 = true := by decide +kernel
set_option maxRecDepth 65536 in
theorem w_runnable : about1.curStatus? = some .runnable := by decide +kernel
set_option maxRecDepth 65536 in
theorem w_alone : about1.alone = true := by decide +kernel
set_option maxRecDepth 65536 in
theorem w_named : about1.methodNamed? x = some theMethod := by decide +kernel
set_option maxRecDepth 65536 in
theorem w_hears : about1.hears theMethod below0 = true := by decide +kernel
set_option maxRecDepth 65536 in
theorem w_ripe : about1.ripe theMethod args0 below0 = true := by decide +kernel
theorem w_running : about1.status = .running := rfl
set_option maxRecDepth 65536 in
theorem w_room : about1.hasRoom e0.platform room_1 = true :=
  launch0.hasRoom_least _ room_1 (by decide +kernel) (by decide +kernel) (by decide +kernel) (by decide +kernel) (by decide +kernel) (by decide +kernel)
theorem allAtoms_all (ts : List Jvm.Cond) (a : Array Jvm.Value) (st : Jvm.State) : (allAtoms ts).before a st = ts.all (fun c => c.before a st) := by
  induction ts with
  | nil => rfl
  | cons c t ih =>
    show (Jvm.Cond.and c (allAtoms t)).before a st = _
    rw [Jvm.Cond.before_and, ih, List.all_cons]
def words1 : List Jvm.Cond := Jvm.Cond.code x code maxLocals ret :: tables_1
/-- a 'code' word, met by the world's own term for the bytes: nothing is compared byte by byte -/
theorem code_word {y : MethodName} {bytes : ByteArray} {mx : Nat} {rt : Option FieldType} {a : Array Value} {s : State} {m : MethodId} {meth : Method} {c : Code} (h1 : s.methodNamed? y = some m) (h2 : s.vm.method? m = some meth) (h3 : meth.code = some c) (h4 : c.code = bytes)
    (h5 : (c.maxLocals == mx && c.exceptionTable.isEmpty && decide (c.maxStack ≤ mostOperands) && decide (meth.sig.returnType = rt) && !meth.locks && decide (parseMethodDescriptor y.desc = some meth.sig)) = true) : (Jvm.Cond.code y bytes mx rt).before a s = true := by
  simp only [Bool.and_eq_true, beq_iff_eq, Bool.not_eq_true', decide_eq_true_eq] at h5
  obtain ⟨⟨⟨⟨⟨g1, g2⟩, g3⟩, g4⟩, g5⟩, g6⟩ := h5
  simp [Cond.before, Cond.holds, Cond.value, h1, h2, h3, h4, g1, g2, g3, g4, g5, g6]
def isCode : Jvm.Cond → Bool
  | .code _ _ _ _ => true
  | _ => false
theorem all_split {L : List Jvm.Cond} {P : Jvm.Cond → Bool} (h1 : L.all (fun c => isCode c || P c) = true) (h2 : ∀ c ∈ L.filter isCode, P c = true) : L.all P = true := by
  refine List.all_eq_true.mpr fun c hc => ?_
  have h := List.all_eq_true.mp h1 c hc
  rcases Bool.eq_false_or_eq_true (isCode c) with hi | hi
  · exact h2 c (List.mem_filter.mpr ⟨hc, hi⟩)
  · simpa [hi] using h
set_option maxRecDepth 65536 in
theorem w_c0 : (Jvm.Cond.code x code maxLocals ret).before args0 about1 = true := code_word (m := ⟨1, 1⟩) (meth := k1m1) (c := k1c1) (by decide +kernel) rfl rfl rfl (by decide +kernel)
set_option maxRecDepth 65536 in
theorem w_c1 : (Jvm.Cond.code ({ cls := "com/example/cranfield/cranfield/similarity/Bm25", name := "<init>", desc := "(DD)V" } : Jvm.MethodName) prog_87_method_2_code (5 : Nat) (Option.none : Option Jvm.ClassFile.FieldType)).before args0 about1 = true := code_word (m := ⟨4, 1⟩) (meth := k4m1) (c := k4c1) (by decide +kernel) rfl rfl rfl (by decide +kernel)
set_option maxRecDepth 65536 in
theorem w_c2 : (Jvm.Cond.code ({ cls := "com/example/cranfield/cranfield/similarity/IdfSimilarity", name := "<init>", desc := "()V" } : Jvm.MethodName) prog_89_method_1_code (1 : Nat) (Option.none : Option Jvm.ClassFile.FieldType)).before args0 about1 = true := code_word (m := ⟨3, 0⟩) (meth := k3m0) (c := k3c0) (by decide +kernel) rfl rfl rfl (by decide +kernel)
set_option maxRecDepth 65536 in
theorem w_c3 : (Jvm.Cond.code ({ cls := "java/lang/Object", name := "<init>", desc := "()V" } : Jvm.MethodName) object_method_1_code (1 : Nat) (Option.none : Option Jvm.ClassFile.FieldType)).before args0 about1 = true := code_word (m := ⟨0, 0⟩) (meth := k0m0) (c := k0c0) (by decide +kernel) rfl rfl rfl (by decide +kernel)
set_option maxRecDepth 65536 in
theorem w_c4 : (Jvm.Cond.code ({ cls := "java/lang/Double", name := "isFinite", desc := "(D)Z" } : Jvm.MethodName) jdk_117_method_8_code (2 : Nat) (Option.some Jvm.ClassFile.FieldType.boolean)).before args0 about1 = true := code_word (m := ⟨10, 0⟩) (meth := k10m0) (c := k10c0) (by decide +kernel) rfl rfl rfl (by decide +kernel)
set_option maxRecDepth 65536 in
theorem w_c5 : (Jvm.Cond.code ({ cls := "java/lang/Math", name := "abs", desc := "(D)D" } : Jvm.MethodName) jdk_29_method_64_code (2 : Nat) (Option.some Jvm.ClassFile.FieldType.double)).before args0 about1 = true := code_word (m := ⟨11, 1⟩) (meth := k11m1) (c := k11c1) (by decide +kernel) rfl rfl rfl (by decide +kernel)
set_option maxRecDepth 65536 in
theorem w_c6 : (Jvm.Cond.code ({ cls := "com/example/cranfield/cranfield/similarity/Bm25", name := "scoreOf", desc := "(DDJD)D" } : Jvm.MethodName) prog_87_method_4_code (13 : Nat) (Option.some Jvm.ClassFile.FieldType.double)).before args0 about1 = true := code_word (m := ⟨4, 2⟩) (meth := k4m2) (c := k4c2) (by decide +kernel) rfl rfl rfl (by decide +kernel)
def codes1 : List Jvm.Cond := [Jvm.Cond.code x code maxLocals ret, Jvm.Cond.code ({ cls := "com/example/cranfield/cranfield/similarity/Bm25", name := "<init>", desc := "(DD)V" } : Jvm.MethodName) prog_87_method_2_code (5 : Nat) (Option.none : Option Jvm.ClassFile.FieldType), Jvm.Cond.code ({ cls := "com/example/cranfield/cranfield/similarity/IdfSimilarity", name := "<init>", desc := "()V" } : Jvm.MethodName) prog_89_method_1_code (1 : Nat) (Option.none : Option Jvm.ClassFile.FieldType), Jvm.Cond.code ({ cls := "java/lang/Object", name := "<init>", desc := "()V" } : Jvm.MethodName) object_method_1_code (1 : Nat) (Option.none : Option Jvm.ClassFile.FieldType), Jvm.Cond.code ({ cls := "java/lang/Double", name := "isFinite", desc := "(D)Z" } : Jvm.MethodName) jdk_117_method_8_code (2 : Nat) (Option.some Jvm.ClassFile.FieldType.boolean), Jvm.Cond.code ({ cls := "java/lang/Math", name := "abs", desc := "(D)D" } : Jvm.MethodName) jdk_29_method_64_code (2 : Nat) (Option.some Jvm.ClassFile.FieldType.double), Jvm.Cond.code ({ cls := "com/example/cranfield/cranfield/similarity/Bm25", name := "scoreOf", desc := "(DDJD)D" } : Jvm.MethodName) prog_87_method_4_code (13 : Nat) (Option.some Jvm.ClassFile.FieldType.double)]
set_option maxRecDepth 65536 in
theorem codes_eq : words1.filter isCode = codes1 := rfl
theorem w_codes : ∀ c ∈ words1.filter isCode, c.before args0 about1 = true := by
  rw [codes_eq]
  intro c hc
  simp only [codes1, List.mem_cons, List.not_mem_nil, or_false] at hc
  rcases hc with rfl | rfl | rfl | rfl | rfl | rfl | rfl
  · exact w_c0
  · exact w_c1
  · exact w_c2
  · exact w_c3
  · exact w_c4
  · exact w_c5
  · exact w_c6
set_option maxRecDepth 65536 in
theorem w_t1 : (words1.take 24).all (fun c => isCode c || c.before args0 about1) = true := by decide +kernel
set_option maxRecDepth 65536 in
theorem w_t2 : (words1.drop 24).all (fun c => isCode c || c.before args0 about1) = true := by decide +kernel
theorem w_tables : (allAtoms (Jvm.Cond.code x code maxLocals ret :: tables_1)).before args0 about1 = true := by
  rw [allAtoms_all]
  show words1.all (fun c => c.before args0 about1) = true
  refine all_split ?_ w_codes
  rw [← List.take_append_drop 24 words1, List.all_append, w_t1, w_t2]
  rfl
set_option maxRecDepth 65536 in
theorem w_case : (Jvm.Cond.and given_1 narrow_1).before args0 about1 = true := by decide +kernel
theorem w_applies : (headSpec (Jvm.Cond.code x code maxLocals ret :: tables_1) room_1).applies x e0.platform about1 = true :=
  (Spec.applies_iff w_frames).mpr ⟨w_running, w_runnable, w_alone, w_named, w_hears, w_ripe, w_room, w_tables⟩
theorem atStart : AtStart classFile x code maxLocals ret World_1 tables_1 room_1 Calls_1 rest_1 Pre_1 launch0 p0 e0 about1 theMethod args0 below0 :=
  ⟨lists_1, trivial, launch0.admits_env _ _ _, launch0.least_env, fairChoices_fair.cas, fairChoices_fair.clock, w_frames, w_args, w_heap, w_applies, trivial, trivial, w_case⟩
end start1
theorem witness_1 : WitnessClaimed_1 := ⟨start1.p0, start1.e0, start1.about1, start1.theMethod, start1.args0, start1.below0, start1.atStart⟩
end Jvm.Pilot.@@N@@
