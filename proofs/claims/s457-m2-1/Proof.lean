import JvmDerived
import JvmDerived.Pilot.@@N@@Statement
import JvmDerived.Pilot.@@N@@Code
set_option linter.unusedVariables false
set_option linter.unusedSimpArgs false
namespace Jvm.OwnKit
open Sem ClassFile Op Lib Jvm.Stand Jvm.Free Jvm.LawKit Jvm.RoadKit
/-- what stays the same in one body: program, launch, environment, room, first state, method, arguments, frames below, method record, code -/
abbrev Cx := Program × Launch × Env × Room × State × MethodId × Array Value × List Frame × Method × Code
/-- from here the body runs to its end, and Q holds of what it returns and of the heap then -/
def G (k : Cx) (n0 : Nat) (Q : Option Value → Heap → Prop) (h : Heap) (cells slots pc : Nat) (Ls : List Slot) (St : List Value) : Prop :=
  cells ≤ k.2.2.2.1.cells → slots ≤ k.2.2.2.1.slots → ∀ (T : State) (locs : List Loc),
  Stand k.1 k.2.1 k.2.2.1 k.2.2.2.1 k.2.2.2.2.1 k.2.2.2.2.2.1 k.2.2.2.2.2.2.1 k.2.2.2.2.2.2.2.1 k.2.2.2.2.2.2.2.2.1 k.2.2.2.2.2.2.2.2.2 T locs cells slots → T.heap = h → Fr n0 locs →
  ∃ s₂ o, Steps k.1.tables k.2.2.1 k.2.2.2.2.2.2.2.1 (T.setTop (mkF k.2.2.2.2.2.1 pc ⟨Ls⟩ St)) s₂ ∧ s₂.status = .running ∧ Ended s₂ k.2.2.2.2.2.2.2.1 o ∧
    ∃ v L, o = .returned v ∧ (Q v s₂.heap ∧ Fr n0 L) ∧ FrameEnd k.2.2.2.2.1 o s₂ L k.2.2.2.1.cells k.2.2.2.1.slots
/-- what is known of the body all along -/
def Ok (k : Cx) (Z : State) (n0 : Nat) (own : String) (R : Room) (bytes : ByteArray) (maxL : Nat) (ret : Option FieldType) (nm : String) : Prop :=
  k.1.tables.exec = Jvm.exec ∧ Z.Warmed39 k.2.2.2.2.1.vm ∧ k.2.2.2.2.1.vm.findClass own = some k.2.2.2.2.2.1.cls ∧ k.2.2.2.1 = R ∧ k.2.2.2.2.2.2.2.2.2.code = bytes ∧
  k.2.2.2.2.2.2.2.2.2.maxLocals = maxL ∧ k.2.2.2.2.2.2.2.2.1.sig.returnType = ret ∧ k.2.2.2.2.2.2.2.2.1.locks = false ∧ k.2.2.2.2.2.2.2.2.1.name = nm ∧ n0 ≤ k.2.2.2.2.1.heap.size
def Dc (bytes : ByteArray) (pc : Nat) (i : Instr) (len pc' : Nat) : Prop := decode bytes pc = .ok (i, len) ∧ pc' = pc + len
def Db (bytes : ByteArray) (pc : Nat) (f : Int → Instr) (nx tg : Nat) : Prop := ∃ o : Int, decode bytes pc = .ok (f o, 3) ∧ nx = pc + 3 ∧ 0 ≤ (pc : Int) + o ∧ ((pc : Int) + o).toNat = tg
theorem dc {bytes : ByteArray} {pc : Nat} {i : Instr} {len : Nat} (h : decode bytes pc = .ok (i, len)) {pc' : Nat} (e : pc' = pc + len) : Dc bytes pc i len pc' := ⟨h, e⟩
theorem db {bytes : ByteArray} {pc : Nat} {f : Int → Instr} (o : Int) (h : decode bytes pc = .ok (f o, 3)) {nx tg : Nat} (e : nx = pc + 3) (e2 : 0 ≤ (pc : Int) + o) (e3 : ((pc : Int) + o).toNat = tg) : Db bytes pc f nx tg := ⟨o, h, e, e2, e3⟩
variable {k : Cx} {Z : State} {n0 : Nat} {own : String} {R : Room} {bytes : ByteArray} {maxL : Nat} {ret : Option FieldType} {nm : String} {Q : Option Value → Heap → Prop} {h : Heap} {cells slots pc pc' nx tg : Nat} {Ls Ls' : List Slot} {St St' : List Value} {a0 : Array Value}
/-- one step that moves neither heap nor tables -/
theorem G.plain {p : Program} {l : Launch} {e : Env} {R : Room} {s : State} {m : MethodId} {args : Array Value} {below : List Frame} {meth : Method} {c : Code}
    (st : ∀ T locs target, Stand p l e R s m args below meth c T locs cells slots → Steps p.tables e below (T.setTop (mkF m pc' ⟨Ls'⟩ St')) target → Steps p.tables e below (T.setTop (mkF m pc ⟨Ls⟩ St)) target)
    (g : G (p, l, e, R, s, m, args, below, meth, c) n0 Q h cells slots pc' Ls' St') : G (p, l, e, R, s, m, args, below, meth, c) n0 Q h cells slots pc Ls St := by
  intro hc hs T locs X eT N
  obtain ⟨s₂, o, h1, r⟩ := g hc hs T locs X eT N
  exact ⟨s₂, o, st T locs s₂ X h1, r⟩
/-- one step that leaves the heap as it is -/
theorem G.moved {p : Program} {l : Launch} {e : Env} {R : Room} {s : State} {m : MethodId} {args : Array Value} {below : List Frame} {meth : Method} {c : Code}
    (st : ∀ T locs, Stand p l e R s m args below meth c T locs cells slots → T.heap = h → ∃ T', Stand p l e R s m args below meth c T' locs cells slots ∧ T'.heap = h ∧ ∀ target, Steps p.tables e below (T'.setTop (mkF m pc' ⟨Ls'⟩ St')) target → Steps p.tables e below (T.setTop (mkF m pc ⟨Ls⟩ St)) target)
    (g : G (p, l, e, R, s, m, args, below, meth, c) n0 Q h cells slots pc' Ls' St') : G (p, l, e, R, s, m, args, below, meth, c) n0 Q h cells slots pc Ls St := by
  intro hc hs T locs X eT N
  obtain ⟨T', X', eT', st⟩ := st T locs X eT
  obtain ⟨s₂, o, h1, r⟩ := g hc hs T' locs X' eT' N
  exact ⟨s₂, o, st s₂ h1, r⟩
theorem G.more {cells' slots' : Nat} (K : Ok k Z n0 own R bytes maxL ret nm) (g : G k n0 Q h cells' slots' pc Ls St) (hc : cells ≤ cells') (hs : slots ≤ slots') (hc' : cells' ≤ R.cells) (hs' : slots' ≤ R.slots) : G k n0 Q h cells slots pc Ls St := by
  obtain ⟨-, -, -, rfl, -⟩ := K
  intro _ _ T locs X eT N
  exact g hc' hs' T locs (X.more hc hs) eT N
theorem G.post {Q' : Option Value → Heap → Prop} (g : G k n0 Q' h cells slots pc Ls St) (q : ∀ v h, Q' v h → Q v h) : G k n0 Q h cells slots pc Ls St := by
  intro hc hs T locs X eT N
  obtain ⟨s₂, o, h1, h2, h3, v, L, h4, ⟨h5, h6⟩, h7⟩ := g hc hs T locs X eT N
  exact ⟨s₂, o, h1, h2, h3, v, L, h4, ⟨q _ _ h5, h6⟩, h7⟩
theorem G.iadd (K : Ok k Z n0 own R bytes maxL ret nm) {x y : Int32} (d : Dc bytes pc .iadd 1 pc') (g : G k n0 Q h cells slots pc' Ls (.int (x + y) :: St)) : G k n0 Q h cells slots pc Ls (.int y :: .int x :: St) := by
  obtain ⟨p, l, e, R', s, m, args, below, meth, c⟩ := k
  obtain ⟨hx, hZ, hown, rfl, rfl, rfl, rfl, hlk, rfl, hn0⟩ := K
  obtain ⟨d, rfl⟩ := d
  exact G.plain (fun T locs t X q => XS.iadd X.here hx rfl d rfl q) g
theorem G.isub (K : Ok k Z n0 own R bytes maxL ret nm) {x y : Int32} (d : Dc bytes pc .isub 1 pc') (g : G k n0 Q h cells slots pc' Ls (.int (x - y) :: St)) : G k n0 Q h cells slots pc Ls (.int y :: .int x :: St) := by
  obtain ⟨p, l, e, R', s, m, args, below, meth, c⟩ := k
  obtain ⟨hx, hZ, hown, rfl, rfl, rfl, rfl, hlk, rfl, hn0⟩ := K
  obtain ⟨d, rfl⟩ := d
  exact G.plain (fun T locs t X q => XS.isub X.here hx rfl d rfl q) g
theorem G.imul (K : Ok k Z n0 own R bytes maxL ret nm) {x y : Int32} (d : Dc bytes pc .imul 1 pc') (g : G k n0 Q h cells slots pc' Ls (.int (x * y) :: St)) : G k n0 Q h cells slots pc Ls (.int y :: .int x :: St) := by
  obtain ⟨p, l, e, R', s, m, args, below, meth, c⟩ := k
  obtain ⟨hx, hZ, hown, rfl, rfl, rfl, rfl, hlk, rfl, hn0⟩ := K
  obtain ⟨d, rfl⟩ := d
  exact G.plain (fun T locs t X q => XS.imul X.here hx rfl d rfl q) g
theorem G.iand (K : Ok k Z n0 own R bytes maxL ret nm) {x y : Int32} (d : Dc bytes pc .iand 1 pc') (g : G k n0 Q h cells slots pc' Ls (.int (x &&& y) :: St)) : G k n0 Q h cells slots pc Ls (.int y :: .int x :: St) := by
  obtain ⟨p, l, e, R', s, m, args, below, meth, c⟩ := k
  obtain ⟨hx, hZ, hown, rfl, rfl, rfl, rfl, hlk, rfl, hn0⟩ := K
  obtain ⟨d, rfl⟩ := d
  exact G.plain (fun T locs t X q => XS.iand X.here hx rfl d rfl q) g
theorem G.ior (K : Ok k Z n0 own R bytes maxL ret nm) {x y : Int32} (d : Dc bytes pc .ior 1 pc') (g : G k n0 Q h cells slots pc' Ls (.int (x ||| y) :: St)) : G k n0 Q h cells slots pc Ls (.int y :: .int x :: St) := by
  obtain ⟨p, l, e, R', s, m, args, below, meth, c⟩ := k
  obtain ⟨hx, hZ, hown, rfl, rfl, rfl, rfl, hlk, rfl, hn0⟩ := K
  obtain ⟨d, rfl⟩ := d
  exact G.plain (fun T locs t X q => XT.ior X.here hx rfl d rfl q) g
theorem G.ixor (K : Ok k Z n0 own R bytes maxL ret nm) {x y : Int32} (d : Dc bytes pc .ixor 1 pc') (g : G k n0 Q h cells slots pc' Ls (.int (x ^^^ y) :: St)) : G k n0 Q h cells slots pc Ls (.int y :: .int x :: St) := by
  obtain ⟨p, l, e, R', s, m, args, below, meth, c⟩ := k
  obtain ⟨hx, hZ, hown, rfl, rfl, rfl, rfl, hlk, rfl, hn0⟩ := K
  obtain ⟨d, rfl⟩ := d
  exact G.plain (fun T locs t X q => XT.ixor X.here hx rfl d rfl q) g
theorem G.ishl (K : Ok k Z n0 own R bytes maxL ret nm) {x y : Int32} (d : Dc bytes pc .ishl 1 pc') (g : G k n0 Q h cells slots pc' Ls (.int (x <<< (y &&& 31)) :: St)) : G k n0 Q h cells slots pc Ls (.int y :: .int x :: St) := by
  obtain ⟨p, l, e, R', s, m, args, below, meth, c⟩ := k
  obtain ⟨hx, hZ, hown, rfl, rfl, rfl, rfl, hlk, rfl, hn0⟩ := K
  obtain ⟨d, rfl⟩ := d
  exact G.plain (fun T locs t X q => XT.ishl X.here hx rfl d rfl q) g
theorem G.ishr (K : Ok k Z n0 own R bytes maxL ret nm) {x y : Int32} (d : Dc bytes pc .ishr 1 pc') (g : G k n0 Q h cells slots pc' Ls (.int (x >>> (y &&& 31)) :: St)) : G k n0 Q h cells slots pc Ls (.int y :: .int x :: St) := by
  obtain ⟨p, l, e, R', s, m, args, below, meth, c⟩ := k
  obtain ⟨hx, hZ, hown, rfl, rfl, rfl, rfl, hlk, rfl, hn0⟩ := K
  obtain ⟨d, rfl⟩ := d
  exact G.plain (fun T locs t X q => XT.ishr X.here hx rfl d rfl q) g
theorem G.iushr (K : Ok k Z n0 own R bytes maxL ret nm) {x y : Int32} (d : Dc bytes pc .iushr 1 pc') (g : G k n0 Q h cells slots pc' Ls (.int (XT.ushr x y) :: St)) : G k n0 Q h cells slots pc Ls (.int y :: .int x :: St) := by
  obtain ⟨p, l, e, R', s, m, args, below, meth, c⟩ := k
  obtain ⟨hx, hZ, hown, rfl, rfl, rfl, rfl, hlk, rfl, hn0⟩ := K
  obtain ⟨d, rfl⟩ := d
  exact G.plain (fun T locs t X q => XT.iushr X.here hx rfl d rfl q) g
theorem G.ladd (K : Ok k Z n0 own R bytes maxL ret nm) {x y : Int64} (d : Dc bytes pc .ladd 1 pc') (g : G k n0 Q h cells slots pc' Ls (.long (x + y) :: St)) : G k n0 Q h cells slots pc Ls (.long y :: .long x :: St) := by
  obtain ⟨p, l, e, R', s, m, args, below, meth, c⟩ := k
  obtain ⟨hx, hZ, hown, rfl, rfl, rfl, rfl, hlk, rfl, hn0⟩ := K
  obtain ⟨d, rfl⟩ := d
  exact G.plain (fun T locs t X q => XT.ladd X.here hx rfl d rfl q) g
theorem G.lsub (K : Ok k Z n0 own R bytes maxL ret nm) {x y : Int64} (d : Dc bytes pc .lsub 1 pc') (g : G k n0 Q h cells slots pc' Ls (.long (x - y) :: St)) : G k n0 Q h cells slots pc Ls (.long y :: .long x :: St) := by
  obtain ⟨p, l, e, R', s, m, args, below, meth, c⟩ := k
  obtain ⟨hx, hZ, hown, rfl, rfl, rfl, rfl, hlk, rfl, hn0⟩ := K
  obtain ⟨d, rfl⟩ := d
  exact G.plain (fun T locs t X q => XT.lsub X.here hx rfl d rfl q) g
theorem G.lmul (K : Ok k Z n0 own R bytes maxL ret nm) {x y : Int64} (d : Dc bytes pc .lmul 1 pc') (g : G k n0 Q h cells slots pc' Ls (.long (x * y) :: St)) : G k n0 Q h cells slots pc Ls (.long y :: .long x :: St) := by
  obtain ⟨p, l, e, R', s, m, args, below, meth, c⟩ := k
  obtain ⟨hx, hZ, hown, rfl, rfl, rfl, rfl, hlk, rfl, hn0⟩ := K
  obtain ⟨d, rfl⟩ := d
  exact G.plain (fun T locs t X q => XT.lmul X.here hx rfl d rfl q) g
theorem G.land (K : Ok k Z n0 own R bytes maxL ret nm) {x y : Int64} (d : Dc bytes pc .land 1 pc') (g : G k n0 Q h cells slots pc' Ls (.long (x &&& y) :: St)) : G k n0 Q h cells slots pc Ls (.long y :: .long x :: St) := by
  obtain ⟨p, l, e, R', s, m, args, below, meth, c⟩ := k
  obtain ⟨hx, hZ, hown, rfl, rfl, rfl, rfl, hlk, rfl, hn0⟩ := K
  obtain ⟨d, rfl⟩ := d
  exact G.plain (fun T locs t X q => XT.land X.here hx rfl d rfl q) g
theorem G.lor (K : Ok k Z n0 own R bytes maxL ret nm) {x y : Int64} (d : Dc bytes pc .lor 1 pc') (g : G k n0 Q h cells slots pc' Ls (.long (x ||| y) :: St)) : G k n0 Q h cells slots pc Ls (.long y :: .long x :: St) := by
  obtain ⟨p, l, e, R', s, m, args, below, meth, c⟩ := k
  obtain ⟨hx, hZ, hown, rfl, rfl, rfl, rfl, hlk, rfl, hn0⟩ := K
  obtain ⟨d, rfl⟩ := d
  exact G.plain (fun T locs t X q => XT.lor X.here hx rfl d rfl q) g
theorem G.lxor (K : Ok k Z n0 own R bytes maxL ret nm) {x y : Int64} (d : Dc bytes pc .lxor 1 pc') (g : G k n0 Q h cells slots pc' Ls (.long (x ^^^ y) :: St)) : G k n0 Q h cells slots pc Ls (.long y :: .long x :: St) := by
  obtain ⟨p, l, e, R', s, m, args, below, meth, c⟩ := k
  obtain ⟨hx, hZ, hown, rfl, rfl, rfl, rfl, hlk, rfl, hn0⟩ := K
  obtain ⟨d, rfl⟩ := d
  exact G.plain (fun T locs t X q => XT.lxor X.here hx rfl d rfl q) g
theorem G.lshl (K : Ok k Z n0 own R bytes maxL ret nm) {x : Int64} {y : Int32} (d : Dc bytes pc .lshl 1 pc') (g : G k n0 Q h cells slots pc' Ls (.long (x <<< (y.toInt64 &&& 63)) :: St)) : G k n0 Q h cells slots pc Ls (.int y :: .long x :: St) := by
  obtain ⟨p, l, e, R', s, m, args, below, meth, c⟩ := k
  obtain ⟨hx, hZ, hown, rfl, rfl, rfl, rfl, hlk, rfl, hn0⟩ := K
  obtain ⟨d, rfl⟩ := d
  exact G.plain (fun T locs t X q => XT.lshl X.here hx rfl d rfl q) g
theorem G.lshr (K : Ok k Z n0 own R bytes maxL ret nm) {x : Int64} {y : Int32} (d : Dc bytes pc .lshr 1 pc') (g : G k n0 Q h cells slots pc' Ls (.long (x >>> (y.toInt64 &&& 63)) :: St)) : G k n0 Q h cells slots pc Ls (.int y :: .long x :: St) := by
  obtain ⟨p, l, e, R', s, m, args, below, meth, c⟩ := k
  obtain ⟨hx, hZ, hown, rfl, rfl, rfl, rfl, hlk, rfl, hn0⟩ := K
  obtain ⟨d, rfl⟩ := d
  exact G.plain (fun T locs t X q => XT.lshr X.here hx rfl d rfl q) g
theorem G.lushr (K : Ok k Z n0 own R bytes maxL ret nm) {x : Int64} {y : Int32} (d : Dc bytes pc .lushr 1 pc') (g : G k n0 Q h cells slots pc' Ls (.long (XT.ushrL x y) :: St)) : G k n0 Q h cells slots pc Ls (.int y :: .long x :: St) := by
  obtain ⟨p, l, e, R', s, m, args, below, meth, c⟩ := k
  obtain ⟨hx, hZ, hown, rfl, rfl, rfl, rfl, hlk, rfl, hn0⟩ := K
  obtain ⟨d, rfl⟩ := d
  exact G.plain (fun T locs t X q => XT.lushr X.here hx rfl d rfl q) g
theorem G.irem (K : Ok k Z n0 own R bytes maxL ret nm) {x y : Int32} (d : Dc bytes pc .irem 1 pc') (hy : y ≠ 0) (g : G k n0 Q h cells slots pc' Ls (.int (x % y) :: St)) : G k n0 Q h cells slots pc Ls (.int y :: .int x :: St) := by
  obtain ⟨p, l, e, R', s, m, args, below, meth, c⟩ := k
  obtain ⟨hx, hZ, hown, rfl, rfl, rfl, rfl, hlk, rfl, hn0⟩ := K
  obtain ⟨d, rfl⟩ := d
  exact G.plain (fun T locs t X q => iremM X hx rfl d rfl hy q) g
theorem G.idiv (K : Ok k Z n0 own R bytes maxL ret nm) {x y : Int32} (d : Dc bytes pc .idiv 1 pc') (hy : y ≠ 0) (g : G k n0 Q h cells slots pc' Ls (.int (x / y) :: St)) : G k n0 Q h cells slots pc Ls (.int y :: .int x :: St) := by
  obtain ⟨p, l, e, R', s, m, args, below, meth, c⟩ := k
  obtain ⟨hx, hZ, hown, rfl, rfl, rfl, rfl, hlk, rfl, hn0⟩ := K
  obtain ⟨d, rfl⟩ := d
  exact G.plain (fun T locs t X q => XS.idiv X.here hx rfl d rfl hy q) g
theorem G.ldiv (K : Ok k Z n0 own R bytes maxL ret nm) {x y : Int64} (d : Dc bytes pc .ldiv 1 pc') (hy : y ≠ 0) (g : G k n0 Q h cells slots pc' Ls (.long (x / y) :: St)) : G k n0 Q h cells slots pc Ls (.long y :: .long x :: St) := by
  obtain ⟨p, l, e, R', s, m, args, below, meth, c⟩ := k
  obtain ⟨hx, hZ, hown, rfl, rfl, rfl, rfl, hlk, rfl, hn0⟩ := K
  obtain ⟨d, rfl⟩ := d
  exact G.plain (fun T locs t X q => XT.ldiv X.here hx rfl d rfl hy q) g
theorem G.ineg (K : Ok k Z n0 own R bytes maxL ret nm) {x : Int32} (d : Dc bytes pc .ineg 1 pc') (g : G k n0 Q h cells slots pc' Ls (.int (-x) :: St)) : G k n0 Q h cells slots pc Ls (.int x :: St) := by
  obtain ⟨p, l, e, R', s, m, args, below, meth, c⟩ := k
  obtain ⟨hx, hZ, hown, rfl, rfl, rfl, rfl, hlk, rfl, hn0⟩ := K
  obtain ⟨d, rfl⟩ := d
  exact G.plain (fun T locs t X q => XS.ineg X.here hx rfl d rfl q) g
theorem G.lneg (K : Ok k Z n0 own R bytes maxL ret nm) {x : Int64} (d : Dc bytes pc .lneg 1 pc') (g : G k n0 Q h cells slots pc' Ls (.long (-x) :: St)) : G k n0 Q h cells slots pc Ls (.long x :: St) := by
  obtain ⟨p, l, e, R', s, m, args, below, meth, c⟩ := k
  obtain ⟨hx, hZ, hown, rfl, rfl, rfl, rfl, hlk, rfl, hn0⟩ := K
  obtain ⟨d, rfl⟩ := d
  exact G.plain (fun T locs t X q => XT.lneg X.here hx rfl d rfl q) g
theorem G.i2l (K : Ok k Z n0 own R bytes maxL ret nm) {x : Int32} (d : Dc bytes pc .i2l 1 pc') (g : G k n0 Q h cells slots pc' Ls (.long x.toInt64 :: St)) : G k n0 Q h cells slots pc Ls (.int x :: St) := by
  obtain ⟨p, l, e, R', s, m, args, below, meth, c⟩ := k
  obtain ⟨hx, hZ, hown, rfl, rfl, rfl, rfl, hlk, rfl, hn0⟩ := K
  obtain ⟨d, rfl⟩ := d
  exact G.plain (fun T locs t X q => XT.i2l X.here hx rfl d rfl q) g
theorem G.l2i (K : Ok k Z n0 own R bytes maxL ret nm) {x : Int64} (d : Dc bytes pc .l2i 1 pc') (g : G k n0 Q h cells slots pc' Ls (.int x.toInt32 :: St)) : G k n0 Q h cells slots pc Ls (.long x :: St) := by
  obtain ⟨p, l, e, R', s, m, args, below, meth, c⟩ := k
  obtain ⟨hx, hZ, hown, rfl, rfl, rfl, rfl, hlk, rfl, hn0⟩ := K
  obtain ⟨d, rfl⟩ := d
  exact G.plain (fun T locs t X q => XT.l2i X.here hx rfl d rfl q) g
theorem G.i2b (K : Ok k Z n0 own R bytes maxL ret nm) {x : Int32} (d : Dc bytes pc .i2b 1 pc') (g : G k n0 Q h cells slots pc' Ls (.int x.toInt8.toInt32 :: St)) : G k n0 Q h cells slots pc Ls (.int x :: St) := by
  obtain ⟨p, l, e, R', s, m, args, below, meth, c⟩ := k
  obtain ⟨hx, hZ, hown, rfl, rfl, rfl, rfl, hlk, rfl, hn0⟩ := K
  obtain ⟨d, rfl⟩ := d
  exact G.plain (fun T locs t X q => XT.i2b X.here hx rfl d rfl q) g
theorem G.i2s (K : Ok k Z n0 own R bytes maxL ret nm) {x : Int32} (d : Dc bytes pc .i2s 1 pc') (g : G k n0 Q h cells slots pc' Ls (.int x.toInt16.toInt32 :: St)) : G k n0 Q h cells slots pc Ls (.int x :: St) := by
  obtain ⟨p, l, e, R', s, m, args, below, meth, c⟩ := k
  obtain ⟨hx, hZ, hown, rfl, rfl, rfl, rfl, hlk, rfl, hn0⟩ := K
  obtain ⟨d, rfl⟩ := d
  exact G.plain (fun T locs t X q => XT.i2s X.here hx rfl d rfl q) g
theorem G.i2c (K : Ok k Z n0 own R bytes maxL ret nm) {x : Int32} (d : Dc bytes pc .i2c 1 pc') (g : G k n0 Q h cells slots pc' Ls (.int x.toUInt32.toUInt16.toUInt32.toInt32 :: St)) : G k n0 Q h cells slots pc Ls (.int x :: St) := by
  obtain ⟨p, l, e, R', s, m, args, below, meth, c⟩ := k
  obtain ⟨hx, hZ, hown, rfl, rfl, rfl, rfl, hlk, rfl, hn0⟩ := K
  obtain ⟨d, rfl⟩ := d
  exact G.plain (fun T locs t X q => XT.i2c X.here hx rfl d rfl q) g
theorem G.iloadN (K : Ok k Z n0 own R bytes maxL ret nm) {v : Int32} {i : Fin 4} (d : Dc bytes pc (.iload_n i) 1 pc') (hl : Ls[i.val]? = some (.val (.int v))) (g : G k n0 Q h cells slots pc' Ls (.int v :: St)) : G k n0 Q h cells slots pc Ls (St) := by
  obtain ⟨p, l, e, R', s, m, args, below, meth, c⟩ := k
  obtain ⟨hx, hZ, hown, rfl, rfl, rfl, rfl, hlk, rfl, hn0⟩ := K
  obtain ⟨d, rfl⟩ := d
  exact G.plain (fun T locs t X q => XS.iloadN X.here hx rfl d (by simpa using hl) q) g
theorem G.iload (K : Ok k Z n0 own R bytes maxL ret nm) {v : Int32} {i : Nat} (d : Dc bytes pc (.iload i) 2 pc') (hl : Ls[i]? = some (.val (.int v))) (g : G k n0 Q h cells slots pc' Ls (.int v :: St)) : G k n0 Q h cells slots pc Ls (St) := by
  obtain ⟨p, l, e, R', s, m, args, below, meth, c⟩ := k
  obtain ⟨hx, hZ, hown, rfl, rfl, rfl, rfl, hlk, rfl, hn0⟩ := K
  obtain ⟨d, rfl⟩ := d
  exact G.plain (fun T locs t X q => XS.iload X.here hx rfl d (by simpa using hl) q) g
theorem G.lloadN (K : Ok k Z n0 own R bytes maxL ret nm) {v : Int64} {i : Fin 4} (d : Dc bytes pc (.lload_n i) 1 pc') (hl : Ls[i.val]? = some (.val (.long v))) (g : G k n0 Q h cells slots pc' Ls (.long v :: St)) : G k n0 Q h cells slots pc Ls (St) := by
  obtain ⟨p, l, e, R', s, m, args, below, meth, c⟩ := k
  obtain ⟨hx, hZ, hown, rfl, rfl, rfl, rfl, hlk, rfl, hn0⟩ := K
  obtain ⟨d, rfl⟩ := d
  exact G.plain (fun T locs t X q => XT.lloadN X.here hx rfl d (by simpa using hl) q) g
theorem G.lload (K : Ok k Z n0 own R bytes maxL ret nm) {v : Int64} {i : Nat} (d : Dc bytes pc (.lload i) 2 pc') (hl : Ls[i]? = some (.val (.long v))) (g : G k n0 Q h cells slots pc' Ls (.long v :: St)) : G k n0 Q h cells slots pc Ls (St) := by
  obtain ⟨p, l, e, R', s, m, args, below, meth, c⟩ := k
  obtain ⟨hx, hZ, hown, rfl, rfl, rfl, rfl, hlk, rfl, hn0⟩ := K
  obtain ⟨d, rfl⟩ := d
  exact G.plain (fun T locs t X q => XT.lload X.here hx rfl d (by simpa using hl) q) g
theorem G.aloadN (K : Ok k Z n0 own R bytes maxL ret nm) {v : Value} {i : Fin 4} (d : Dc bytes pc (.aload_n i) 1 pc') (hl : Ls[i.val]? = some (.val (v))) (hv : v.isRef = true) (g : G k n0 Q h cells slots pc' Ls (v :: St)) : G k n0 Q h cells slots pc Ls (St) := by
  obtain ⟨p, l, e, R', s, m, args, below, meth, c⟩ := k
  obtain ⟨hx, hZ, hown, rfl, rfl, rfl, rfl, hlk, rfl, hn0⟩ := K
  obtain ⟨d, rfl⟩ := d
  exact G.plain (fun T locs t X q => XS.aloadN X.here hx rfl d (by simpa using hl) hv q) g
theorem G.aload (K : Ok k Z n0 own R bytes maxL ret nm) {v : Value} {i : Nat} (d : Dc bytes pc (.aload i) 2 pc') (hl : Ls[i]? = some (.val (v))) (hv : v.isRef = true) (g : G k n0 Q h cells slots pc' Ls (v :: St)) : G k n0 Q h cells slots pc Ls (St) := by
  obtain ⟨p, l, e, R', s, m, args, below, meth, c⟩ := k
  obtain ⟨hx, hZ, hown, rfl, rfl, rfl, rfl, hlk, rfl, hn0⟩ := K
  obtain ⟨d, rfl⟩ := d
  exact G.plain (fun T locs t X q => XS.aload X.here hx rfl d (by simpa using hl) hv q) g
theorem G.istoreN (K : Ok k Z n0 own R bytes maxL ret nm) {v : Int32} {i : Fin 4} (d : Dc bytes pc (.istore_n i) 1 pc') (Ls' : List Slot) (hl : storeLocals ⟨Ls⟩ i.val (.int v) = some ⟨Ls'⟩) (g : G k n0 Q h cells slots pc' Ls' (St)) : G k n0 Q h cells slots pc Ls (.int v :: St) := by
  obtain ⟨p, l, e, R', s, m, args, below, meth, c⟩ := k
  obtain ⟨hx, hZ, hown, rfl, rfl, rfl, rfl, hlk, rfl, hn0⟩ := K
  obtain ⟨d, rfl⟩ := d
  exact G.plain (fun T locs t X q => XS.istoreN X.here hx rfl d rfl hl q) g
theorem G.istore (K : Ok k Z n0 own R bytes maxL ret nm) {v : Int32} {i : Nat} (d : Dc bytes pc (.istore i) 2 pc') (Ls' : List Slot) (hl : storeLocals ⟨Ls⟩ i (.int v) = some ⟨Ls'⟩) (g : G k n0 Q h cells slots pc' Ls' (St)) : G k n0 Q h cells slots pc Ls (.int v :: St) := by
  obtain ⟨p, l, e, R', s, m, args, below, meth, c⟩ := k
  obtain ⟨hx, hZ, hown, rfl, rfl, rfl, rfl, hlk, rfl, hn0⟩ := K
  obtain ⟨d, rfl⟩ := d
  exact G.plain (fun T locs t X q => XS.istore X.here hx rfl d rfl hl q) g
theorem G.lstoreN (K : Ok k Z n0 own R bytes maxL ret nm) {v : Int64} {i : Fin 4} (d : Dc bytes pc (.lstore_n i) 1 pc') (Ls' : List Slot) (hl : storeLocals ⟨Ls⟩ i.val (.long v) = some ⟨Ls'⟩) (g : G k n0 Q h cells slots pc' Ls' (St)) : G k n0 Q h cells slots pc Ls (.long v :: St) := by
  obtain ⟨p, l, e, R', s, m, args, below, meth, c⟩ := k
  obtain ⟨hx, hZ, hown, rfl, rfl, rfl, rfl, hlk, rfl, hn0⟩ := K
  obtain ⟨d, rfl⟩ := d
  exact G.plain (fun T locs t X q => XT.lstoreN X.here hx rfl d rfl hl q) g
theorem G.lstore (K : Ok k Z n0 own R bytes maxL ret nm) {v : Int64} {i : Nat} (d : Dc bytes pc (.lstore i) 2 pc') (Ls' : List Slot) (hl : storeLocals ⟨Ls⟩ i (.long v) = some ⟨Ls'⟩) (g : G k n0 Q h cells slots pc' Ls' (St)) : G k n0 Q h cells slots pc Ls (.long v :: St) := by
  obtain ⟨p, l, e, R', s, m, args, below, meth, c⟩ := k
  obtain ⟨hx, hZ, hown, rfl, rfl, rfl, rfl, hlk, rfl, hn0⟩ := K
  obtain ⟨d, rfl⟩ := d
  exact G.plain (fun T locs t X q => XT.lstore X.here hx rfl d rfl hl q) g
theorem G.astoreN (K : Ok k Z n0 own R bytes maxL ret nm) {v : Value} {i : Fin 4} (d : Dc bytes pc (.astore_n i) 1 pc') (hv : v.isRef = true) (Ls' : List Slot) (hl : storeLocals ⟨Ls⟩ i.val (v) = some ⟨Ls'⟩) (g : G k n0 Q h cells slots pc' Ls' (St)) : G k n0 Q h cells slots pc Ls (v :: St) := by
  obtain ⟨p, l, e, R', s, m, args, below, meth, c⟩ := k
  obtain ⟨hx, hZ, hown, rfl, rfl, rfl, rfl, hlk, rfl, hn0⟩ := K
  obtain ⟨d, rfl⟩ := d
  exact G.plain (fun T locs t X q => XS.astoreN X.here hx rfl d rfl hv hl q) g
theorem G.astore (K : Ok k Z n0 own R bytes maxL ret nm) {v : Value} {i : Nat} (d : Dc bytes pc (.astore i) 2 pc') (hv : v.isRef = true) (Ls' : List Slot) (hl : storeLocals ⟨Ls⟩ i (v) = some ⟨Ls'⟩) (g : G k n0 Q h cells slots pc' Ls' (St)) : G k n0 Q h cells slots pc Ls (v :: St) := by
  obtain ⟨p, l, e, R', s, m, args, below, meth, c⟩ := k
  obtain ⟨hx, hZ, hown, rfl, rfl, rfl, rfl, hlk, rfl, hn0⟩ := K
  obtain ⟨d, rfl⟩ := d
  exact G.plain (fun T locs t X q => XS.astore X.here hx rfl d rfl hv hl q) g
theorem G.iinc (K : Ok k Z n0 own R bytes maxL ret nm) {x : Int32} {i : Nat} {cst : Int} (d : Dc bytes pc (.iinc i cst) 3 pc') (v : Int32) (hv : Int32.ofInt cst = v) (hl0 : Ls[i]? = some (.val (.int x))) (Ls' : List Slot) (hl : storeLocals ⟨Ls⟩ i (.int (x + v)) = some ⟨Ls'⟩) (g : G k n0 Q h cells slots pc' Ls' (St)) : G k n0 Q h cells slots pc Ls (St) := by
  obtain ⟨p, l, e, R', s, m, args, below, meth, c⟩ := k
  obtain ⟨hx, hZ, hown, rfl, rfl, rfl, rfl, hlk, rfl, hn0⟩ := K
  obtain ⟨d, rfl⟩ := d
  exact G.plain (fun T locs t X q => XT.iincV X.here hx rfl v d hv (by simpa using hl0) hl q) g
theorem G.iconst (K : Ok k Z n0 own R bytes maxL ret nm) {i : Int} (d : Dc bytes pc (.iconst i) 1 pc') (v : Int32) (hv : Int32.ofInt i = v) (g : G k n0 Q h cells slots pc' Ls (.int v :: St)) : G k n0 Q h cells slots pc Ls (St) := by
  obtain ⟨p, l, e, R', s, m, args, below, meth, c⟩ := k
  obtain ⟨hx, hZ, hown, rfl, rfl, rfl, rfl, hlk, rfl, hn0⟩ := K
  obtain ⟨d, rfl⟩ := d
  exact G.plain (fun T locs t X q => XT.iconstV X.here hx rfl v d hv q) g
theorem G.bipush (K : Ok k Z n0 own R bytes maxL ret nm) {i : Int} (d : Dc bytes pc (.bipush i) 2 pc') (v : Int32) (hv : (Int8.ofInt i).toInt32 = v) (g : G k n0 Q h cells slots pc' Ls (.int v :: St)) : G k n0 Q h cells slots pc Ls (St) := by
  obtain ⟨p, l, e, R', s, m, args, below, meth, c⟩ := k
  obtain ⟨hx, hZ, hown, rfl, rfl, rfl, rfl, hlk, rfl, hn0⟩ := K
  obtain ⟨d, rfl⟩ := d
  exact G.plain (fun T locs t X q => XT.bipushV X.here hx rfl v d hv q) g
theorem G.sipush (K : Ok k Z n0 own R bytes maxL ret nm) {i : Int} (d : Dc bytes pc (.sipush i) 3 pc') (v : Int32) (hv : (Int16.ofInt i).toInt32 = v) (g : G k n0 Q h cells slots pc' Ls (.int v :: St)) : G k n0 Q h cells slots pc Ls (St) := by
  obtain ⟨p, l, e, R', s, m, args, below, meth, c⟩ := k
  obtain ⟨hx, hZ, hown, rfl, rfl, rfl, rfl, hlk, rfl, hn0⟩ := K
  obtain ⟨d, rfl⟩ := d
  exact G.plain (fun T locs t X q => XT.sipushV X.here hx rfl v d hv q) g
theorem G.lconst (K : Ok k Z n0 own R bytes maxL ret nm) {i : Fin 2} (d : Dc bytes pc (.lconst i) 1 pc') (v : Int64) (hv : Int64.ofNat i = v) (g : G k n0 Q h cells slots pc' Ls (.long v :: St)) : G k n0 Q h cells slots pc Ls (St) := by
  obtain ⟨p, l, e, R', s, m, args, below, meth, c⟩ := k
  obtain ⟨hx, hZ, hown, rfl, rfl, rfl, rfl, hlk, rfl, hn0⟩ := K
  obtain ⟨d, rfl⟩ := d
  exact G.plain (fun T locs t X q => XT.lconstV X.here hx rfl v d hv q) g
theorem G.aconst_null (K : Ok k Z n0 own R bytes maxL ret nm)  (d : Dc bytes pc .aconst_null 1 pc') (g : G k n0 Q h cells slots pc' Ls (.null :: St)) : G k n0 Q h cells slots pc Ls (St) := by
  obtain ⟨p, l, e, R', s, m, args, below, meth, c⟩ := k
  obtain ⟨hx, hZ, hown, rfl, rfl, rfl, rfl, hlk, rfl, hn0⟩ := K
  obtain ⟨d, rfl⟩ := d
  exact G.plain (fun T locs t X q => XS.aconstNull X.here hx rfl d q) g
theorem G.ldcI (K : Ok k Z n0 own R bytes maxL ret nm) {v : Int32} {i : Nat} (d : Dc bytes pc (.ldc i) 2 pc') (w : (Cond.constant own i v).before a0 Z = true) (g : G k n0 Q h cells slots pc' Ls (.int v :: St)) : G k n0 Q h cells slots pc Ls (St) := by
  obtain ⟨p, l, e, R', s, m, args, below, meth, c⟩ := k
  obtain ⟨hx, hZ, hown, rfl, rfl, rfl, rfl, hlk, rfl, hn0⟩ := K
  obtain ⟨d, rfl⟩ := d
  exact G.plain (fun T locs t X q => X.ldcI hx hown (mvT hZ w) rfl d q) g
theorem G.ldcWI (K : Ok k Z n0 own R bytes maxL ret nm) {v : Int32} {i : Nat} (d : Dc bytes pc (.ldc_w i) 3 pc') (w : (Cond.constant own i v).before a0 Z = true) (g : G k n0 Q h cells slots pc' Ls (.int v :: St)) : G k n0 Q h cells slots pc Ls (St) := by
  obtain ⟨p, l, e, R', s, m, args, below, meth, c⟩ := k
  obtain ⟨hx, hZ, hown, rfl, rfl, rfl, rfl, hlk, rfl, hn0⟩ := K
  obtain ⟨d, rfl⟩ := d
  exact G.plain (fun T locs t X q => X.ldcWI hx hown (mvT hZ w) rfl d q) g
theorem G.ldc2J (K : Ok k Z n0 own R bytes maxL ret nm) {v : Int64} {i : Nat} (d : Dc bytes pc (.ldc2_w i) 3 pc') (w : (Cond.constantLong own i v).before a0 Z = true) (g : G k n0 Q h cells slots pc' Ls (.long v :: St)) : G k n0 Q h cells slots pc Ls (St) := by
  obtain ⟨p, l, e, R', s, m, args, below, meth, c⟩ := k
  obtain ⟨hx, hZ, hown, rfl, rfl, rfl, rfl, hlk, rfl, hn0⟩ := K
  obtain ⟨d, rfl⟩ := d
  exact G.plain (fun T locs t X q => X.ldc2J hx hown (mvT hZ w) rfl d q) g
theorem G.dup (K : Ok k Z n0 own R bytes maxL ret nm) {x : Value} (d : Dc bytes pc .dup 1 pc') (hv : x.category = 1) (g : G k n0 Q h cells slots pc' Ls (x :: x :: St)) : G k n0 Q h cells slots pc Ls (x :: St) := by
  obtain ⟨p, l, e, R', s, m, args, below, meth, c⟩ := k
  obtain ⟨hx, hZ, hown, rfl, rfl, rfl, rfl, hlk, rfl, hn0⟩ := K
  obtain ⟨d, rfl⟩ := d
  exact G.plain (fun T locs t X q => XS.dup X.here hx rfl d rfl hv q) g
theorem G.pop (K : Ok k Z n0 own R bytes maxL ret nm) {x : Value} (d : Dc bytes pc .pop 1 pc') (hv : x.category = 1) (g : G k n0 Q h cells slots pc' Ls (St)) : G k n0 Q h cells slots pc Ls (x :: St) := by
  obtain ⟨p, l, e, R', s, m, args, below, meth, c⟩ := k
  obtain ⟨hx, hZ, hown, rfl, rfl, rfl, rfl, hlk, rfl, hn0⟩ := K
  obtain ⟨d, rfl⟩ := d
  exact G.plain (fun T locs t X q => XT.pop X.here hx rfl d rfl hv q) g
theorem G.dup_x1 (K : Ok k Z n0 own R bytes maxL ret nm) {x y : Value} (d : Dc bytes pc .dup_x1 1 pc') (hv : x.category = 1) (hv' : y.category = 1) (g : G k n0 Q h cells slots pc' Ls (x :: y :: x :: St)) : G k n0 Q h cells slots pc Ls (x :: y :: St) := by
  obtain ⟨p, l, e, R', s, m, args, below, meth, c⟩ := k
  obtain ⟨hx, hZ, hown, rfl, rfl, rfl, rfl, hlk, rfl, hn0⟩ := K
  obtain ⟨d, rfl⟩ := d
  exact G.plain (fun T locs t X q => XT.dupX1 X.here hx rfl d rfl hv hv' q) g
theorem G.dup2 (K : Ok k Z n0 own R bytes maxL ret nm) {x y : Value} (d : Dc bytes pc .dup2 1 pc') (hv : x.category = 1) (hv' : y.category = 1) (g : G k n0 Q h cells slots pc' Ls (x :: y :: x :: y :: St)) : G k n0 Q h cells slots pc Ls (x :: y :: St) := by
  obtain ⟨p, l, e, R', s, m, args, below, meth, c⟩ := k
  obtain ⟨hx, hZ, hown, rfl, rfl, rfl, rfl, hlk, rfl, hn0⟩ := K
  obtain ⟨d, rfl⟩ := d
  exact G.plain (fun T locs t X q => XT.dup2 X.here hx rfl d rfl hv hv' q) g
theorem G.dup2L (K : Ok k Z n0 own R bytes maxL ret nm) {x : Int64} (d : Dc bytes pc .dup2 1 pc') (g : G k n0 Q h cells slots pc' Ls (.long x :: .long x :: St)) : G k n0 Q h cells slots pc Ls (.long x :: St) := by
  obtain ⟨p, l, e, R', s, m, args, below, meth, c⟩ := k
  obtain ⟨hx, hZ, hown, rfl, rfl, rfl, rfl, hlk, rfl, hn0⟩ := K
  obtain ⟨d, rfl⟩ := d
  exact G.plain (fun T locs t X q => XT.dup2L X.here hx rfl d rfl q) g
theorem G.goto (K : Ok k Z n0 own R bytes maxL ret nm) (d : Db bytes pc .goto nx tg) (g : G k n0 Q h cells slots tg Ls St) : G k n0 Q h cells slots pc Ls St := by
  obtain ⟨p, l, e, R', s, m, args, below, meth, c⟩ := k
  obtain ⟨hx, hZ, hown, rfl, rfl, rfl, rfl, hlk, rfl, hn0⟩ := K
  obtain ⟨o, d, rfl, d1, d2⟩ := d
  exact G.plain (fun T locs t X q => XS.goto X.here hx rfl rfl d d1 d2 q) g
theorem G.icmp_eq (K : Ok k Z n0 own R bytes maxL ret nm) {x y : Int32} (d : Db bytes pc (.if_icmp .eq) nx tg) (gy : x = y → G k n0 Q h cells slots tg Ls St) (gn : ¬ (x = y) → G k n0 Q h cells slots nx Ls St) : G k n0 Q h cells slots pc Ls (.int y :: .int x :: St) := by
  obtain ⟨p, l, e, R', s, m, args, below, meth, c⟩ := k
  obtain ⟨hx, hZ, hown, rfl, rfl, rfl, rfl, hlk, rfl, hn0⟩ := K
  obtain ⟨o, d, rfl, d1, d2⟩ := d
  by_cases q : x = y
  · exact G.plain (fun T locs t X z => XS.icmpYes X.here hx rfl rfl d rfl (XT.ii_eq_t q) d1 d2 z) (gy q)
  · exact G.plain (fun T locs t X z => XS.icmpNo X.here hx rfl d rfl (XT.ii_eq_f q) z) (gn q)
theorem G.if_eq (K : Ok k Z n0 own R bytes maxL ret nm) {x : Int32} (d : Db bytes pc (.ifCond .eq) nx tg) (gy : x = 0 → G k n0 Q h cells slots tg Ls St) (gn : ¬ (x = 0) → G k n0 Q h cells slots nx Ls St) : G k n0 Q h cells slots pc Ls (.int x :: St) := by
  obtain ⟨p, l, e, R', s, m, args, below, meth, c⟩ := k
  obtain ⟨hx, hZ, hown, rfl, rfl, rfl, rfl, hlk, rfl, hn0⟩ := K
  obtain ⟨o, d, rfl, d1, d2⟩ := d
  by_cases q : x = 0
  · exact G.plain (fun T locs t X z => XS.ifYes X.here hx rfl rfl d rfl (XT.i0_eq_t q) d1 d2 z) (gy q)
  · exact G.plain (fun T locs t X z => XS.ifNo X.here hx rfl d rfl (XT.i0_eq_f q) z) (gn q)
theorem G.lcmp_eq (K : Ok k Z n0 own R bytes maxL ret nm) {x y : Int64} {pd : Nat} (dl : Dc bytes pc .lcmp 1 pd) (d : Db bytes pd (.ifCond .eq) nx tg) (gy : x = y → G k n0 Q h cells slots tg Ls St) (gn : ¬ (x = y) → G k n0 Q h cells slots nx Ls St) : G k n0 Q h cells slots pc Ls (.long y :: .long x :: St) := by
  obtain ⟨p, l, e, R', s, m, args, below, meth, c⟩ := k
  obtain ⟨hx, hZ, hown, rfl, rfl, rfl, rfl, hlk, rfl, hn0⟩ := K
  obtain ⟨dl, rfl⟩ := dl
  obtain ⟨o, d, rfl, d1, d2⟩ := d
  by_cases q : x = y
  · exact G.plain (fun T locs t X z => XT.lcmp X.here hx rfl dl rfl (XS.ifYes X.here hx rfl rfl d rfl (XT.ll_eq_t q) d1 d2 z)) (gy q)
  · exact G.plain (fun T locs t X z => XT.lcmp X.here hx rfl dl rfl (XS.ifNo X.here hx rfl d rfl (XT.ll_eq_f q) z)) (gn q)
theorem G.icmp_ne (K : Ok k Z n0 own R bytes maxL ret nm) {x y : Int32} (d : Db bytes pc (.if_icmp .ne) nx tg) (gy : ¬ (x = y) → G k n0 Q h cells slots tg Ls St) (gn : x = y → G k n0 Q h cells slots nx Ls St) : G k n0 Q h cells slots pc Ls (.int y :: .int x :: St) := by
  obtain ⟨p, l, e, R', s, m, args, below, meth, c⟩ := k
  obtain ⟨hx, hZ, hown, rfl, rfl, rfl, rfl, hlk, rfl, hn0⟩ := K
  obtain ⟨o, d, rfl, d1, d2⟩ := d
  by_cases q : x = y
  · exact G.plain (fun T locs t X z => XS.icmpNo X.here hx rfl d rfl (XT.ii_ne_f q) z) (gn q)
  · exact G.plain (fun T locs t X z => XS.icmpYes X.here hx rfl rfl d rfl (XT.ii_ne_t q) d1 d2 z) (gy q)
theorem G.if_ne (K : Ok k Z n0 own R bytes maxL ret nm) {x : Int32} (d : Db bytes pc (.ifCond .ne) nx tg) (gy : ¬ (x = 0) → G k n0 Q h cells slots tg Ls St) (gn : x = 0 → G k n0 Q h cells slots nx Ls St) : G k n0 Q h cells slots pc Ls (.int x :: St) := by
  obtain ⟨p, l, e, R', s, m, args, below, meth, c⟩ := k
  obtain ⟨hx, hZ, hown, rfl, rfl, rfl, rfl, hlk, rfl, hn0⟩ := K
  obtain ⟨o, d, rfl, d1, d2⟩ := d
  by_cases q : x = 0
  · exact G.plain (fun T locs t X z => XS.ifNo X.here hx rfl d rfl (XT.i0_ne_f q) z) (gn q)
  · exact G.plain (fun T locs t X z => XS.ifYes X.here hx rfl rfl d rfl (XT.i0_ne_t q) d1 d2 z) (gy q)
theorem G.lcmp_ne (K : Ok k Z n0 own R bytes maxL ret nm) {x y : Int64} {pd : Nat} (dl : Dc bytes pc .lcmp 1 pd) (d : Db bytes pd (.ifCond .ne) nx tg) (gy : ¬ (x = y) → G k n0 Q h cells slots tg Ls St) (gn : x = y → G k n0 Q h cells slots nx Ls St) : G k n0 Q h cells slots pc Ls (.long y :: .long x :: St) := by
  obtain ⟨p, l, e, R', s, m, args, below, meth, c⟩ := k
  obtain ⟨hx, hZ, hown, rfl, rfl, rfl, rfl, hlk, rfl, hn0⟩ := K
  obtain ⟨dl, rfl⟩ := dl
  obtain ⟨o, d, rfl, d1, d2⟩ := d
  by_cases q : x = y
  · exact G.plain (fun T locs t X z => XT.lcmp X.here hx rfl dl rfl (XS.ifNo X.here hx rfl d rfl (XT.ll_ne_f q) z)) (gn q)
  · exact G.plain (fun T locs t X z => XT.lcmp X.here hx rfl dl rfl (XS.ifYes X.here hx rfl rfl d rfl (XT.ll_ne_t q) d1 d2 z)) (gy q)
theorem G.icmp_lt (K : Ok k Z n0 own R bytes maxL ret nm) {x y : Int32} (d : Db bytes pc (.if_icmp .lt) nx tg) (gy : x < y → G k n0 Q h cells slots tg Ls St) (gn : ¬ (x < y) → G k n0 Q h cells slots nx Ls St) : G k n0 Q h cells slots pc Ls (.int y :: .int x :: St) := by
  obtain ⟨p, l, e, R', s, m, args, below, meth, c⟩ := k
  obtain ⟨hx, hZ, hown, rfl, rfl, rfl, rfl, hlk, rfl, hn0⟩ := K
  obtain ⟨o, d, rfl, d1, d2⟩ := d
  by_cases q : x < y
  · exact G.plain (fun T locs t X z => XS.icmpYes X.here hx rfl rfl d rfl (XT.ii_lt_t q) d1 d2 z) (gy q)
  · exact G.plain (fun T locs t X z => XS.icmpNo X.here hx rfl d rfl (XT.ii_lt_f q) z) (gn q)
theorem G.if_lt (K : Ok k Z n0 own R bytes maxL ret nm) {x : Int32} (d : Db bytes pc (.ifCond .lt) nx tg) (gy : x < 0 → G k n0 Q h cells slots tg Ls St) (gn : ¬ (x < 0) → G k n0 Q h cells slots nx Ls St) : G k n0 Q h cells slots pc Ls (.int x :: St) := by
  obtain ⟨p, l, e, R', s, m, args, below, meth, c⟩ := k
  obtain ⟨hx, hZ, hown, rfl, rfl, rfl, rfl, hlk, rfl, hn0⟩ := K
  obtain ⟨o, d, rfl, d1, d2⟩ := d
  by_cases q : x < 0
  · exact G.plain (fun T locs t X z => XS.ifYes X.here hx rfl rfl d rfl (XT.i0_lt_t q) d1 d2 z) (gy q)
  · exact G.plain (fun T locs t X z => XS.ifNo X.here hx rfl d rfl (XT.i0_lt_f q) z) (gn q)
theorem G.lcmp_lt (K : Ok k Z n0 own R bytes maxL ret nm) {x y : Int64} {pd : Nat} (dl : Dc bytes pc .lcmp 1 pd) (d : Db bytes pd (.ifCond .lt) nx tg) (gy : x < y → G k n0 Q h cells slots tg Ls St) (gn : ¬ (x < y) → G k n0 Q h cells slots nx Ls St) : G k n0 Q h cells slots pc Ls (.long y :: .long x :: St) := by
  obtain ⟨p, l, e, R', s, m, args, below, meth, c⟩ := k
  obtain ⟨hx, hZ, hown, rfl, rfl, rfl, rfl, hlk, rfl, hn0⟩ := K
  obtain ⟨dl, rfl⟩ := dl
  obtain ⟨o, d, rfl, d1, d2⟩ := d
  by_cases q : x < y
  · exact G.plain (fun T locs t X z => XT.lcmp X.here hx rfl dl rfl (XS.ifYes X.here hx rfl rfl d rfl (XT.ll_lt_t q) d1 d2 z)) (gy q)
  · exact G.plain (fun T locs t X z => XT.lcmp X.here hx rfl dl rfl (XS.ifNo X.here hx rfl d rfl (XT.ll_lt_f q) z)) (gn q)
theorem G.icmp_ge (K : Ok k Z n0 own R bytes maxL ret nm) {x y : Int32} (d : Db bytes pc (.if_icmp .ge) nx tg) (gy : ¬ (x < y) → G k n0 Q h cells slots tg Ls St) (gn : x < y → G k n0 Q h cells slots nx Ls St) : G k n0 Q h cells slots pc Ls (.int y :: .int x :: St) := by
  obtain ⟨p, l, e, R', s, m, args, below, meth, c⟩ := k
  obtain ⟨hx, hZ, hown, rfl, rfl, rfl, rfl, hlk, rfl, hn0⟩ := K
  obtain ⟨o, d, rfl, d1, d2⟩ := d
  by_cases q : x < y
  · exact G.plain (fun T locs t X z => XS.icmpNo X.here hx rfl d rfl (XT.ii_ge_f q) z) (gn q)
  · exact G.plain (fun T locs t X z => XS.icmpYes X.here hx rfl rfl d rfl (XT.ii_ge_t q) d1 d2 z) (gy q)
theorem G.if_ge (K : Ok k Z n0 own R bytes maxL ret nm) {x : Int32} (d : Db bytes pc (.ifCond .ge) nx tg) (gy : ¬ (x < 0) → G k n0 Q h cells slots tg Ls St) (gn : x < 0 → G k n0 Q h cells slots nx Ls St) : G k n0 Q h cells slots pc Ls (.int x :: St) := by
  obtain ⟨p, l, e, R', s, m, args, below, meth, c⟩ := k
  obtain ⟨hx, hZ, hown, rfl, rfl, rfl, rfl, hlk, rfl, hn0⟩ := K
  obtain ⟨o, d, rfl, d1, d2⟩ := d
  by_cases q : x < 0
  · exact G.plain (fun T locs t X z => XS.ifNo X.here hx rfl d rfl (XT.i0_ge_f q) z) (gn q)
  · exact G.plain (fun T locs t X z => XS.ifYes X.here hx rfl rfl d rfl (XT.i0_ge_t q) d1 d2 z) (gy q)
theorem G.lcmp_ge (K : Ok k Z n0 own R bytes maxL ret nm) {x y : Int64} {pd : Nat} (dl : Dc bytes pc .lcmp 1 pd) (d : Db bytes pd (.ifCond .ge) nx tg) (gy : ¬ (x < y) → G k n0 Q h cells slots tg Ls St) (gn : x < y → G k n0 Q h cells slots nx Ls St) : G k n0 Q h cells slots pc Ls (.long y :: .long x :: St) := by
  obtain ⟨p, l, e, R', s, m, args, below, meth, c⟩ := k
  obtain ⟨hx, hZ, hown, rfl, rfl, rfl, rfl, hlk, rfl, hn0⟩ := K
  obtain ⟨dl, rfl⟩ := dl
  obtain ⟨o, d, rfl, d1, d2⟩ := d
  by_cases q : x < y
  · exact G.plain (fun T locs t X z => XT.lcmp X.here hx rfl dl rfl (XS.ifNo X.here hx rfl d rfl (XT.ll_ge_f q) z)) (gn q)
  · exact G.plain (fun T locs t X z => XT.lcmp X.here hx rfl dl rfl (XS.ifYes X.here hx rfl rfl d rfl (XT.ll_ge_t q) d1 d2 z)) (gy q)
theorem G.icmp_gt (K : Ok k Z n0 own R bytes maxL ret nm) {x y : Int32} (d : Db bytes pc (.if_icmp .gt) nx tg) (gy : y < x → G k n0 Q h cells slots tg Ls St) (gn : ¬ (y < x) → G k n0 Q h cells slots nx Ls St) : G k n0 Q h cells slots pc Ls (.int y :: .int x :: St) := by
  obtain ⟨p, l, e, R', s, m, args, below, meth, c⟩ := k
  obtain ⟨hx, hZ, hown, rfl, rfl, rfl, rfl, hlk, rfl, hn0⟩ := K
  obtain ⟨o, d, rfl, d1, d2⟩ := d
  by_cases q : y < x
  · exact G.plain (fun T locs t X z => XS.icmpYes X.here hx rfl rfl d rfl (XT.ii_gt_t q) d1 d2 z) (gy q)
  · exact G.plain (fun T locs t X z => XS.icmpNo X.here hx rfl d rfl (XT.ii_gt_f q) z) (gn q)
theorem G.if_gt (K : Ok k Z n0 own R bytes maxL ret nm) {x : Int32} (d : Db bytes pc (.ifCond .gt) nx tg) (gy : 0 < x → G k n0 Q h cells slots tg Ls St) (gn : ¬ (0 < x) → G k n0 Q h cells slots nx Ls St) : G k n0 Q h cells slots pc Ls (.int x :: St) := by
  obtain ⟨p, l, e, R', s, m, args, below, meth, c⟩ := k
  obtain ⟨hx, hZ, hown, rfl, rfl, rfl, rfl, hlk, rfl, hn0⟩ := K
  obtain ⟨o, d, rfl, d1, d2⟩ := d
  by_cases q : 0 < x
  · exact G.plain (fun T locs t X z => XS.ifYes X.here hx rfl rfl d rfl (XT.i0_gt_t q) d1 d2 z) (gy q)
  · exact G.plain (fun T locs t X z => XS.ifNo X.here hx rfl d rfl (XT.i0_gt_f q) z) (gn q)
theorem G.lcmp_gt (K : Ok k Z n0 own R bytes maxL ret nm) {x y : Int64} {pd : Nat} (dl : Dc bytes pc .lcmp 1 pd) (d : Db bytes pd (.ifCond .gt) nx tg) (gy : y < x → G k n0 Q h cells slots tg Ls St) (gn : ¬ (y < x) → G k n0 Q h cells slots nx Ls St) : G k n0 Q h cells slots pc Ls (.long y :: .long x :: St) := by
  obtain ⟨p, l, e, R', s, m, args, below, meth, c⟩ := k
  obtain ⟨hx, hZ, hown, rfl, rfl, rfl, rfl, hlk, rfl, hn0⟩ := K
  obtain ⟨dl, rfl⟩ := dl
  obtain ⟨o, d, rfl, d1, d2⟩ := d
  by_cases q : y < x
  · exact G.plain (fun T locs t X z => XT.lcmp X.here hx rfl dl rfl (XS.ifYes X.here hx rfl rfl d rfl (XT.ll_gt_t q) d1 d2 z)) (gy q)
  · exact G.plain (fun T locs t X z => XT.lcmp X.here hx rfl dl rfl (XS.ifNo X.here hx rfl d rfl (XT.ll_gt_f q) z)) (gn q)
theorem G.icmp_le (K : Ok k Z n0 own R bytes maxL ret nm) {x y : Int32} (d : Db bytes pc (.if_icmp .le) nx tg) (gy : ¬ (y < x) → G k n0 Q h cells slots tg Ls St) (gn : y < x → G k n0 Q h cells slots nx Ls St) : G k n0 Q h cells slots pc Ls (.int y :: .int x :: St) := by
  obtain ⟨p, l, e, R', s, m, args, below, meth, c⟩ := k
  obtain ⟨hx, hZ, hown, rfl, rfl, rfl, rfl, hlk, rfl, hn0⟩ := K
  obtain ⟨o, d, rfl, d1, d2⟩ := d
  by_cases q : y < x
  · exact G.plain (fun T locs t X z => XS.icmpNo X.here hx rfl d rfl (XT.ii_le_f q) z) (gn q)
  · exact G.plain (fun T locs t X z => XS.icmpYes X.here hx rfl rfl d rfl (XT.ii_le_t q) d1 d2 z) (gy q)
theorem G.if_le (K : Ok k Z n0 own R bytes maxL ret nm) {x : Int32} (d : Db bytes pc (.ifCond .le) nx tg) (gy : ¬ (0 < x) → G k n0 Q h cells slots tg Ls St) (gn : 0 < x → G k n0 Q h cells slots nx Ls St) : G k n0 Q h cells slots pc Ls (.int x :: St) := by
  obtain ⟨p, l, e, R', s, m, args, below, meth, c⟩ := k
  obtain ⟨hx, hZ, hown, rfl, rfl, rfl, rfl, hlk, rfl, hn0⟩ := K
  obtain ⟨o, d, rfl, d1, d2⟩ := d
  by_cases q : 0 < x
  · exact G.plain (fun T locs t X z => XS.ifNo X.here hx rfl d rfl (XT.i0_le_f q) z) (gn q)
  · exact G.plain (fun T locs t X z => XS.ifYes X.here hx rfl rfl d rfl (XT.i0_le_t q) d1 d2 z) (gy q)
theorem G.lcmp_le (K : Ok k Z n0 own R bytes maxL ret nm) {x y : Int64} {pd : Nat} (dl : Dc bytes pc .lcmp 1 pd) (d : Db bytes pd (.ifCond .le) nx tg) (gy : ¬ (y < x) → G k n0 Q h cells slots tg Ls St) (gn : y < x → G k n0 Q h cells slots nx Ls St) : G k n0 Q h cells slots pc Ls (.long y :: .long x :: St) := by
  obtain ⟨p, l, e, R', s, m, args, below, meth, c⟩ := k
  obtain ⟨hx, hZ, hown, rfl, rfl, rfl, rfl, hlk, rfl, hn0⟩ := K
  obtain ⟨dl, rfl⟩ := dl
  obtain ⟨o, d, rfl, d1, d2⟩ := d
  by_cases q : y < x
  · exact G.plain (fun T locs t X z => XT.lcmp X.here hx rfl dl rfl (XS.ifNo X.here hx rfl d rfl (XT.ll_le_f q) z)) (gn q)
  · exact G.plain (fun T locs t X z => XT.lcmp X.here hx rfl dl rfl (XS.ifYes X.here hx rfl rfl d rfl (XT.ll_le_t q) d1 d2 z)) (gy q)
theorem G.ifnull_ref (K : Ok k Z n0 own R bytes maxL ret nm) {a : Addr} (d : Db bytes pc .ifnull nx tg) (g : G k n0 Q h cells slots nx Ls St) : G k n0 Q h cells slots pc Ls (.ref a :: St) := by
  obtain ⟨p, l, e, R', s, m, args, below, meth, c⟩ := k
  obtain ⟨hx, hZ, hown, rfl, rfl, rfl, rfl, hlk, rfl, hn0⟩ := K
  obtain ⟨o, d, rfl, d1, d2⟩ := d
  exact G.plain (fun T locs t X q => XS.ifnullNo X.here hx rfl d rfl q) g
theorem G.ifnonnull_ref (K : Ok k Z n0 own R bytes maxL ret nm) {a : Addr} (d : Db bytes pc .ifnonnull nx tg) (g : G k n0 Q h cells slots tg Ls St) : G k n0 Q h cells slots pc Ls (.ref a :: St) := by
  obtain ⟨p, l, e, R', s, m, args, below, meth, c⟩ := k
  obtain ⟨hx, hZ, hown, rfl, rfl, rfl, rfl, hlk, rfl, hn0⟩ := K
  obtain ⟨o, d, rfl, d1, d2⟩ := d
  exact G.plain (fun T locs t X q => XT.ifnonnullYes X.here hx rfl rfl d rfl d1 d2 q) g
theorem G.acmp_ne (K : Ok k Z n0 own R bytes maxL ret nm) {x y : Value} (hx' : x.isRef = true) (hy' : y.isRef = true) (d : Db bytes pc (.if_acmp .ne) nx tg) (gy : ¬ x = y → G k n0 Q h cells slots tg Ls St) (gn : x = y → G k n0 Q h cells slots nx Ls St) : G k n0 Q h cells slots pc Ls (y :: x :: St) := by
  obtain ⟨p, l, e, R', s, m, args, below, meth, c⟩ := k
  obtain ⟨hx, hZ, hown, rfl, rfl, rfl, rfl, hlk, rfl, hn0⟩ := K
  obtain ⟨o, d, rfl, d1, d2⟩ := d
  by_cases q : x = y
  · exact G.plain (fun T locs t X z => XT.acmpNo X.here hx rfl d rfl hx' hy' (XT.aa_ne_f q) z) (gn q)
  · exact G.plain (fun T locs t X z => XT.acmpYes X.here hx rfl rfl d rfl hx' hy' (XT.aa_ne_t q) d1 d2 z) (gy q)
/-- the end -/
theorem G.leave {p : Program} {l : Launch} {e : Env} {R : Room} {s : State} {m : MethodId} {args : Array Value} {below : List Frame} {meth : Method} {c : Code} (hlk : meth.locks = false) (v : Option Value) (hv : meth.sig.returnType = none → v = none) (hq : Q v h)
    (st : ∀ T locs fs, Stand p l e R s m args below meth c T locs cells slots → (∀ (f : JFrame) (acts : List Action), f.method = m → f.locked = none → f.entered = [] → (doReturn e (T.setTop f) acts v).1 = T.setFrames fs) → Steps p.tables e below (T.setTop (mkF m pc ⟨Ls⟩ St)) (T.setFrames fs)) :
    G (p, l, e, R, s, m, args, below, meth, c) n0 Q h cells slots pc Ls St := by
  intro hc hs T locs X eT N
  obtain ⟨fs, hr, hrun, hended, hW, hsame⟩ := X.leave (v := v) hv hlk
  exact ⟨_, _, st T locs fs X hr, hrun, hended, v, locs, rfl, ⟨by show Q v T.heap; rw [eT]; exact hq, N⟩, ⟨_, rfl⟩, hW, hsame.mono hc hs⟩
theorem G.ret_int (K : Ok k Z n0 own R bytes maxL (some .int) nm) {x : Int32} (d : Dc bytes pc .ireturn 1 pc') (hq : Q (some (.int x)) h) : G k n0 Q h cells slots pc Ls (.int x :: St) := by
  obtain ⟨p, l, e, R', s, m, args, below, meth, c⟩ := k
  obtain ⟨hx, hZ, hown, rfl, rfl, rfl, hr0, hlk, rfl, hn0⟩ := K
  obtain ⟨d, rfl⟩ := d
  exact G.leave hlk (some (.int x)) (fun q => by rw [hr0] at q; cases q) hq (fun T locs fs X hr => retOut X hx hr0 rfl (Or.inl ⟨rfl, Or.inl rfl, x, rfl⟩) d hr)
theorem G.ret_bool (K : Ok k Z n0 own R bytes maxL (some .boolean) nm) {x : Int32} (d : Dc bytes pc .ireturn 1 pc') (hq : Q (some (.int (x &&& 1))) h) : G k n0 Q h cells slots pc Ls (.int x :: St) := by
  obtain ⟨p, l, e, R', s, m, args, below, meth, c⟩ := k
  obtain ⟨hx, hZ, hown, rfl, rfl, rfl, hr0, hlk, rfl, hn0⟩ := K
  obtain ⟨d, rfl⟩ := d
  exact G.leave hlk (some (.int (x &&& 1))) (fun q => by rw [hr0] at q; cases q) hq (fun T locs fs X hr => retN X hx (t := .boolean) hr0 (by simp) d hr)
theorem G.ret_long (K : Ok k Z n0 own R bytes maxL (some .long) nm) {x : Int64} (d : Dc bytes pc .lreturn 1 pc') (hq : Q (some (.long x)) h) : G k n0 Q h cells slots pc Ls (.long x :: St) := by
  obtain ⟨p, l, e, R', s, m, args, below, meth, c⟩ := k
  obtain ⟨hx, hZ, hown, rfl, rfl, rfl, hr0, hlk, rfl, hn0⟩ := K
  obtain ⟨d, rfl⟩ := d
  exact G.leave hlk (some (.long x)) (fun q => by rw [hr0] at q; cases q) hq (fun T locs fs X hr => retOut X hx hr0 rfl (Or.inr (Or.inl ⟨rfl, rfl, x, rfl⟩)) d hr)
theorem G.ret_ref {t : FieldType} (K : Ok k Z n0 own R bytes maxL (some t) nm) (ht : t.isReference = true) {x : Value} (hv : x.isRef = true) (d : Dc bytes pc .areturn 1 pc') (hq : Q (some x) h) : G k n0 Q h cells slots pc Ls (x :: St) := by
  obtain ⟨p, l, e, R', s, m, args, below, meth, c⟩ := k
  obtain ⟨hx, hZ, hown, rfl, rfl, rfl, hr0, hlk, rfl, hn0⟩ := K
  obtain ⟨d, rfl⟩ := d
  have hn : narrow t x = x := by rcases ref_cases hv with rfl | ⟨a, rfl⟩ <;> cases t <;> rfl
  exact G.leave hlk (some x) (fun q => by rw [hr0] at q; cases q) hq (fun T locs fs X hr => retOut X hx hr0 hn (Or.inr (Or.inr (Or.inr (Or.inr ⟨rfl, ht, hv⟩)))) d hr)
theorem G.ret_void (K : Ok k Z n0 own R bytes maxL none nm) (d : Dc bytes pc .return_ 1 pc') (hq : Q none h) : G k n0 Q h cells slots pc Ls [] := by
  obtain ⟨p, l, e, R', s, m, args, below, meth, c⟩ := k
  obtain ⟨hx, hZ, hown, rfl, rfl, rfl, hr0, hlk, rfl, hn0⟩ := K
  obtain ⟨d, rfl⟩ := d
  exact G.leave hlk none (fun q => rfl) hq (fun T locs fs X hr => X.returnOut hx hr0 d hr)
/-! ### what is known of the heap: one word a cell that the law has made -/
theorem nd_inj {α : Type} {L : List α} (H : L.Nodup) {i j : Nat} {x : α} (hi : L[i]? = some x) (hj : L[j]? = some x) : i = j := by
  obtain ⟨h1, e1⟩ := List.getElem?_eq_some_iff.mp hi
  obtain ⟨h2, e2⟩ := List.getElem?_eq_some_iff.mp hj
  have w := List.pairwise_iff_getElem.mp H
  rcases Nat.lt_trichotomy i j with q | q | q
  · exact absurd (e1.trans e2.symm) (w i j h1 h2 q)
  · exact q
  · exact absurd (e2.trans e1.symm) (w j i h2 h1 q)
abbrev Ch := Addr × (Cell → Prop)
def Hp (n0 : Nat) (h : Heap) (σ : List Ch) : Prop := (σ.map Prod.fst).Nodup ∧ ∀ q ∈ σ, n0 ≤ q.1 ∧ ∃ cell, h[q.1]? = some cell ∧ q.2 cell
variable {σ : List Ch} {a : Addr} {P P' : Cell → Prop} {i : Nat} {h' : Heap}
theorem Hp.nil : Hp n0 h [] := ⟨List.nodup_nil, fun _ q => nomatch q⟩
theorem Hp.at (H : Hp n0 h σ) (hi : σ[i]? = some (a, P)) : n0 ≤ a ∧ ∃ cell, h[a]? = some cell ∧ P cell := H.2 _ (List.mem_of_getElem? hi)
theorem Hp.ge (H : Hp n0 h σ) (hi : σ[i]? = some (a, P)) : n0 ≤ a := (H.at hi).1
theorem Hp.lt (H : Hp n0 h σ) (q : Ch) (hq : q ∈ σ) : q.1 < h.size := by
  obtain ⟨-, cell, h1, -⟩ := H.2 _ hq
  exact (Array.getElem?_eq_some_iff.mp h1).1
theorem Hp.ne (H : Hp n0 h σ) {j : Nat} {b : Addr} {P' : Cell → Prop} (hi : σ[i]? = some (a, P)) (hj : σ[j]? = some (b, P')) (q : i ≠ j) : a ≠ b := by
  intro e
  subst e
  exact q (nd_inj H.1 (x := a) (by simp [hi]) (by simp [hj]))
theorem Hp.ext (H : Hp n0 h σ) (E : Ext h h') : Hp n0 h' σ := ⟨H.1, fun q hq => by obtain ⟨h1, c, h2, h3⟩ := H.2 q hq; exact ⟨h1, c, E.2 _ _ h2, h3⟩⟩
theorem Hp.cons (H : Hp n0 h σ) (E : Ext h h') (hn : n0 ≤ h.size) (w : ∃ cell, h'[h.size]? = some cell ∧ P cell) : Hp n0 h' ((h.size, P) :: σ) := by
  refine ⟨?_, fun q hq => ?_⟩
  · rw [List.map_cons, List.nodup_cons]
    refine ⟨fun q => ?_, H.1⟩
    obtain ⟨x, hx, e⟩ := List.mem_map.mp q
    have := H.lt x hx
    rw [e] at this
    exact absurd this (Nat.lt_irrefl _)
  · rcases List.mem_cons.mp hq with rfl | hq
    · exact ⟨hn, w⟩
    · exact (H.ext E).2 q hq
theorem Hp.drop {x : Ch} (H : Hp n0 h (x :: σ)) : Hp n0 h σ := ⟨(List.nodup_cons.mp H.1).2, fun q hq => H.2 q (List.mem_cons_of_mem _ hq)⟩
theorem Hp.sub {σ' : List Ch} (H : Hp n0 h σ) (q : σ'.Sublist σ) : Hp n0 h σ' := ⟨List.Nodup.sublist (q.map _) H.1, fun x hx => H.2 x (q.subset hx)⟩
theorem Hp.perm {σ' : List Ch} (H : Hp n0 h σ) (q : σ'.Perm σ) : Hp n0 h σ' := ⟨(List.Perm.nodup_iff (q.map Prod.fst)).mpr H.1, fun x hx => H.2 x (q.mem_iff.mp hx)⟩
theorem perm_pull : ∀ {i : Nat} {σ : List Ch} {x : Ch}, σ[i]? = some x → (x :: σ.eraseIdx i).Perm σ
  | 0, y :: σ, x, e => by cases Option.some.inj e; exact List.Perm.refl _
  | i + 1, y :: σ, x, e => ((List.Perm.swap y x _).trans ((perm_pull (i := i) (σ := σ) e).cons y))
theorem Hp.pull (H : Hp n0 h σ) (i : Nat) {x : Ch} (hi : σ[i]? = some x) : Hp n0 h (x :: σ.eraseIdx i) := H.perm (perm_pull hi)
theorem Hp.set (H : Hp n0 h σ) (hi : σ[i]? = some (a, P)) (hs : h'.size = h.size) (ho : ∀ b, b ≠ a → h'[b]? = h[b]?) (w : ∃ cell, h'[a]? = some cell ∧ P' cell) : Hp n0 h' (σ.set i (a, P')) := by
  obtain ⟨hlt, e1⟩ := List.getElem?_eq_some_iff.mp hi
  have em : (σ.set i (a, P')).map Prod.fst = σ.map Prod.fst := by
    apply List.ext_getElem?
    intro j
    by_cases q : i = j
    · subst q; simp [hlt, e1]
    · simp [List.getElem?_set_ne q]
  refine ⟨by rw [em]; exact H.1, fun q hq => ?_⟩
  obtain ⟨j, hj, e⟩ := List.getElem_of_mem hq
  rw [List.getElem_set] at e
  rw [List.length_set] at hj
  by_cases z : i = j
  · rw [if_pos z] at e; subst e; exact ⟨H.ge hi, w⟩
  · rw [if_neg z] at e
    have hj' : σ[j]? = some (q.1, q.2) := by rw [List.getElem?_eq_getElem hj, e]
    have hne : q.1 ≠ a := H.ne hj' hi (Ne.symm z)
    obtain ⟨h1, c, h2, h3⟩ := H.at hj'
    exact ⟨h1, c, by rw [ho _ hne]; exact h2, h3⟩
theorem Hp.wr {sl : Nat} {v : Value} (H : Hp n0 h σ) (hi : σ[i]? = some (a, P)) (W : Wr h h' a sl v) (hP : ∀ cell, P cell → P' (cell.setSlot sl v)) : Hp n0 h' (σ.set i (a, P')) := by
  obtain ⟨cell, h1, h2, h3, rfl⟩ := W
  obtain ⟨-, c', h4, h5⟩ := H.at hi
  cases h1.symm.trans h4
  refine H.set hi (by simp) (fun b hb => Array.getElem?_setIfInBounds_ne (Ne.symm hb)) ⟨_, Array.getElem?_setIfInBounds_self_of_lt (Array.getElem?_eq_some_iff.mp h1).1, hP _ h5⟩
theorem Hp.imp (H : Hp n0 h σ) (hi : σ[i]? = some (a, P)) (hP : ∀ cell, P cell → P' cell) : Hp n0 h (σ.set i (a, P')) := by
  obtain ⟨-, c, h1, h2⟩ := H.at hi
  exact H.set hi rfl (fun _ _ => rfl) ⟨c, h1, hP c h2⟩
/-- an object, its class, the fields that are spoken of and what they hold -/
def Ob (Z : State) (C : String) (NS : List (String × String × String)) (vs : List Value) (cell : Cell) : Prop :=
  (∃ k, Z.vm.findClass C = some cell.cls ∧ Z.vm.classes[cell.cls]? = some k ∧ cell.vm.isStatics = false ∧ (k.kind = .ordinary → cell.slots.size = k.instanceTypes.size)) ∧
  ∀ (j : Nat) (f : String × String × String) (v : Value), NS[j]? = some f → vs[j]? = some v → ∃ (cf : ClassId) (k : Class) (i : Nat) (fd : Field), Z.fieldFound? f.1 f.2.1 f.2.2 = some (cf, k, i, fd) ∧ fd.isStatic = false ∧ cell.vm ≠ .unknown ∧ Z.vm.assignable cell.cls cf = true ∧ cell.slots[fd.slot]? = some v
/-- what the sheet says of a class's fields -/
def Cf (Z : State) (a0 : Array Value) (C : String) (NS : List (String × String × String)) : Prop := (∀ f ∈ NS, Laid Z a0 C f.1 f.2.1 f.2.2) ∧ (NS.map fun f => f.2.1).Nodup ∧ ∀ f ∈ NS, ∃ t, parseFieldDescriptor f.2.2 = some t
variable {C O n ds : String} {NS : List (String × String × String)} {vs : List Value} {j : Nat} {v w : Value}
theorem Hp.exa (H : Hp n0 h σ) (hi : σ[i]? = some (a, Ob Z C NS vs)) : Exa Z h a C := by
  obtain ⟨-, cell, h1, ⟨k, h2, h3, h4, h5⟩, -⟩ := H.at hi
  exact ⟨cell, k, h1, h2, h3, h4, h5⟩
theorem Hp.fld (H : Hp n0 h σ) (hi : σ[i]? = some (a, Ob Z C NS vs)) (hj : NS[j]? = some (O, n, ds)) (hv : vs[j]? = some v) : Fld Z h a O n ds v := by
  obtain ⟨-, cell, h1, ⟨k, h2, h3, h4, h5⟩, h6⟩ := H.at hi
  obtain ⟨cf, k, i, fd, q1, q2, q3, q4, q5⟩ := h6 j _ _ hj hv
  exact ⟨cell, cf, k, i, fd, h1, q1, q2, q3, h4, q4, q5⟩
theorem Ob.set (F : Cf Z a0 C NS) (hj : NS[j]? = some (O, n, ds)) (hv : vs[j]? = some v) (w : Value) {cell : Cell} (B : Ob Z C NS vs cell) : Ob Z C NS (vs.set j w) (cell.setSlot (RoadKit.slotOf Z O n ds) w) := by
  obtain ⟨⟨k, h2, h3, h4, h5⟩, h6⟩ := B
  refine ⟨⟨k, h2, h3, h4, fun q => by rw [sz_set]; exact h5 q⟩, fun j' f v' hf hv' => ?_⟩
  obtain ⟨cf, kk, ii, fd, q1, q2, q3, q4, q5⟩ := h6 j _ _ hj hv
  have es : RoadKit.slotOf Z O n ds = fd.slot := by simp [RoadKit.slotOf, q1]
  by_cases z : j = j'
  · subst z
    cases hj.symm.trans hf
    have hl := (List.getElem?_eq_some_iff.mp hv).1
    rw [List.getElem?_set_self hl] at hv'
    cases hv'
    refine ⟨cf, kk, ii, fd, q1, q2, q3, q4, ?_⟩
    rw [es]
    exact Array.getElem?_setIfInBounds_self_of_lt (Array.getElem?_eq_some_iff.mp q5).1
  · rw [List.getElem?_set_ne z] at hv'
    obtain ⟨cf', kk', ii', fd', r1, r2, r3, r4, r5⟩ := h6 j' _ _ hf hv'
    refine ⟨cf', kk', ii', fd', r1, r2, r3, r4, ?_⟩
    have es' : RoadKit.slotOf Z f.1 f.2.1 f.2.2 = fd'.slot := by simp [RoadKit.slotOf, r1]
    have m1 := List.mem_of_getElem? hj
    have m2 := List.mem_of_getElem? hf
    have hne : n ≠ f.2.1 := by
      intro e
      exact z (nd_inj F.2.1 (x := n) (by simp [hj]) (by simp [hf, e]))
    obtain ⟨t1, p1⟩ := F.2.2 _ m1
    obtain ⟨t2, p2⟩ := F.2.2 _ m2
    have := RoadKit.slot_ne (F.1 _ m1) (F.1 _ m2) hne p1 p2
    rw [es'] at this
    show (Array.setIfInBounds _ _ _)[_]? = _
    rw [Array.getElem?_setIfInBounds_ne this]
    exact r5
theorem G.getF (K : Ok k Z n0 own R bytes maxL ret nm) {idx : Nat} {host : String} (w : (Cond.fieldLink own idx O n ds).before a0 Z = true ∨ (Cond.fieldLinkNest own idx O n ds host).before a0 Z = true) (H : Hp n0 h σ) (hi : σ[i]? = some (a, Ob Z C NS vs)) (hj : NS[j]? = some (O, n, ds)) (hv : vs[j]? = some v)
    (d : Dc bytes pc (.getfield idx) 3 pc') (g : G k n0 Q h cells slots pc' Ls (v :: St)) : G k n0 Q h cells slots pc Ls (.ref a :: St) := by
  obtain ⟨p, l, e, R', s, m, args, below, meth, c⟩ := k
  obtain ⟨hx, hZ, hown, rfl, rfl, rfl, rfl, hlk, rfl, hn0⟩ := K
  obtain ⟨d, rfl⟩ := d
  exact G.moved (fun T locs X eT => RoadKit.getF X hx hZ hown w Via.refl eT (H.fld hi hj hv) (g := mkF m pc ⟨Ls⟩ (.ref a :: St)) rfl rfl d) g
theorem G.putF (K : Ok k Z n0 own R bytes maxL ret nm) {idx kk : Nat} {host : String} {ty : FieldType} (w : (Cond.fieldLink own idx O n ds).before a0 Z = true ∨ (Cond.fieldLinkNest own idx O n ds host).before a0 Z = true) (F : Cf Z a0 C NS) (wl : (Cond.lays C O n ds).before a0 Z = true ∨ ((Cond.laysFinal C O n ds).before a0 Z = true ∧ own = O ∧ nm = "<init>")) (wi : (Cond.instantiable C kk).before a0 Z = true)
    (H : Hp n0 h σ) (hi : σ[i]? = some (a, Ob Z C NS vs)) (hj : NS[j]? = some (O, n, ds)) {old : Value} (hv : vs[j]? = some old) (hty : parseFieldDescriptor ds = some ty) (hn : narrow ty v = v) (hf : fits ty v = true)
    (d : Dc bytes pc (.putfield idx) 3 pc') (g : ∀ h', Hp n0 h' (σ.set i (a, Ob Z C NS (vs.set j v))) → G k n0 Q h' cells slots pc' Ls St) : G k n0 Q h cells slots pc Ls (v :: .ref a :: St) := by
  obtain ⟨p, l, e, R', s, m, args, below, meth, c⟩ := k
  obtain ⟨hx, hZ, hown, rfl, rfl, rfl, rfl, hlk, rfl, hn0⟩ := K
  obtain ⟨d, rfl⟩ := d
  intro hc hs T locs X eT N
  obtain ⟨T', h', X', eT', W, st⟩ := RoadKit.putF X hx hZ hown w Via.refl eT (H.fld hi hj hv) (H.exa hi) wl wi hty hn hf (g := mkF m pc ⟨Ls⟩ (v :: .ref a :: St)) rfl rfl d
  obtain ⟨s₂, o, h1, r⟩ := g h' (H.wr hi W fun cell B => Ob.set F hj hv v B) hc hs T' _ X' eT' (Fr.snoc X' N (H.ge hi))
  exact ⟨s₂, o, st s₂ h1, r⟩
theorem G.putFN (K : Ok k Z n0 own R bytes maxL ret nm) {idx kk : Nat} {ty : FieldType} (w : (Cond.fieldLink own idx O n ds).before a0 Z = true) (F : Cf Z a0 C NS) (wl : (Cond.lays C O n ds).before a0 Z = true ∨ ((Cond.laysFinal C O n ds).before a0 Z = true ∧ own = O ∧ nm = "<init>")) (wi : (Cond.instantiable C kk).before a0 Z = true)
    (H : Hp n0 h σ) (hi : σ[i]? = some (a, Ob Z C NS vs)) (hj : NS[j]? = some (O, n, ds)) {old v' : Value} (hv : vs[j]? = some old) (hty : parseFieldDescriptor ds = some ty) (hn : narrow ty v = v') (hf : fits ty v' = true)
    (d : Dc bytes pc (.putfield idx) 3 pc') (g : ∀ h', Hp n0 h' (σ.set i (a, Ob Z C NS (vs.set j v'))) → G k n0 Q h' cells slots pc' Ls St) : G k n0 Q h cells slots pc Ls (v :: .ref a :: St) := by
  obtain ⟨p, l, e, R', s, m, args, below, meth, c⟩ := k
  obtain ⟨hx, hZ, hown, rfl, rfl, rfl, rfl, hlk, rfl, hn0⟩ := K
  obtain ⟨d, rfl⟩ := d
  intro hc hs T locs X eT N
  obtain ⟨T', h', X', eT', W, st⟩ := RoadKit.putFN X hx hZ hown w Via.refl eT (H.fld hi hj hv) (H.exa hi) wl wi hty hn hf (g := mkF m pc ⟨Ls⟩ (v :: .ref a :: St)) rfl rfl d
  obtain ⟨s₂, o, h1, r⟩ := g h' (H.wr hi W fun cell B => Ob.set F hj hv v' B) hc hs T' _ X' eT' (Fr.snoc X' N (H.ge hi))
  exact ⟨s₂, o, st s₂ h1, r⟩
theorem size_ok {p : Program} {l : Launch} {e : Env} {R : Room} {s : State} {m : MethodId} {args : Array Value} {below : List Frame} {meth : Method} {c : Code} {T : State} {locs : List Loc} (X : Stand p l e R s m args below meth c T locs cells slots) (eT : T.heap = h) (hn : n0 ≤ s.heap.size) : n0 ≤ h.size := by
  have := X.same.2.1
  subst eT
  exact Nat.le_trans hn this
theorem G.new (K : Ok k Z n0 own R bytes maxL ret nm) {idx kk : Nat} (w : (Cond.classLink own idx C).before a0 Z = true) (wi : (Cond.instantiable C kk).before a0 Z = true) (wz : (Cond.initialized C).before a0 Z = true) (F : Cf Z a0 C NS)
    (hd : NS.map (fun f => (parseFieldDescriptor f.2.2).map defaultValue) = vs.map some) (H : Hp n0 h σ) (hc : cells + 1 ≤ R.cells) (hl : slots + kk ≤ R.slots) (d : Dc bytes pc (.new idx) 3 pc')
    (g : ∀ a h', Hp n0 h' ((a, Ob Z C NS vs) :: σ) → G k n0 Q h' (cells + 1) (slots + kk) pc' Ls (.ref a :: St)) : G k n0 Q h cells slots pc Ls St := by
  obtain ⟨p, l, e, R', s, m, args, below, meth, c⟩ := k
  obtain ⟨hx, hZ, hown, rfl, rfl, rfl, rfl, hlk, rfl, hn0⟩ := K
  obtain ⟨d, rfl⟩ := d
  intro _ _ T locs X eT N
  obtain ⟨T', h', X', eT', E, A, D, ⟨cell, hc1, hc2, -⟩, st⟩ := RoadKit.newO X hx hZ hown w wi wz eT (g := mkF m pc ⟨Ls⟩ St) rfl d hc hl
  have B : Ob Z C NS vs cell := by
    obtain ⟨c', k, q1, q2, q3, q4, q5⟩ := A
    cases hc1.symm.trans q1
    refine ⟨⟨k, q2, q3, q4, q5⟩, fun j f v hf hv => ?_⟩
    have e1 : (NS.map (fun f => (parseFieldDescriptor f.2.2).map defaultValue))[j]? = some ((parseFieldDescriptor f.2.2).map defaultValue) := by simp [hf]
    rw [hd] at e1
    simp only [List.getElem?_map, hv, Option.map_some, Option.some.injEq] at e1
    obtain ⟨t, ht⟩ := F.2.2 _ (List.mem_of_getElem? hf)
    rw [ht, Option.map_some, Option.some.injEq] at e1
    obtain ⟨c'', cf, k', i', fd, r1, r2, r3, r4, r5, r6, r7⟩ := D (F.1 _ (List.mem_of_getElem? hf)) ht
    cases hc1.symm.trans r1
    exact ⟨cf, k', i', fd, r2, r3, r4, r6, by rw [e1]; exact r7⟩
  obtain ⟨s₂, o, h1, r⟩ := g h.size h' (H.cons E (size_ok X eT hn0) ⟨cell, hc1, B⟩) hc hl T' _ X' eT' N
  exact ⟨s₂, o, st s₂ h1, r⟩
/-! ### arrays -/
def Aa (Z : State) (ty : FieldType) (vs : List Value) (cell : Cell) : Prop := Z.isArrayOf cell ty ∧ cell.vm ≠ .unknown ∧ cell.slots = vs.toArray ∧ vs.length < 2 ^ 31
abbrev Ia (Z : State) (xs : List Int32) : Cell → Prop := Aa Z .int (xs.map Value.int)
abbrev La (Z : State) (xs : List Int64) : Cell → Prop := Aa Z .long (xs.map Value.long)
variable {ty : FieldType} {xs : List Int32} {ys : List Int64} {x z : Int32} {y : Int64}
theorem inb (hn : ¬ z < 0) (hv : vs[z.toNatClampNeg]? = some v) {cell : Cell} (e : cell.slots = vs.toArray) : ¬ (z < 0 ∨ cell.slots.size ≤ z.toNatClampNeg) := by
  intro q
  have := (List.getElem?_eq_some_iff.mp hv).1
  rcases q with q | q
  · exact hn q
  · rw [e] at q; simp at q; omega
theorem G.alen (K : Ok k Z n0 own R bytes maxL ret nm) (H : Hp n0 h σ) (hi : σ[i]? = some (a, Aa Z ty vs)) (d : Dc bytes pc .arraylength 1 pc') (z : Int32) (hz : Int32.ofNat vs.length = z) (g : G k n0 Q h cells slots pc' Ls (.int z :: St)) : G k n0 Q h cells slots pc Ls (.ref a :: St) := by
  obtain ⟨p, l, e, R', s, m, args, below, meth, c⟩ := k
  obtain ⟨hx, hZ, hown, rfl, rfl, rfl, rfl, hlk, rfl, hn0⟩ := K
  obtain ⟨d, rfl⟩ := d
  obtain ⟨-, cell, h1, h2, h3, h4, h5⟩ := H.at hi
  refine G.moved (fun T locs X eT => ⟨T, X, eT, fun t q => ?_⟩) g
  refine X.arraylength hx (by rw [eT]; exact h1) (State.isArrayOf_alike hZ.alike h2) (g := mkF m pc ⟨Ls⟩ (.ref a :: St)) rfl rfl d t ?_
  have : cell.slots.size.toInt32 = z := by rw [h4, ← hz]; simp [Nat.toInt32]
  rw [this]; exact q
theorem G.aload_i (K : Ok k Z n0 own R bytes maxL ret nm) (H : Hp n0 h σ) (hi : σ[i]? = some (a, Ia Z xs)) (hn : ¬ z < 0) (hv : xs[z.toNatClampNeg]? = some x) (d : Dc bytes pc .iaload 1 pc') (g : G k n0 Q h cells slots pc' Ls (.int x :: St)) : G k n0 Q h cells slots pc Ls (.int z :: .ref a :: St) := by
  obtain ⟨p, l, e, R', s, m, args, below, meth, c⟩ := k
  obtain ⟨hx, hZ, hown, rfl, rfl, rfl, rfl, hlk, rfl, hn0⟩ := K
  obtain ⟨d, rfl⟩ := d
  obtain ⟨-, cell, h1, h2, h3, h4, h5⟩ := H.at hi
  have hv' : (xs.map Value.int)[z.toNatClampNeg]? = some (.int x) := by simp [hv]
  exact G.moved (fun T locs X eT => ⟨T, X, eT, fun t q => X.iaload hx (by rw [eT]; exact h1) (State.isArrayOf_alike hZ.alike h2) h3 (inb hn hv' h4) (v := .int x) (by rw [h4]; simpa using hv') (g := mkF m pc ⟨Ls⟩ (.int z :: .ref a :: St)) rfl rfl d t q⟩) g
theorem G.aload_l (K : Ok k Z n0 own R bytes maxL ret nm) (H : Hp n0 h σ) (hi : σ[i]? = some (a, La Z ys)) (hn : ¬ z < 0) (hv : ys[z.toNatClampNeg]? = some y) (d : Dc bytes pc .laload 1 pc') (g : G k n0 Q h cells slots pc' Ls (.long y :: St)) : G k n0 Q h cells slots pc Ls (.int z :: .ref a :: St) := by
  obtain ⟨p, l, e, R', s, m, args, below, meth, c⟩ := k
  obtain ⟨hx, hZ, hown, rfl, rfl, rfl, rfl, hlk, rfl, hn0⟩ := K
  obtain ⟨d, rfl⟩ := d
  obtain ⟨-, cell, h1, h2, h3, h4, h5⟩ := H.at hi
  have hv' : (ys.map Value.long)[z.toNatClampNeg]? = some (.long y) := by simp [hv]
  exact G.moved (fun T locs X eT => ⟨T, X, eT, fun t q => X.laload hx (by rw [eT]; exact h1) (State.isArrayOf_alike hZ.alike h2) h3 (inb hn hv' h4) (v := .long y) (by rw [h4]; simpa using hv') (g := mkF m pc ⟨Ls⟩ (.int z :: .ref a :: St)) rfl rfl d t q⟩) g
theorem Aa.set {i : Nat} {v : Value} {cell : Cell} (A : Aa Z ty vs cell) : Aa Z ty (vs.set i v) (cell.setSlot i v) := by
  obtain ⟨h2, h3, h4, h5⟩ := A
  exact ⟨h2, h3, by simp [Cell.setSlot, h4], by simpa using h5⟩
theorem G.astore_i (K : Ok k Z n0 own R bytes maxL ret nm) (H : Hp n0 h σ) (hi : σ[i]? = some (a, Ia Z xs)) (hn : ¬ z < 0) (hv : z.toNatClampNeg < xs.length) (d : Dc bytes pc .iastore 1 pc') (g : ∀ h', Hp n0 h' (σ.set i (a, Ia Z (xs.set z.toNatClampNeg x))) → G k n0 Q h' cells slots pc' Ls St) : G k n0 Q h cells slots pc Ls (.int x :: .int z :: .ref a :: St) := by
  obtain ⟨p, l, e, R', s, m, args, below, meth, c⟩ := k
  obtain ⟨hx, hZ, hown, rfl, rfl, rfl, rfl, hlk, rfl, hn0⟩ := K
  obtain ⟨d, rfl⟩ := d
  obtain ⟨ge, cell, h1, h2, h3, h4, h5⟩ := H.at hi
  have hv' : (xs.map Value.int)[z.toNatClampNeg]? = some (.int xs[z.toNatClampNeg]) := by simp [hv]
  intro hc hs T locs X eT N
  obtain ⟨T', h', X', eT', W, st⟩ := RoadKit.stI X hx hZ eT ⟨h1, h2, h3⟩ (inb hn hv' h4) (g := mkF m pc ⟨Ls⟩ (.int x :: .int z :: .ref a :: St)) rfl rfl d
  have H' : Hp n0 h' (σ.set i (a, Ia Z (xs.set z.toNatClampNeg x))) := H.wr hi W fun cell B => by
    have := Aa.set (i := z.toNatClampNeg) (v := .int x) B
    rw [← List.map_set] at this; exact this
  obtain ⟨s₂, o, q1, r⟩ := g h' H' hc hs T' _ X' eT' (Fr.snoc X' N ge)
  exact ⟨s₂, o, st s₂ q1, r⟩
theorem G.astore_l (K : Ok k Z n0 own R bytes maxL ret nm) (H : Hp n0 h σ) (hi : σ[i]? = some (a, La Z ys)) (hn : ¬ z < 0) (hv : z.toNatClampNeg < ys.length) (d : Dc bytes pc .lastore 1 pc') (g : ∀ h', Hp n0 h' (σ.set i (a, La Z (ys.set z.toNatClampNeg y))) → G k n0 Q h' cells slots pc' Ls St) : G k n0 Q h cells slots pc Ls (.long y :: .int z :: .ref a :: St) := by
  obtain ⟨p, l, e, R', s, m, args, below, meth, c⟩ := k
  obtain ⟨hx, hZ, hown, rfl, rfl, rfl, rfl, hlk, rfl, hn0⟩ := K
  obtain ⟨d, rfl⟩ := d
  obtain ⟨ge, cell, h1, h2, h3, h4, h5⟩ := H.at hi
  have hv' : (ys.map Value.long)[z.toNatClampNeg]? = some (.long ys[z.toNatClampNeg]) := by simp [hv]
  intro hc hs T locs X eT N
  obtain ⟨T', h', X', eT', W, st⟩ := RoadKit.stJ X hx hZ eT ⟨h1, h2, h3⟩ (inb hn hv' h4) (g := mkF m pc ⟨Ls⟩ (.long y :: .int z :: .ref a :: St)) rfl rfl d
  have H' : Hp n0 h' (σ.set i (a, La Z (ys.set z.toNatClampNeg y))) := H.wr hi W fun cell B => by
    have := Aa.set (i := z.toNatClampNeg) (v := .long y) B
    rw [← List.map_set] at this; exact this
  obtain ⟨s₂, o, q1, r⟩ := g h' H' hc hs T' _ X' eT' (Fr.snoc X' N ge)
  exact ⟨s₂, o, st s₂ q1, r⟩
theorem G.newarr (K : Ok k Z n0 own R bytes maxL ret nm) {aty : ArrayType} (w : (Cond.arrayClass (newarray.typeOf aty)).before a0 Z = true) (H : Hp n0 h σ) (hn : ¬ z < 0) (cap : Nat) (hcap : z.toNatClampNeg ≤ cap) (hb : cap * 8 ≤ 536870912) (hc : cells + 1 ≤ R.cells) (hl : slots + cap ≤ R.slots) (d : Dc bytes pc (.newarray aty) 2 pc')
    (g : ∀ a h', Hp n0 h' ((a, Aa Z (newarray.typeOf aty) (List.replicate z.toNatClampNeg (defaultValue (newarray.typeOf aty)))) :: σ) → G k n0 Q h' (cells + 1) (slots + cap) pc' Ls (.ref a :: St)) : G k n0 Q h cells slots pc Ls (.int z :: St) := by
  obtain ⟨p, l, e, R', s, m, args, below, meth, c⟩ := k
  obtain ⟨hx, hZ, hown, rfl, rfl, rfl, rfl, hlk, rfl, hn0⟩ := K
  obtain ⟨d, rfl⟩ := d
  intro _ _ T locs X eT N
  obtain ⟨T', h', cA, X', eT', E, A, st⟩ := RoadKit.newP X hx hZ w eT (g := mkF m pc ⟨Ls⟩ (.int z :: St)) rfl d rfl hn hcap hb hc hl
  have B : Aa Z (newarray.typeOf aty) (List.replicate z.toNatClampNeg (defaultValue (newarray.typeOf aty))) (newA cA (newarray.typeOf aty) z) :=
    ⟨A.2.1, A.2.2, by simp [newA], by rw [List.length_replicate]; exact (back32 hn).2⟩
  obtain ⟨s₂, o, h1, r⟩ := g h.size h' (H.cons E (size_ok X eT hn0) ⟨_, A.1, B⟩) hc hl T' _ X' eT' N
  exact ⟨s₂, o, st s₂ h1, r⟩
theorem G.newarr_i (K : Ok k Z n0 own R bytes maxL ret nm) (w : (Cond.arrayClass .int).before a0 Z = true) (H : Hp n0 h σ) (hn : ¬ z < 0) (cap : Nat) (hcap : z.toNatClampNeg ≤ cap) (hb : cap * 8 ≤ 536870912) (hc : cells + 1 ≤ R.cells) (hl : slots + cap ≤ R.slots) (d : Dc bytes pc (.newarray .int) 2 pc')
    (g : ∀ a h', Hp n0 h' ((a, Ia Z (List.replicate z.toNatClampNeg 0)) :: σ) → G k n0 Q h' (cells + 1) (slots + cap) pc' Ls (.ref a :: St)) : G k n0 Q h cells slots pc Ls (.int z :: St) :=
  G.newarr K (aty := .int) w H hn cap hcap hb hc hl d fun a h' H' => g a h' (by show Hp n0 h' ((a, Aa Z .int ((List.replicate z.toNatClampNeg (0 : Int32)).map Value.int)) :: σ); rw [List.map_replicate]; exact H')
theorem G.newarr_l (K : Ok k Z n0 own R bytes maxL ret nm) (w : (Cond.arrayClass .long).before a0 Z = true) (H : Hp n0 h σ) (hn : ¬ z < 0) (cap : Nat) (hcap : z.toNatClampNeg ≤ cap) (hb : cap * 8 ≤ 536870912) (hc : cells + 1 ≤ R.cells) (hl : slots + cap ≤ R.slots) (d : Dc bytes pc (.newarray .long) 2 pc')
    (g : ∀ a h', Hp n0 h' ((a, La Z (List.replicate z.toNatClampNeg 0)) :: σ) → G k n0 Q h' (cells + 1) (slots + cap) pc' Ls (.ref a :: St)) : G k n0 Q h cells slots pc Ls (.int z :: St) :=
  G.newarr K (aty := .long) w H hn cap hcap hb hc hl d fun a h' H' => g a h' (by show Hp n0 h' ((a, Aa Z .long ((List.replicate z.toNatClampNeg (0 : Int64)).map Value.long)) :: σ); rw [List.map_replicate]; exact H')
/-! ### calls -/
/-- a body's contract: called on these arguments at this heap it returns, and Q holds -/
def Ct (l : Launch) (Z : State) (n0 : Nat) (yy : MethodName) (bytes : ByteArray) (maxL : Nat) (ret : Option FieldType) (rm : Room) (as : List Value) (h : Heap) (Q : Option Value → Heap → Prop) : Prop :=
  n0 ≤ h.size → ∀ ws, MetFree l yy (head1 (Cond.code yy bytes maxL ret :: ws) rm) (fun a U => a = as.toArray ∧ Z.Warmed39 U.vm ∧ U.heap = h) (fun _ _ _ _ _ => True)
    (fun _ U o U' => ∃ v L, o = .returned v ∧ (Q v U'.heap ∧ Fr n0 L) ∧ FrameEnd U o U' L rm.cells rm.slots)
variable {l : Launch} {yy : MethodName} {rm : Room} {as : List Value}
theorem Ct.post {Q' : Option Value → Heap → Prop} (c : Ct l Z n0 yy bytes maxL ret rm as h Q) (q : ∀ v h', Q v h' → Q' v h') : Ct l Z n0 yy bytes maxL ret rm as h Q' := by
  intro hn ws p e a1 a2 a3 s m args below a4 a5 a6 a7
  obtain ⟨n, o, h1, h2, h3, v, L, h4, ⟨h5, h6⟩, h7⟩ := c hn ws p e a1 a2 a3 s m args below a4 a5 a6 a7
  exact ⟨n, o, h1, h2, h3, v, L, h4, ⟨q _ _ h5, h6⟩, h7⟩
theorem Ct.intro (hp : plainFor yy = true) (Ls : List Slot) (hE : ∀ m, entryFrame m as.toArray maxL = mkF m 0 ⟨Ls⟩ [])
    (body : ∀ k : Cx, k.2.1 = l → Ok k Z n0 yy.cls rm bytes maxL ret yy.name → G k n0 Q h 0 0 0 Ls []) : Ct l Z n0 yy bytes maxL ret rm as h Q := by
  intro hn0 ws
  refine MetFree.of_bodySF hp hisR ?_
  intro p e s m args below meth c s₁ Bd hml0 hP hK
  obtain ⟨rfl, hZ, hh⟩ := hP
  have X0 : Stand p l e rm s m as.toArray below meth c s₁ [] 0 0 := Stand.of_body Bd
  have e0 : s₁.heap = h := by rw [← hh, Bd.state]; rfl
  have g := body (p, l, e, rm, s, m, as.toArray, below, meth, c) rfl ⟨Bd.exec, hZ, findClass_of_methodNamed Bd.named, rfl, Bd.bytes, hml0, Bd.returns, Bd.notSynchronized, (name_of_methodNamed Bd.named Bd.method).1, by show n0 ≤ s.heap.size; rw [hh]; exact hn0⟩ (Nat.zero_le _) (Nat.zero_le _) s₁ [] X0 e0 (Fr.nil n0)
  obtain ⟨s₂, o, h1, r⟩ := g
  exact ⟨s₂, o, castTop (hE m) h1, r⟩
theorem G.callS (K : Ok k Z n0 own R bytes maxL ret nm) (hl : k.2.1 = l) {idx : Nat} {by' : ByteArray} {ml : Nat} {rt : Option FieldType} {ps : List FieldType} {Q' : Option Value → Heap → Prop}
    (w1 : (Cond.methodLink own idx yy).before a0 Z = true) (w2 : (Cond.static yy).before a0 Z = true) (w3 : (Cond.initialized yy.cls).before a0 Z = true) (w4 : (Cond.code yy by' ml rt).before a0 Z = true)
    (hy : yy.cls ≠ "java/lang/invoke/MethodHandle" ∧ yy.cls ≠ "java/lang/invoke/VarHandle") (pd : parseMethodDescriptor yy.desc = some ⟨ps, rt⟩) (c : Ct l Z n0 yy by' ml rt rm as h Q') (W : Nat) (hW : (St.map fun v => v.category).sum = W)
    (hfr : rm.frames + 1 ≤ R.frames) (hlo : W + (ml + 11) + rm.locals ≤ R.locals) (hce : cells + rm.cells ≤ R.cells) (hsl : slots + rm.slots ≤ R.slots) (hps : as.length = ps.length) (hsz : Ls.length = maxL) (ar : List Value) (har : as.reverse = ar) (d : Dc bytes pc (.invokestatic idx) 3 pc')
    (g : ∀ v h', Q' v h' → G k n0 Q h' (cells + rm.cells) (slots + rm.slots) pc' Ls (v.toList ++ St)) : G k n0 Q h cells slots pc Ls (ar ++ St) := by
  obtain ⟨p, l, e, R', s, m, args, below, meth, c⟩ := k
  obtain ⟨hx, hZ, hown, rfl, rfl, rfl, rfl, hlk, rfl, hn0⟩ := K
  obtain ⟨d, rfl⟩ := d
  subst hl
  subst har
  intro _ _ T locs X eT N
  have hn1 : n0 ≤ h.size := size_ok X eT hn0
  obtain ⟨v, _, ⟨T', L', k', n'⟩, -, X', ⟨Lc, ⟨hQ, hF⟩, e1, e2, e3⟩, st⟩ := Jvm.LawKit.callS X hx (y := yy) hown (mvT hZ w1) (mvT hZ w2) (mvT hZ w3) (mvT hZ w4) hy (backOf (W := W) (Q := fun v h' L => Q' v h' ∧ Fr n0 L) (c hn1 []) hZ w4 w3 hfr hlo) (g := mkF m pc ⟨Ls⟩ (as.reverse ++ St)) rfl (by simpa using hsz) (argsL := as) (rest := St) (lenOf pd hps) rfl (by show 2 * 0 + _ ≤ _; omega) d (fun _ _ => ⟨rfl, eT, hce, hsl⟩)
  dsimp only [Pt.U, Pt.locs, Pt.cells, Pt.slots] at X' e1 e2 e3 st hQ
  subst e1 e2 e3
  obtain ⟨s₂, o, h1, r⟩ := g v T'.heap hQ hce hsl T' _ X' rfl (Fr.app N hF)
  exact ⟨s₂, o, st _ h1, r⟩
theorem G.callI (K : Ok k Z n0 own R bytes maxL ret nm) (hl : k.2.1 = l) {idx : Nat} {by' : ByteArray} {ml : Nat} {ps : List FieldType} {Q' : Option Value → Heap → Prop} (hi : yy.name = "<init>")
    (w1 : (Cond.methodLink own idx yy).before a0 Z = true) (w2 : (Cond.instanceMethod yy).before a0 Z = true) (w3 : (Cond.initialized yy.cls).before a0 Z = true) (w4 : (Cond.code yy by' ml none).before a0 Z = true)
    (hy : yy.cls ≠ "java/lang/invoke/MethodHandle" ∧ yy.cls ≠ "java/lang/invoke/VarHandle") (pd : parseMethodDescriptor yy.desc = some ⟨ps, none⟩) {a : Addr} (c : Ct l Z n0 yy by' ml none rm (.ref a :: as) h Q') (W : Nat) (hW : (St.map fun v => v.category).sum = W)
    (hfr : rm.frames + 1 ≤ R.frames) (hlo : W + (ml + 11) + rm.locals ≤ R.locals) (hce : cells + rm.cells ≤ R.cells) (hsl : slots + rm.slots ≤ R.slots) (hps : as.length = ps.length) (hsz : Ls.length = maxL) (ar : List Value) (har : as.reverse = ar) (d : Dc bytes pc (.invokespecial idx) 3 pc')
    (g : ∀ v h', Q' v h' → G k n0 Q h' (cells + rm.cells) (slots + rm.slots) pc' Ls (v.toList ++ St)) : G k n0 Q h cells slots pc Ls (ar ++ .ref a :: St) := by
  obtain ⟨p, l, e, R', s, m, args, below, meth, c⟩ := k
  obtain ⟨hx, hZ, hown, rfl, rfl, rfl, rfl, hlk, rfl, hn0⟩ := K
  obtain ⟨d, rfl⟩ := d
  subst hl
  subst har
  intro _ _ T locs X eT N
  have hn1 : n0 ≤ h.size := size_ok X eT hn0
  obtain ⟨v, _, ⟨T', L', k', n'⟩, -, X', ⟨Lc, ⟨hQ, hF⟩, e1, e2, e3⟩, st⟩ := X.specialBack hx (y := yy) hi hown (mvT hZ w1) (mvT hZ w2) (mvT hZ w4) hy (backOf (W := W) (Q := fun v h' L => Q' v h' ∧ Fr n0 L) (c hn1 []) hZ w4 w3 hfr hlo) (g := mkF m pc ⟨Ls⟩ (as.reverse ++ .ref a :: St)) rfl (by simpa using hsz) (Steps.refl _) (a := a) (argsL := as) (rest := St) (lenOf pd hps) rfl (by show 2 * 0 + _ ≤ _; omega) d (fun _ _ => ⟨rfl, eT, hce, hsl⟩)
  dsimp only [Pt.U, Pt.locs, Pt.cells, Pt.slots] at X' e1 e2 e3 st hQ
  subst e1 e2 e3
  obtain ⟨s₂, o, h1, r⟩ := g v T'.heap hQ hce hsl T' _ X' rfl (Fr.app N hF)
  exact ⟨s₂, o, st.trans h1, r⟩
theorem G.callV (K : Ok k Z n0 own R bytes maxL ret nm) (hl : k.2.1 = l) {idx : Nat} {by' : ByteArray} {ml : Nat} {rt : Option FieldType} {ps : List FieldType} {Q' : Option Value → Heap → Prop} {C : String}
    (w1 : (Cond.methodLink own idx yy).before a0 Z = true) (wd : (Cond.declares yy).before a0 Z = true) (ws : (Cond.selects C yy yy).before a0 Z = true) (w2 : (Cond.instanceMethod yy).before a0 Z = true) (w3 : (Cond.initialized yy.cls).before a0 Z = true) (w4 : (Cond.code yy by' ml rt).before a0 Z = true)
    (hy : yy.cls ≠ "java/lang/invoke/MethodHandle" ∧ yy.cls ≠ "java/lang/invoke/VarHandle") (pd : parseMethodDescriptor yy.desc = some ⟨ps, rt⟩) {a : Addr} (E : Exa Z h a C) (c : Ct l Z n0 yy by' ml rt rm (.ref a :: as) h Q') (W : Nat) (hW : (St.map fun v => v.category).sum = W)
    (hfr : rm.frames + 1 ≤ R.frames) (hlo : W + (ml + 11) + rm.locals ≤ R.locals) (hce : cells + rm.cells ≤ R.cells) (hsl : slots + rm.slots ≤ R.slots) (hps : as.length = ps.length) (hsz : Ls.length = maxL) (ar : List Value) (har : as.reverse = ar) (d : Dc bytes pc (.invokevirtual idx) 3 pc')
    (g : ∀ v h', Q' v h' → G k n0 Q h' (cells + rm.cells) (slots + rm.slots) pc' Ls (v.toList ++ St)) : G k n0 Q h cells slots pc Ls (ar ++ .ref a :: St) := by
  obtain ⟨p, l, e, R', s, m, args, below, meth, c⟩ := k
  obtain ⟨hx, hZ, hown, rfl, rfl, rfl, rfl, hlk, rfl, hn0⟩ := K
  obtain ⟨d, rfl⟩ := d
  subst hl
  subst har
  intro _ _ T locs X eT N
  have hn1 : n0 ≤ h.size := size_ok X eT hn0
  obtain ⟨cq, kq, qa, qb, qc⟩ := isOf hZ eT E
  obtain ⟨v, _, ⟨T', L', k', n'⟩, -, X', ⟨Lc, ⟨hQ, hF⟩, e1, e2, e3⟩, st⟩ := X.virtualBack hx (y := yy) (z := yy) hown (mvT hZ w1) (mvT hZ wd) (notFace_of_selects (args := #[]) (mvT hZ ws)) (mvT hZ ws) (mvT hZ w2) hy (backOf (W := W) (Q := fun v h' L => Q' v h' ∧ Fr n0 L) (c hn1 []) hZ w4 w3 hfr hlo) qa qc (g := mkF m pc ⟨Ls⟩ (as.reverse ++ .ref a :: St)) rfl (by simpa using hsz) (Steps.refl _) (argsL := as) (rest := St) (lenOf pd hps) rfl (by show 2 * 0 + _ ≤ _; omega) d (fun _ _ => ⟨rfl, eT, hce, hsl⟩)
  dsimp only [Pt.U, Pt.locs, Pt.cells, Pt.slots] at X' e1 e2 e3 st hQ
  subst e1 e2 e3
  obtain ⟨s₂, o, h1, r⟩ := g v T'.heap hQ hce hsl T' _ X' rfl (Fr.app N hF)
  exact ⟨s₂, o, st.trans h1, r⟩
theorem G.callP (K : Ok k Z n0 own R bytes maxL ret nm) (hl : k.2.1 = l) {idx kk : Nat} {by' : ByteArray} {ml : Nat} {rt : Option FieldType} {ps : List FieldType} {Q' : Option Value → Heap → Prop}
    (w1 : (Cond.methodLink own idx yy).before a0 Z = true) (wp : (Cond.privateMethod yy).before a0 Z = true) (wi : (Cond.instantiable yy.cls kk).before a0 Z = true) (w2 : (Cond.instanceMethod yy).before a0 Z = true) (w3 : (Cond.initialized yy.cls).before a0 Z = true) (w4 : (Cond.code yy by' ml rt).before a0 Z = true)
    (hy : yy.cls ≠ "java/lang/invoke/MethodHandle" ∧ yy.cls ≠ "java/lang/invoke/VarHandle") (pd : parseMethodDescriptor yy.desc = some ⟨ps, rt⟩) {a : Addr} {C : String} (E : Exa Z h a C) (c : Ct l Z n0 yy by' ml rt rm (.ref a :: as) h Q') (W : Nat) (hW : (St.map fun v => v.category).sum = W)
    (hfr : rm.frames + 1 ≤ R.frames) (hlo : W + (ml + 11) + rm.locals ≤ R.locals) (hce : cells + rm.cells ≤ R.cells) (hsl : slots + rm.slots ≤ R.slots) (hps : as.length = ps.length) (hsz : Ls.length = maxL) (ar : List Value) (har : as.reverse = ar) (d : Dc bytes pc (.invokevirtual idx) 3 pc')
    (g : ∀ v h', Q' v h' → G k n0 Q h' (cells + rm.cells) (slots + rm.slots) pc' Ls (v.toList ++ St)) : G k n0 Q h cells slots pc Ls (ar ++ .ref a :: St) := by
  obtain ⟨p, l, e, R', s, m, args, below, meth, c⟩ := k
  obtain ⟨hx, hZ, hown, rfl, rfl, rfl, rfl, hlk, rfl, hn0⟩ := K
  obtain ⟨d, rfl⟩ := d
  subst hl
  subst har
  intro _ _ T locs X eT N
  have hn1 : n0 ≤ h.size := size_ok X eT hn0
  obtain ⟨cq, q, q'⟩ := E.cell
  have hpriv : s.PrivateAt yy := Cond.privateMethod_at (mvP hZ wp (args := #[]))
  obtain ⟨c2, k2, i1, i2, -, i4, -⟩ := Cond.instantiable_spec (mvT hZ wi (args := args))
  have hsel : (Cond.selects yy.cls yy yy).before args s = true := selects_self_of_private i1 i2 (by cases hh : k2.isInterface <;> simp_all) hpriv (mvT hZ w2) hy
  obtain ⟨v, _, ⟨T', L', k', n'⟩, -, X', ⟨Lc, ⟨hQ, hF⟩, e1, e2, e3⟩, st⟩ := X.privateBack hx (y := yy) hown (mvT hZ w1) (mvT hZ w2) hsel hpriv (mvT hZ w4) hy (backOf (W := W) (Q := fun v h' L => Q' v h' ∧ Fr n0 L) (c hn1 []) hZ w4 w3 hfr hlo) (g := mkF m pc ⟨Ls⟩ (as.reverse ++ .ref a :: St)) rfl (by simpa using hsz) (Steps.refl _) (a := a) (by rw [eT]; exact q) q' (argsL := as) (rest := St) (lenOf pd hps) rfl (by show 2 * 0 + _ ≤ _; omega) d (fun _ _ => ⟨rfl, eT, hce, hsl⟩)
  dsimp only [Pt.U, Pt.locs, Pt.cells, Pt.slots] at X' e1 e2 e3 st hQ
  subst e1 e2 e3
  obtain ⟨s₂, o, h1, r⟩ := g v T'.heap hQ hce hsl T' _ X' rfl (Fr.app N hF)
  exact ⟨s₂, o, st.trans h1, r⟩
theorem G.initO (K : Ok k Z n0 own R bytes maxL ret nm) {idx : Nat} (w1 : (Cond.methodLink own idx Lib.objectInit).before a0 Z = true) (w2 : (Cond.instanceMethod Lib.objectInit).before a0 Z = true) (w3 : (Cond.code Lib.objectInit ⟨#[0xb1]⟩ 1 none).before a0 Z = true) {a : Addr}
    (hsz : Ls.length = maxL) (W : Nat) (hW : (St.map fun v => v.category).sum = W) (hfr : 1 ≤ R.frames) (hlo : W + 12 ≤ R.locals) (d : Dc bytes pc (.invokespecial idx) 3 pc') (g : G k n0 Q h cells slots pc' Ls St) : G k n0 Q h cells slots pc Ls (.ref a :: St) := by
  obtain ⟨p, l, e, R', s, m, args, below, meth, c⟩ := k
  obtain ⟨hx, hZ, hown, rfl, rfl, rfl, rfl, hlk, rfl, hn0⟩ := K
  obtain ⟨d, rfl⟩ := d
  exact G.moved (fun T locs X eT => RoadKit.initO X hx hZ hown w1 w2 w3 eT (g := mkF m pc ⟨Ls⟩ (.ref a :: St)) rfl (by simpa using hsz) rfl d hfr (W := W) (by show 2 * 0 + _ ≤ _; omega) hlo) g
end Jvm.OwnKit
namespace Jvm.Pilot.@@N@@
open Jvm Jvm.ClassFile Sem Op Lib Jvm.Free Jvm.Stand Jvm.LawKit Jvm.RoadKit Bundle Jvm.OwnKit Jvm.Pilot.@@N@@.Jvm.D
theorem wd {Z : State} {a0 : Array Value} (hw : ∀ d ∈ tables_1, d.before a0 Z = true) (i : Nat) {d : Jvm.Cond} (h : tables_1[i]? = some d) : d.before a0 Z = true := hw _ (List.mem_of_getElem? h)
theorem own_nint {i : Nat} (h : i < 2147483648) : (Int32.ofNat i).toInt = i := Int32.toInt_ofNat_of_lt (by omega)
theorem own_nlt {i n : Nat} (h : i < 2147483648) (h' : n < 2147483648) : (Int32.ofNat i < Int32.ofNat n) ↔ i < n := by
  rw [Int32.lt_iff_toInt_lt, own_nint h, own_nint h']; omega
theorem own_nle {i n : Nat} (h : i < 2147483648) (h' : n < 2147483648) : (Int32.ofNat i ≤ Int32.ofNat n) ↔ i ≤ n := by
  rw [Int32.le_iff_toInt_le, own_nint h, own_nint h']; omega
theorem own_neq {i n : Nat} (h : i < 2147483648) (h' : n < 2147483648) : (Int32.ofNat i = Int32.ofNat n) ↔ i = n := by
  rw [← Int32.toInt_inj, own_nint h, own_nint h']; omega
theorem own_nadd (i j : Nat) : Int32.ofNat i + Int32.ofNat j = Int32.ofNat (i + j) := (Int32.ofNat_add i j).symm
theorem own_nsucc (i : Nat) : Int32.ofNat i + 1 = Int32.ofNat (i + 1) := own_nadd i 1
theorem own_nidx {i : Nat} (h : i < 2147483648) : (Int32.ofNat i).toNatClampNeg = i := by
  show (Int32.ofNat i).toInt.toNat = i
  rw [own_nint h]; rfl
theorem own_nneg {i : Nat} (h : i < 2147483648) : ¬ Int32.ofNat i < 0 := by
  rw [Int32.lt_iff_toInt_lt, own_nint h]; show ¬ (i : Int) < 0; omega
theorem own_nsub {i j : Nat} (h : j ≤ i) : Int32.ofNat i - Int32.ofNat j = Int32.ofNat (i - j) := by
  have := own_nadd (i - j) j
  rw [Nat.sub_add_cancel h] at this
  rw [← this, Int32.add_sub_cancel]
theorem own_nmul (i j : Nat) : Int32.ofNat i * Int32.ofNat j = Int32.ofNat (i * j) := (Int32.ofNat_mul i j).symm
/-- a non-negative int is a natural -/
theorem own_nat (x : Int32) (h : ¬ x < 0) : ∃ n : Nat, n < 2147483648 ∧ x = Int32.ofNat n := by
  have h2 : 0 ≤ x.toInt := by rw [Int32.lt_iff_toInt_lt] at h; have : (0 : Int32).toInt = 0 := rfl; omega
  have h3 := Int32.toInt_lt x
  refine ⟨x.toInt.toNat, by omega, ?_⟩
  apply Int32.toInt_inj.mp
  rw [own_nint (by omega)]; omega
theorem own_msk (x : Int32) : ∃ n : Nat, n < 2147483648 ∧ x &&& 2147483647 = Int32.ofNat n := by
  apply own_nat
  rw [Int32.lt_iff_toInt_lt]
  have h : (x &&& 2147483647).toBitVec = x.toBitVec &&& 2147483647#32 := rfl
  have hn : (x.toBitVec &&& 2147483647#32).toNat < 2147483648 := by
    rw [BitVec.toNat_and]; exact Nat.lt_of_le_of_lt Nat.and_le_right (by decide)
  have : (x &&& 2147483647).toInt = ((x.toBitVec &&& 2147483647#32).toNat : Int) := by
    show (x &&& 2147483647).toBitVec.toInt = _
    rw [h, BitVec.toInt_eq_toNat_of_lt (by omega)]
  rw [this]; show ¬ ((_ : Nat) : Int) < 0; omega
theorem own_nmod {i n : Nat} (h : i < 2147483648) (hn : n < 2147483648) : Int32.ofNat i % Int32.ofNat n = Int32.ofNat (i % n) := by
  apply Int32.toInt_inj.mp
  have hl : i % n ≤ i := Nat.mod_le i n
  rw [Int32.toInt_mod, own_nint h, own_nint hn, own_nint (by omega)]
  exact (Int.ofNat_tmod i n).symm ▸ rfl
/-- small mask: x & (2^k - 1) -/
theorem own_and_lt (x : Int32) (m : Nat) (hm : m < 2147483648) : ∃ n : Nat, n ≤ m ∧ x &&& Int32.ofNat m = Int32.ofNat n := by
  have h : (x &&& Int32.ofNat m).toBitVec = x.toBitVec &&& BitVec.ofNat 32 m := rfl
  refine ⟨(x.toBitVec &&& BitVec.ofNat 32 m).toNat, ?_, ?_⟩
  · rw [BitVec.toNat_and]; exact Nat.le_trans Nat.and_le_right (by rw [BitVec.toNat_ofNat]; exact Nat.mod_le _ _)
  · apply Int32.toBitVec_inj.mp
    rw [h]
    show _ = BitVec.ofNat 32 _
    rw [BitVec.ofNat_toNat, BitVec.setWidth_eq]
theorem pd_0 : parseMethodDescriptor "(I)I" = some ⟨[.int], some .int⟩ := by decide +kernel
theorem pd_1 : parseMethodDescriptor "(JI)J" = some ⟨[.long, .int], some .long⟩ := by decide +kernel
theorem pd_2 : parseMethodDescriptor "([JIII)J" = some ⟨[(.array .long), .int, .int, .int], some .long⟩ := by decide +kernel
theorem pd_3 : parseMethodDescriptor "(III)V" = some ⟨[.int, .int, .int], none⟩ := by decide +kernel
theorem pd_4 : parseMethodDescriptor "()V" = some ⟨[], none⟩ := by decide +kernel
theorem pd_5 : parseMethodDescriptor "([J)J" = some ⟨[(.array .long)], some .long⟩ := by decide +kernel
def NSC : List (String × String × String) := [("com/example/bitstride/bitstride/search/MismatchCounts", "planes", "[J"), ("com/example/bitstride/bitstride/search/MismatchCounts", "planesPerWord", "I"), ("com/example/bitstride/bitstride/search/MismatchCounts", "words", "I"), ("com/example/bitstride/bitstride/search/MismatchCounts", "lastBit", "I")]
theorem cf_NSC {Z : State} {a0 : Array Value} (hw : ∀ d ∈ tables_1, d.before a0 Z = true) : Cf Z a0 "com/example/bitstride/bitstride/search/MismatchCounts" NSC := by
  refine ⟨fun f hf => ?_, by decide +kernel, fun f hf => ?_⟩
  · simp only [NSC, List.mem_cons, List.not_mem_nil, or_false] at hf
    rcases hf with rfl | rfl | rfl | rfl
    · exact Or.inr (wd hw 19 rfl)
    · exact Or.inr (wd hw 17 rfl)
    · exact Or.inr (wd hw 15 rfl)
    · exact Or.inr (wd hw 21 rfl)
  · simp only [NSC, List.mem_cons, List.not_mem_nil, or_false] at hf
    rcases hf with rfl | rfl | rfl | rfl
    · exact ⟨(.array .long), by decide +kernel⟩
    · exact ⟨.int, by decide +kernel⟩
    · exact ⟨.int, by decide +kernel⟩
    · exact ⟨.int, by decide +kernel⟩
def f73 (x n : Int32) : Int32 := n - XT.ushr x 1
def f61 (x n : Int32) : Int32 := if x < 4 then f73 x n else f73 (XT.ushr x 2) (n + (-2))
def f48 (x n : Int32) : Int32 := if x < 16 then f61 x n else f61 (XT.ushr x 4) (n + (-4))
def f33 (x n : Int32) : Int32 := if x < 256 then f48 x n else f48 (XT.ushr x 8) (n + (-8))
def f18 (x n : Int32) : Int32 := if x < 65536 then f33 x n else f33 (XT.ushr x 16) (n + (-16))
def nlzF (x : Int32) : Int32 := if 0 < x then f18 x 31 else if x = 0 then 32 else 0
/-! planes -/
def lay (n R : Nat) (f : Nat → Nat → Int64) : List Int64 := (List.range (R * n)).map fun i => f (i / n) (i % n)
theorem lay_len (n R : Nat) (f : Nat → Nat → Int64) : (lay n R f).length = R * n := by simp [lay]
theorem lay_idx {n R r k : Nat} (hr : r < R) (hk : k < n) : r * n + k < R * n := by
  have : (r + 1) * n ≤ R * n := Nat.mul_le_mul_right n hr
  rw [Nat.add_mul] at this; omega
theorem lay_div {n r k : Nat} (hk : k < n) : (r * n + k) / n = r := by
  rw [Nat.mul_comm, Nat.mul_add_div (by omega), Nat.div_eq_of_lt hk, Nat.add_zero]
theorem lay_mod {n r k : Nat} (hk : k < n) : (r * n + k) % n = k := by
  rw [Nat.mul_comm, Nat.mul_add_mod, Nat.mod_eq_of_lt hk]
theorem lay_get {n R r k : Nat} (f : Nat → Nat → Int64) (hr : r < R) (hk : k < n) : (lay n R f)[r * n + k]? = some (f r k) := by
  unfold lay
  rw [List.getElem?_map, List.getElem?_range (lay_idx hr hk), Option.map_some, lay_div hk, lay_mod hk]
def up (f : Nat → Nat → Int64) (r k : Nat) (v : Int64) : Nat → Nat → Int64 := fun r' k' => if r' = r ∧ k' = k then v else f r' k'
theorem lay_congr {n R : Nat} {f g : Nat → Nat → Int64} (h : ∀ r k, r < R → k < n → f r k = g r k) : lay n R f = lay n R g := by
  unfold lay
  apply List.map_congr_left
  intro i hi
  have hi := List.mem_range.mp hi
  have hn : 0 < n := by
    rcases Nat.eq_zero_or_pos n with q | q
    · rw [q, Nat.mul_zero] at hi; omega
    · exact q
  exact h _ _ (Nat.div_lt_of_lt_mul (by rw [Nat.mul_comm]; exact hi)) (Nat.mod_lt _ hn)
theorem lay_set {n R r k : Nat} (f : Nat → Nat → Int64) (hr : r < R) (hk : k < n) (v : Int64) : (lay n R f).set (r * n + k) v = lay n R (up f r k v) := by
  apply List.ext_getElem?
  intro i
  by_cases q : r * n + k = i
  · subst q
    rw [List.getElem?_set_self (by rw [lay_len]; exact lay_idx hr hk), lay_get _ hr hk]
    simp [up]
  · rw [List.getElem?_set_ne q]
    unfold lay
    rw [List.getElem?_map, List.getElem?_map]
    by_cases hi : i < R * n
    · rw [List.getElem?_range hi, Option.map_some, Option.map_some]
      have : ¬ (i / n = r ∧ i % n = k) := by
        rintro ⟨h1, h2⟩
        apply q
        have := Nat.div_add_mod i n
        rw [h1, h2, Nat.mul_comm] at this; exact this
      simp only [up, if_neg this]
    · rw [List.getElem?_eq_none (by simp; omega)]; rfl
theorem lay_zero (n R : Nat) : List.replicate (R * n) (0 : Int64) = lay n R (fun _ _ => 0) := by
  apply List.ext_getElem?
  intro i
  unfold lay
  rw [List.getElem?_map, List.getElem?_replicate]
  by_cases hi : i < R * n
  · rw [if_pos hi, List.getElem?_range hi]; rfl
  · rw [if_neg hi, List.getElem?_eq_none (by simp; omega)]; rfl
section
def shF (f : Nat → Nat → Int64) (r k : Nat) : Int64 := (f r k <<< ((1 : Int32).toInt64 &&& 63)) ||| XT.ushrL (f (r - 1) k) 63
def carF (f : Nat → Nat → Int64) (mk : Nat → Int64) (r : Nat) : Nat → Int64
  | 0 => mk (r - 1) ^^^ (-1)
  | k + 1 => carF f mk r k &&& shF f r k
def stepF (B : Nat) (f : Nat → Nat → Int64) (mk : Nat → Int64) (r k : Nat) : Int64 := if r = 0 then f 0 k else if k < B then shF f r k ^^^ carF f mk r k else shF f r k ||| carF f mk r B
def mid (B : Nat) (f : Nat → Nat → Int64) (mk : Nat → Int64) (r k : Nat) : Nat → Nat → Int64 := fun r' k' => if r < r' ∨ (r' = r ∧ k' < k) then stepF B f mk r' k' else f r' k'
variable (B : Nat) (f : Nat → Nat → Int64) (mk : Nat → Int64)
theorem mid_here (r k : Nat) : mid B f mk r k r k = f r k := by simp [mid]
theorem mid_below (r k k' : Nat) (hr : 1 ≤ r) : mid B f mk r k (r - 1) k' = f (r - 1) k' := by
  have : ¬ (r < r - 1 ∨ (r - 1 = r ∧ k' < k)) := by omega
  simp [mid, this]
theorem mid_next (r k : Nat) (hr : 1 ≤ r) (hk : k < B) : up (mid B f mk r k) r k (shF f r k ^^^ carF f mk r k) = mid B f mk r (k + 1) := by
  funext r' k'
  unfold up mid
  by_cases q : r' = r ∧ k' = k
  · obtain ⟨rfl, rfl⟩ := q
    rw [if_pos ⟨rfl, rfl⟩, if_pos (Or.inr ⟨rfl, by omega⟩), stepF, if_neg (by omega), if_pos hk]
  · rw [if_neg q]
    have : (r < r' ∨ (r' = r ∧ k' < k)) ↔ (r < r' ∨ (r' = r ∧ k' < k + 1)) := by omega
    simp only [this]
theorem mid_last (n R r : Nat) (hn : n = B + 1) (hr : 1 ≤ r) : lay n R (up (mid B f mk r B) r B (shF f r B ||| carF f mk r B)) = lay n R (mid B f mk (r - 1) 0) := by
  apply lay_congr
  intro r' k' _ hk
  unfold up mid
  by_cases q : r' = r ∧ k' = B
  · obtain ⟨rfl, rfl⟩ := q
    rw [if_pos ⟨rfl, rfl⟩, if_pos (Or.inl (by omega)), stepF, if_neg (by omega), if_neg (by omega)]
  · rw [if_neg q]
    have : (r < r' ∨ (r' = r ∧ k' < B)) ↔ (r - 1 < r' ∨ (r' = r - 1 ∧ k' < 0)) := by omega
    simp only [this]
theorem mid_start (n W : Nat) : lay n (W + 1) f = lay n (W + 1) (mid B f mk W 0) := by
  apply lay_congr
  intro r k hr _
  have : ¬ (W < r ∨ (r = W ∧ k < 0)) := by omega
  unfold mid; rw [if_neg this]
theorem mid_end (n R : Nat) : lay n R (mid B f mk 0 0) = lay n R (stepF B f mk) := by
  apply lay_congr
  intro r k _ _
  unfold mid
  by_cases q : 0 < r ∨ (r = 0 ∧ k < 0)
  · rw [if_pos q]
  · rw [if_neg q]; have : r = 0 := by omega
    subst this; simp [stepF]
end

/-! the bits of a plane, a cell a bit -/
def bt (x : Int64) (q : Nat) : Bool := x.toBitVec.getLsbD q
theorem bt_and (x y : Int64) (q : Nat) : bt (x &&& y) q = (bt x q && bt y q) := by unfold bt; rw [Int64.toBitVec_and, BitVec.getLsbD_and]
theorem bt_or (x y : Int64) (q : Nat) : bt (x ||| y) q = (bt x q || bt y q) := by unfold bt; rw [Int64.toBitVec_or, BitVec.getLsbD_or]
theorem bt_xor (x y : Int64) (q : Nat) : bt (x ^^^ y) q = (bt x q ^^ bt y q) := by unfold bt; rw [Int64.toBitVec_xor, BitVec.getLsbD_xor]
theorem bt_not (x : Int64) {q : Nat} (h : q < 64) : bt (x ^^^ (-1)) q = !bt x q := by
  rw [bt_xor]
  have : bt (-1) q = true := by
    unfold bt
    rw [show (-1 : Int64).toBitVec = BitVec.allOnes 64 from by decide, BitVec.getLsbD_allOnes]; simp [h]
  rw [this]; simp
theorem bt_shl1 (x : Int64) {q : Nat} (h : q < 64) : bt (x <<< ((1 : Int32).toInt64 &&& 63)) q = if q = 0 then false else bt x (q - 1) := by
  unfold bt
  rw [Int64.toBitVec_shiftLeft]
  rw [show ((1 : Int32).toInt64 &&& 63).toBitVec.smod 64 = 1#64 from by decide]
  show (x.toBitVec <<< (1#64).toNat).getLsbD q = _
  rw [show (1#64).toNat = 1 from rfl, BitVec.getLsbD_shiftLeft]
  by_cases e : q = 0
  · subst e; simp
  · have : ¬ q < 1 := by omega
    simp [h, e, this]
theorem bt_top (x : Int64) (q : Nat) : bt (XT.ushrL x 63) q = (decide (q = 0) && bt x 63) := by
  unfold bt XT.ushrL
  show (x.toUInt64 >>> _).toBitVec.getLsbD q = _
  rw [UInt64.toBitVec_shiftRight]
  rw [show (((63 : Int32).toInt64.toUInt64 &&& Int64.toUInt64 63).toBitVec % 64) = 63#64 from by decide]
  show (x.toBitVec >>> (63#64).toNat).getLsbD q = _
  rw [show (63#64).toNat = 63 from rfl, BitVec.getLsbD_ushiftRight]
  by_cases e : q = 0
  · subst e; simp
  · rw [BitVec.getLsbD_of_ge _ _ (by omega)]; simp [e]
theorem bt_sh (f : Nat → Nat → Int64) (r k : Nat) {q : Nat} (h : q < 64) : bt (shF f r k) q = if q = 0 then bt (f (r - 1) k) 63 else bt (f r k) (q - 1) := by
  unfold shF
  rw [bt_or, bt_shl1 _ h, bt_top]
  by_cases e : q = 0
  · simp [e]
  · simp [e]
/-- the count of a cell, K planes deep -/
def val (f : Nat → Nat → Int64) (r q : Nat) : Nat → Nat
  | 0 => 0
  | K + 1 => val f r q K + 2 ^ K * (bt (f r K) q).toNat
theorem val_lt (f : Nat → Nat → Int64) (r q : Nat) : ∀ K, val f r q K < 2 ^ K
  | 0 => by simp [val]
  | K + 1 => by
    have := val_lt f r q K
    unfold val
    have h2 : 2 ^ (K + 1) = 2 ^ K + 2 ^ K := by rw [Nat.pow_succ]; omega
    cases bt (f r K) q <;> simp <;> omega
/-- the cell that a step takes in -/
def pv (f : Nat → Nat → Int64) (r q K : Nat) : Nat := if q = 0 then val f (r - 1) 63 K else val f r (q - 1) K
def pb (f : Nat → Nat → Int64) (r q k : Nat) : Bool := if q = 0 then bt (f (r - 1) k) 63 else bt (f r k) (q - 1)
theorem val_step (B : Nat) (f : Nat → Nat → Int64) (mk : Nat → Int64) {r q : Nat} (hr : 1 ≤ r) (hq : q < 64) : ∀ K, K ≤ B → val (stepF B f mk) r q K + 2 ^ K * (bt (carF f mk r K) q).toNat = pv f r q K + (!bt (mk (r - 1)) q).toNat
  | 0, _ => by
    have e : bt (carF f mk r 0) q = !bt (mk (r - 1)) q := bt_not _ hq
    rw [e]; unfold val pv; split <;> simp [val]
  | K + 1, hK => by
    have ih := val_step B f mk hr hq K (by omega)
    have e1 : bt (stepF B f mk r K) q = (pb f r q K ^^ bt (carF f mk r K) q) := by
      rw [stepF, if_neg (by omega), if_pos (by omega), bt_xor, bt_sh f r K hq]; rfl
    have e2 : bt (carF f mk r (K + 1)) q = (bt (carF f mk r K) q && pb f r q K) := by
      rw [carF, bt_and, bt_sh f r K hq]; rfl
    have e3 : pv f r q (K + 1) = pv f r q K + 2 ^ K * (pb f r q K).toNat := by
      unfold pv pb; split <;> rfl
    rw [e2, e3]
    unfold val
    rw [e1]
    have h2 : 2 ^ (K + 1) = 2 ^ K + 2 ^ K := by rw [Nat.pow_succ]; omega
    rw [h2]
    revert ih
    cases pb f r q K <;> cases bt (carF f mk r K) q <;> simp <;> intro ih <;> omega
theorem past_step (B : Nat) (f : Nat → Nat → Int64) (mk : Nat → Int64) {r q : Nat} (hr : 1 ≤ r) (hq : q < 64) : bt (stepF B f mk r B) q = (pb f r q B || bt (carF f mk r B) q) := by
  rw [stepF, if_neg (by omega), if_neg (by omega), bt_or, bt_sh f r B hq]; rfl
/-- how many places differ: q + 1 of them, the last one read at step t -/
def Sm (ms : Nat → Int64) : Nat → Nat → Nat
  | t, 0 => (!bt (ms t) 0).toNat
  | t, q + 1 => Sm ms (t - 1) q + (!bt (ms t) (q + 1)).toNat
/-- where the counts stand behind t steps -/
def Good (B e W : Nat) (ms : Nat → Int64) (t : Nat) (f : Nat → Nat → Int64) : Prop :=
  (val f 0 63 B + (e + 1) = 2 ^ B ∧ bt (f 0 B) 63 = false) ∧
  (∀ r q, 1 ≤ r → r ≤ W → q < 64 → t ≤ 64 * (r - 1) + q → bt (f r B) q = true) ∧
  (∀ q, q < t → q < 64 → (Sm ms t q ≤ e → bt (f 1 B) q = false ∧ val f 1 q B + (e + 1) = 2 ^ B + Sm ms t q) ∧ (e < Sm ms t q → bt (f 1 B) q = true))
theorem Good.step {B e W t : Nat} {ms : Nat → Int64} {f : Nat → Nat → Int64} (G : Good B e W ms t f) (mk : Nat → Int64) (hm : mk 0 = ms (t + 1)) : Good B e W ms (t + 1) (stepF B f mk) := by
  obtain ⟨⟨G1, G2⟩, G3, G4⟩ := G
  have hrow0 : ∀ k, stepF B f mk 0 k = f 0 k := fun k => by simp [stepF]
  have hval0 : ∀ K, val (stepF B f mk) 0 63 K = val f 0 63 K := by
    intro K; induction K with
    | zero => rfl
    | succ K ih => unfold val; rw [ih, hrow0]
  -- one cell
  have cell : ∀ q, q < 64 → ∀ S, pv f 1 q B + (e + 1) = 2 ^ B + S → pb f 1 q B = false → (S + (!bt (ms (t + 1)) q).toNat ≤ e → bt (stepF B f mk 1 B) q = false ∧ val (stepF B f mk) 1 q B + (e + 1) = 2 ^ B + (S + (!bt (ms (t + 1)) q).toNat)) ∧ (e < S + (!bt (ms (t + 1)) q).toNat → bt (stepF B f mk 1 B) q = true) := by
    intro q hq S h1 h2
    have hs := val_step B f mk (r := 1) (by omega) hq B (Nat.le_refl _)
    have hp := past_step B f mk (r := 1) (by omega) hq
    have hlt := val_lt (stepF B f mk) 1 q B
    rw [show mk (1 - 1) = ms (t + 1) from hm] at hs
    rw [hp, h2, Bool.false_or]
    revert hs
    cases bt (carF f mk 1 B) q <;> simp <;> intro hs <;> omega
  refine ⟨⟨by rw [hval0]; exact G1, by rw [hrow0]; exact G2⟩, fun r q hr hrW hq ht => ?_, fun q hqt hq => ?_⟩
  · rw [past_step B f mk hr hq]
    have : pb f r q B = true := by
      unfold pb
      split
      · rename_i q0; subst q0
        exact G3 (r - 1) 63 (by omega) (by omega) (by omega) (by omega)
      · exact G3 r (q - 1) hr hrW (by omega) (by omega)
    rw [this, Bool.true_or]
  · cases q with
    | zero =>
      have := cell 0 (by omega) 0 (by unfold pv; simp; exact G1) (by unfold pb; simp; exact G2)
      simpa [Sm] using this
    | succ q =>
      obtain ⟨c1, c2⟩ := G4 q (by omega) (by omega)
      by_cases hS : Sm ms t q ≤ e
      · obtain ⟨d1, d2⟩ := c1 hS
        have := cell (q + 1) hq (Sm ms t q) (by unfold pv; simp; exact d2) (by unfold pb; simp; exact d1)
        simpa [Sm] using this
      · have hb := c2 (by omega)
        have hS' : Sm ms (t + 1) (q + 1) = Sm ms t q + (!bt (ms (t + 1)) (q + 1)).toNat := rfl
        refine ⟨fun h => by omega, fun _ => ?_⟩
        rw [past_step B f mk (r := 1) (by omega) hq]
        have : pb f 1 (q + 1) B = true := by unfold pb; simp; exact hb
        rw [this, Bool.true_or]
def restF (B : Nat) (f : Nat → Nat → Int64) (r k : Nat) : Int64 := if r = 0 then f 0 k else if k < B then 0 else -1
def rmid (B : Nat) (f : Nat → Nat → Int64) (r k : Nat) : Nat → Nat → Int64 := fun r' k' => if r' = 0 then f 0 k' else if r' < r ∨ (r' = r ∧ k' < k) then (if k' < B then 0 else -1) else f r' k'
theorem rmid_next (B : Nat) (f : Nat → Nat → Int64) (r k : Nat) (hr : 1 ≤ r) (hk : k < B) : up (rmid B f r k) r k 0 = rmid B f r (k + 1) := by
  funext r' k'
  unfold up rmid
  by_cases q : r' = r ∧ k' = k
  · obtain ⟨rfl, rfl⟩ := q
    rw [if_pos ⟨rfl, rfl⟩, if_neg (by omega), if_pos (Or.inr ⟨rfl, by omega⟩), if_pos hk]
  · rw [if_neg q]
    have : (r' < r ∨ (r' = r ∧ k' < k)) ↔ (r' < r ∨ (r' = r ∧ k' < k + 1)) := by omega
    simp only [this]
theorem rmid_last (B : Nat) (f : Nat → Nat → Int64) (n R r : Nat) (hn : n = B + 1) (hr : 1 ≤ r) : lay n R (up (rmid B f r B) r B (-1)) = lay n R (rmid B f (r + 1) 0) := by
  apply lay_congr
  intro r' k' _ hk
  unfold up rmid
  by_cases q : r' = r ∧ k' = B
  · obtain ⟨rfl, rfl⟩ := q
    rw [if_pos ⟨rfl, rfl⟩, if_neg (by omega), if_pos (Or.inl (by omega)), if_neg (by omega)]
  · rw [if_neg q]
    have : (r' < r ∨ (r' = r ∧ k' < B)) ↔ (r' < r + 1 ∨ (r' = r + 1 ∧ k' < 0)) := by omega
    simp only [this]
theorem rmid_start (B : Nat) (f : Nat → Nat → Int64) (n R : Nat) : lay n R f = lay n R (rmid B f 1 0) := by
  apply lay_congr
  intro r k _ _
  unfold rmid
  by_cases q : r = 0
  · subst q; rw [if_pos rfl]
  · rw [if_neg q, if_neg (by omega)]
theorem rmid_end (B : Nat) (f : Nat → Nat → Int64) (n R : Nat) : lay n R (rmid B f R 0) = lay n R (restF B f) := by
  apply lay_congr
  intro r k hr _
  unfold rmid restF
  by_cases q : r = 0
  · rw [if_pos q, if_pos q]
  · rw [if_neg q, if_neg q, if_pos (Or.inl hr)]
def initF (B : Nat) (x : Int64) (r k : Nat) : Int64 := if r = 0 ∧ k < B then -(XT.ushrL x (Int32.ofNat k) &&& 1) else 0
theorem initF_next (x : Int64) (k : Nat) : up (initF k x) 0 k (-(XT.ushrL x (Int32.ofNat k) &&& 1)) = initF (k + 1) x := by
  funext r' k'
  unfold up initF
  by_cases q : r' = 0 ∧ k' = k
  · obtain ⟨rfl, rfl⟩ := q
    rw [if_pos ⟨rfl, rfl⟩, if_pos ⟨rfl, by omega⟩]
  · rw [if_neg q]
    have : (r' = 0 ∧ k' < k) ↔ (r' = 0 ∧ k' < k + 1) := by omega
    simp only [this]
theorem initF_zero (x : Int64) : (fun _ _ => 0) = initF 0 x := by
  funext r k
  unfold initF; rw [if_neg (by omega)]
theorem bt_ushr (x : Int64) {k : Nat} (h : k < 64) (q : Nat) : bt (XT.ushrL x (Int32.ofNat k)) q = bt x (k + q) := by
  have e : ∀ k : Fin 64, (((Int32.ofNat k.val).toInt64.toUInt64 &&& Int64.toUInt64 63).toBitVec % 64) = BitVec.ofNat 64 k.val := by decide +kernel
  unfold bt XT.ushrL
  show (x.toUInt64 >>> _).toBitVec.getLsbD q = _
  rw [UInt64.toBitVec_shiftRight, e ⟨k, h⟩]
  show (x.toBitVec >>> (BitVec.ofNat 64 k).toNat).getLsbD q = _
  rw [BitVec.toNat_ofNat, Nat.mod_eq_of_lt (by omega), BitVec.getLsbD_ushiftRight]
theorem and1_cases (y : Int64) : (bt y 0 = true ∧ y &&& 1 = 1) ∨ (bt y 0 = false ∧ y &&& 1 = 0) := by
  have key : ∀ b : BitVec 64, (b.getLsbD 0 = true ∧ b &&& 1#64 = 1#64) ∨ (b.getLsbD 0 = false ∧ b &&& 1#64 = 0#64) := by
    intro b
    cases hb : b.getLsbD 0
    · right; refine ⟨rfl, ?_⟩
      apply BitVec.eq_of_getLsbD_eq; intro i hi
      by_cases e : i = 0
      · subst e; rw [BitVec.getLsbD_and, hb, Bool.false_and]; simp
      · simp [e]
    · left; refine ⟨rfl, ?_⟩
      apply BitVec.eq_of_getLsbD_eq; intro i hi
      by_cases e : i = 0
      · subst e; simp [hb]
      · simp [e]
  rcases key y.toBitVec with ⟨h1, h2⟩ | ⟨h1, h2⟩
  · exact Or.inl ⟨h1, Int64.toBitVec_inj.mp h2⟩
  · exact Or.inr ⟨h1, Int64.toBitVec_inj.mp h2⟩
theorem bt_neg1 (y : Int64) : bt (-(y &&& 1)) 63 = bt y 0 := by
  rcases and1_cases y with ⟨h1, h2⟩ | ⟨h1, h2⟩
  · rw [h1, h2]; decide
  · rw [h1, h2]; decide
theorem bt_ofNat (N q : Nat) (h : N < 2 ^ 64) : bt (Int64.ofNat N) q = N.testBit q := by
  show (BitVec.ofNat 64 N).getLsbD q = _
  rw [BitVec.getLsbD_ofNat]
  by_cases e : q < 64
  · simp [e]
  · rw [Nat.testBit_lt_two_pow (Nat.lt_of_lt_of_le h (Nat.pow_le_pow_right (by decide) (by omega)))]; simp
theorem val_init (B N : Nat) (f : Nat → Nat → Int64) (hf : ∀ k, k < B → bt (f 0 k) 63 = N.testBit k) : ∀ K, K ≤ B → val f 0 63 K = N % 2 ^ K
  | 0, _ => by simp [val, Nat.mod_one]
  | K + 1, h => by
    rw [val, val_init B N f hf K (by omega), hf K (by omega), Nat.mod_pow_succ, Nat.toNat_testBit]
/-- behind the constructor and restart -/
theorem Good.start {B e W : Nat} (ms : Nat → Int64) {x : Int64} (g : Nat → Nat → Int64) (hg : ∀ k, g 0 k = initF B x 0 k) (hB : B ≤ 63) (he : e + 1 ≤ 2 ^ B) (hx : x = Int64.ofNat (2 ^ B - (e + 1))) : Good B e W ms 0 (restF B g) := by
  have hp : 2 ^ B ≤ 2 ^ 63 := Nat.pow_le_pow_right (by decide) hB
  have h0 : ∀ k, restF B g 0 k = initF B x 0 k := fun k => by simp [restF, hg]
  refine ⟨⟨?_, ?_⟩, fun r q hr _ hq _ => ?_, fun q h => by omega⟩
  · rw [val_init B (2 ^ B - (e + 1)) (restF B g) (fun k hk => ?_) B (Nat.le_refl _), Nat.mod_eq_of_lt (by omega)]
    · omega
    · rw [h0, initF, if_pos ⟨rfl, hk⟩, bt_neg1, bt_ushr _ (by omega), Nat.add_zero, hx, bt_ofNat _ _ (by omega)]
  · rw [h0, initF, if_neg (by omega)]; decide
  · rw [restF, if_neg (by omega), if_neg (by omega)]
    have := bt_not 0 hq
    rw [show (0 : Int64) ^^^ (-1) = -1 from by decide] at this
    rw [this]; simp [bt]
/-- what a step returns -/
theorem res_eq (y : Int64) {q : Nat} (hq : q < 64) : XT.ushrL (y ^^^ (-1)) (Int32.ofNat q) &&& 1 = if bt y q = true then 0 else 1 := by
  have h1 := and1_cases (XT.ushrL (y ^^^ (-1)) (Int32.ofNat q))
  rw [bt_ushr _ hq, Nat.add_zero, bt_not _ hq] at h1
  rcases h1 with ⟨h1, h2⟩ | ⟨h1, h2⟩
  · rw [h2, if_neg]; intro h; rw [h] at h1; cases h1
  · rw [h2, if_pos]; simpa using h1
theorem Good.res {B e W t L : Nat} {ms : Nat → Int64} {f : Nat → Nat → Int64} (G : Good B e W ms t f) (hW : 1 ≤ W) (hq : L < 64) :
    (W = 1 → L < t → XT.ushrL (f W B ^^^ (-1)) (Int32.ofNat L) &&& 1 = if e < Sm ms t L then 0 else 1) ∧ (t ≤ 64 * (W - 1) + L → XT.ushrL (f W B ^^^ (-1)) (Int32.ofNat L) &&& 1 = 0) := by
  rw [res_eq _ hq]
  refine ⟨fun hw hl => ?_, fun h => ?_⟩
  · subst hw
    obtain ⟨c1, c2⟩ := G.2.2 L hl hq
    by_cases q : e < Sm ms t L
    · rw [if_pos q, if_pos (c2 q)]
    · rw [if_neg q, (c1 (by omega)).1]; rfl
  · rw [if_pos (G.2.1 W L hW (Nat.le_refl _) hq h)]
theorem lay_geti {n R r k i : Nat} (f : Nat → Nat → Int64) (hr : r < R) (hk : k < n) (e : i = r * n + k) : (lay n R f)[i]? = some (f r k) := by subst e; exact lay_get f hr hk
theorem lay_seti {n R r k i : Nat} (f : Nat → Nat → Int64) (hr : r < R) (hk : k < n) (e : i = r * n + k) (v : Int64) : (lay n R f).set i v = lay n R (up f r k v) := by subst e; exact lay_set f hr hk v
theorem own_1add (i : Nat) : 1 + Int32.ofNat i = Int32.ofNat (i + 1) := by rw [Nat.add_comm]; exact own_nadd 1 i
theorem own_succsub (i : Nat) : Int32.ofNat (i + 1) - 1 = Int32.ofNat i := own_nsub (i := i + 1) (j := 1) (by omega)
def misF (m : Int64) (j : Int32) : Int64 := if XT.ushrL m j &&& 1 = 0 then 1 else 0
theorem misF_eq (m : Int64) {j : Nat} (h : j < 64) : misF m (Int32.ofNat j) = Int64.ofNat (!bt m j).toNat := by
  unfold misF
  rcases and1_cases (XT.ushrL m (Int32.ofNat j)) with ⟨h1, h2⟩ | ⟨h1, h2⟩
  · rw [bt_ushr _ h, Nat.add_zero] at h1; rw [h2, h1]; rfl
  · rw [bt_ushr _ h, Nat.add_zero] at h1; rw [h2, h1]; rfl
def msF (m1 m2 m3 m4 m5 : Int64) : Nat → Int64
  | 1 => m1 | 2 => m2 | 3 => m3 | 4 => m4 | 5 => m5 | _ => 0
theorem ms_get {m1 m2 m3 m4 m5 : Int64} : ∀ {i : Nat}, i < 6 → ([0, m1, m2, m3, m4, m5] : List Int64)[i]? = some (msF m1 m2 m3 m4 m5 i)
  | 0, _ => rfl | 1, _ => rfl | 2, _ => rfl | 3, _ => rfl | 4, _ => rfl | 5, _ => rfl
def trmF (ms : Nat → Int64) (t L j : Nat) : Int64 := if j < L then misF (ms (t - L + 1 + j)) (Int32.ofNat j) else 0
theorem own_i64nat {e : Nat} (h : e < 2147483648) : (Int32.ofNat e).toInt64 = Int64.ofNat e := by
  apply Int64.toInt_inj.mp
  rw [Int32.toInt_toInt64, own_nint h]
  exact (Int64.toInt_ofNat_of_lt (by omega)).symm
theorem own_lnlt {a b : Nat} (ha : a < 9223372036854775808) (hb : b < 9223372036854775808) : (Int64.ofNat a < Int64.ofNat b) ↔ a < b := by
  rw [Int64.lt_iff_toInt_lt, Int64.toInt_ofNat_of_lt ha, Int64.toInt_ofNat_of_lt hb]; omega
theorem own_sum5 (ms : Nat → Int64) {L t : Nat} (h1 : 1 ≤ L) (h2 : L ≤ t) (h3 : t ≤ 5) : trmF ms t L 0 + trmF ms t L 1 + trmF ms t L 2 + trmF ms t L 3 + trmF ms t L 4 = Int64.ofNat (Sm ms t (L - 1)) := by
  have e : ∀ j : Nat, j < 5 → trmF ms t L j = Int64.ofNat (if j < L then (!bt (ms (t - L + 1 + j)) j).toNat else 0) := by
    intro j hj
    unfold trmF
    split
    · exact misF_eq _ (by omega)
    · rfl
  rw [e 0 (by omega), e 1 (by omega), e 2 (by omega), e 3 (by omega), e 4 (by omega)]
  simp only [← Int64.ofNat_add]
  congr 1
  have hL : L = 1 ∨ L = 2 ∨ L = 3 ∨ L = 4 ∨ L = 5 := by omega
  have ht : t = 1 ∨ t = 2 ∨ t = 3 ∨ t = 4 ∨ t = 5 := by omega
  rcases hL with rfl | rfl | rfl | rfl | rfl <;> rcases ht with rfl | rfl | rfl | rfl | rfl <;> first | omega | rfl | (simp [Sm] <;> omega)
theorem Sm_le (ms : Nat → Int64) : ∀ q t, Sm ms t q ≤ q + 1
  | 0, t => by unfold Sm; cases bt (ms t) 0 <;> simp
  | q + 1, t => by
    have := Sm_le ms q (t - 1)
    unfold Sm; cases bt (ms t) (q + 1) <;> simp <;> omega
def expF (ms : Nat → Int64) (e L t : Nat) : Int64 := if t < L then 0 else if e < Sm ms t (L - 1) then 0 else 1
theorem own_exp {ms : Nat → Int64} {B e t L : Nat} {f : Nat → Nat → Int64} (G : Good B e 1 ms t f) (h1 : 1 ≤ L) (h2 : L ≤ 64) : XT.ushrL (f 1 B ^^^ (-1)) (Int32.ofNat ((L - 1) % 64)) &&& 1 = expF ms e L t := by
  rw [Nat.mod_eq_of_lt (by omega)]
  obtain ⟨c1, c2⟩ := G.res (L := L - 1) (Nat.le_refl 1) (by omega)
  unfold expF
  by_cases q : t < L
  · rw [if_pos q]; exact c2 (by omega)
  · rw [if_neg q]; exact c1 rfl (by omega)
theorem own_ushr8 (x : Int32) : ∃ u : Nat, u < 16777216 ∧ XT.ushr x 8 = Int32.ofNat u := by
  have e : (XT.ushr x 8).toBitVec = x.toBitVec >>> 8 := rfl
  refine ⟨(x.toBitVec >>> 8).toNat, ?_, ?_⟩
  · rw [BitVec.toNat_ushiftRight, Nat.shiftRight_eq_div_pow]
    have := x.toBitVec.isLt; omega
  · apply Int32.toBitVec_inj.mp
    rw [e]
    show _ = BitVec.ofNat 32 _
    rw [BitVec.ofNat_toNat, BitVec.setWidth_eq]
theorem D33_47_0 : Dc jdk_33_method_47_code 0 (.iload_n 0) 1 1 := dc (by decide +kernel) rfl
theorem D33_47_1 : Db jdk_33_method_47_code 1 (.ifCond .gt) 4 15 := db (14) (by decide +kernel) rfl (by decide) (by decide)
theorem D33_47_4 : Dc jdk_33_method_47_code 4 (.iload_n 0) 1 5 := dc (by decide +kernel) rfl
theorem D33_47_5 : Db jdk_33_method_47_code 5 (.ifCond .ne) 8 13 := db (8) (by decide +kernel) rfl (by decide) (by decide)
theorem D33_47_8 : Dc jdk_33_method_47_code 8 (.bipush 32) 2 10 := dc (by decide +kernel) rfl
theorem D33_47_10 : Db jdk_33_method_47_code 10 (.goto) 13 14 := db (4) (by decide +kernel) rfl (by decide) (by decide)
theorem D33_47_13 : Dc jdk_33_method_47_code 13 (.iconst 0) 1 14 := dc (by decide +kernel) rfl
theorem D33_47_14 : Dc jdk_33_method_47_code 14 (.ireturn) 1 15 := dc (by decide +kernel) rfl
theorem D33_47_15 : Dc jdk_33_method_47_code 15 (.bipush 31) 2 17 := dc (by decide +kernel) rfl
theorem D33_47_17 : Dc jdk_33_method_47_code 17 (.istore_n 1) 1 18 := dc (by decide +kernel) rfl
theorem D33_47_18 : Dc jdk_33_method_47_code 18 (.iload_n 0) 1 19 := dc (by decide +kernel) rfl
theorem D33_47_19 : Dc jdk_33_method_47_code 19 (.ldc_w 264) 3 22 := dc (by decide +kernel) rfl
theorem D33_47_22 : Db jdk_33_method_47_code 22 (.if_icmp .lt) 25 33 := db (11) (by decide +kernel) rfl (by decide) (by decide)
theorem D33_47_25 : Dc jdk_33_method_47_code 25 (.iinc 1 (-16)) 3 28 := dc (by decide +kernel) rfl
theorem D33_47_28 : Dc jdk_33_method_47_code 28 (.iload_n 0) 1 29 := dc (by decide +kernel) rfl
theorem D33_47_29 : Dc jdk_33_method_47_code 29 (.bipush 16) 2 31 := dc (by decide +kernel) rfl
theorem D33_47_31 : Dc jdk_33_method_47_code 31 (.iushr) 1 32 := dc (by decide +kernel) rfl
theorem D33_47_32 : Dc jdk_33_method_47_code 32 (.istore_n 0) 1 33 := dc (by decide +kernel) rfl
theorem D33_47_33 : Dc jdk_33_method_47_code 33 (.iload_n 0) 1 34 := dc (by decide +kernel) rfl
theorem D33_47_34 : Dc jdk_33_method_47_code 34 (.sipush 256) 3 37 := dc (by decide +kernel) rfl
theorem D33_47_37 : Db jdk_33_method_47_code 37 (.if_icmp .lt) 40 48 := db (11) (by decide +kernel) rfl (by decide) (by decide)
theorem D33_47_40 : Dc jdk_33_method_47_code 40 (.iinc 1 (-8)) 3 43 := dc (by decide +kernel) rfl
theorem D33_47_43 : Dc jdk_33_method_47_code 43 (.iload_n 0) 1 44 := dc (by decide +kernel) rfl
theorem D33_47_44 : Dc jdk_33_method_47_code 44 (.bipush 8) 2 46 := dc (by decide +kernel) rfl
theorem D33_47_46 : Dc jdk_33_method_47_code 46 (.iushr) 1 47 := dc (by decide +kernel) rfl
theorem D33_47_47 : Dc jdk_33_method_47_code 47 (.istore_n 0) 1 48 := dc (by decide +kernel) rfl
theorem D33_47_48 : Dc jdk_33_method_47_code 48 (.iload_n 0) 1 49 := dc (by decide +kernel) rfl
theorem D33_47_49 : Dc jdk_33_method_47_code 49 (.bipush 16) 2 51 := dc (by decide +kernel) rfl
theorem D33_47_51 : Db jdk_33_method_47_code 51 (.if_icmp .lt) 54 61 := db (10) (by decide +kernel) rfl (by decide) (by decide)
theorem D33_47_54 : Dc jdk_33_method_47_code 54 (.iinc 1 (-4)) 3 57 := dc (by decide +kernel) rfl
theorem D33_47_57 : Dc jdk_33_method_47_code 57 (.iload_n 0) 1 58 := dc (by decide +kernel) rfl
theorem D33_47_58 : Dc jdk_33_method_47_code 58 (.iconst 4) 1 59 := dc (by decide +kernel) rfl
theorem D33_47_59 : Dc jdk_33_method_47_code 59 (.iushr) 1 60 := dc (by decide +kernel) rfl
theorem D33_47_60 : Dc jdk_33_method_47_code 60 (.istore_n 0) 1 61 := dc (by decide +kernel) rfl
theorem D33_47_61 : Dc jdk_33_method_47_code 61 (.iload_n 0) 1 62 := dc (by decide +kernel) rfl
theorem D33_47_62 : Dc jdk_33_method_47_code 62 (.iconst 4) 1 63 := dc (by decide +kernel) rfl
theorem D33_47_63 : Db jdk_33_method_47_code 63 (.if_icmp .lt) 66 73 := db (10) (by decide +kernel) rfl (by decide) (by decide)
theorem D33_47_66 : Dc jdk_33_method_47_code 66 (.iinc 1 (-2)) 3 69 := dc (by decide +kernel) rfl
theorem D33_47_69 : Dc jdk_33_method_47_code 69 (.iload_n 0) 1 70 := dc (by decide +kernel) rfl
theorem D33_47_70 : Dc jdk_33_method_47_code 70 (.iconst 2) 1 71 := dc (by decide +kernel) rfl
theorem D33_47_71 : Dc jdk_33_method_47_code 71 (.iushr) 1 72 := dc (by decide +kernel) rfl
theorem D33_47_72 : Dc jdk_33_method_47_code 72 (.istore_n 0) 1 73 := dc (by decide +kernel) rfl
theorem D33_47_73 : Dc jdk_33_method_47_code 73 (.iload_n 1) 1 74 := dc (by decide +kernel) rfl
theorem D33_47_74 : Dc jdk_33_method_47_code 74 (.iload_n 0) 1 75 := dc (by decide +kernel) rfl
theorem D33_47_75 : Dc jdk_33_method_47_code 75 (.iconst 1) 1 76 := dc (by decide +kernel) rfl
theorem D33_47_76 : Dc jdk_33_method_47_code 76 (.iushr) 1 77 := dc (by decide +kernel) rfl
theorem D33_47_77 : Dc jdk_33_method_47_code 77 (.isub) 1 78 := dc (by decide +kernel) rfl
theorem D33_47_78 : Dc jdk_33_method_47_code 78 (.ireturn) 1 79 := dc (by decide +kernel) rfl
theorem pf_nlz : plainFor (⟨"java/lang/Integer", "numberOfLeadingZeros", "(I)I"⟩ : MethodName) = true := by decide +kernel
set_option maxRecDepth 65536 in
set_option maxHeartbeats 40000000 in
theorem ct_nlz (l : Launch) (Z : State) (a0 : Array Value) (hw : ∀ d ∈ tables_1, d.before a0 Z = true) (n0 : Nat) (h : Heap) (y : Int32) :
    Ct l Z n0 (⟨"java/lang/Integer", "numberOfLeadingZeros", "(I)I"⟩ : MethodName) jdk_33_method_47_code 2 (some .int) ({ frames := 0, cells := 0, slots := 0, locals := 0 } : Room) [.int y] h (fun v h' => v = some (.int (nlzF y)) ∧ h = h') := by
  refine Ct.intro pf_nlz [.val (.int y), .unset] (fun m => by first | (simp [entryFrame, mkF, argsToLocals, Value.category]; done) | (simp [entryFrame, mkF, argsToLocals, Value.category, maxLocals]; done) | rfl) ?_
  intro k hl K
  replace K : Ok k Z n0 "java/lang/Integer" ({ frames := 0, cells := 0, slots := 0, locals := 0 } : Room) jdk_33_method_47_code 2 (some .int) "numberOfLeadingZeros" := K
  have j73 : ∀ x n : Int32, f73 x n = nlzF y → G k n0 (fun v h' => v = some (.int (nlzF y)) ∧ h = h') h 0 0 73 [.val (.int x), .val (.int n)] [] := by
    intro x n hx
    refine G.iloadN K D33_47_73 rfl ?_
    refine G.iloadN K D33_47_74 rfl ?_
    refine G.iconst K D33_47_75 1 rfl ?_
    refine G.iushr K D33_47_76 ?_
    refine G.isub K D33_47_77 ?_
    refine G.ret_int K D33_47_78 ?_
    exact ⟨by rw [← hx, f73], rfl⟩
  have j61 : ∀ x n : Int32, f61 x n = nlzF y → G k n0 (fun v h' => v = some (.int (nlzF y)) ∧ h = h') h 0 0 61 [.val (.int x), .val (.int n)] [] := by
    intro x n hx
    refine G.iloadN K D33_47_61 rfl ?_
    refine G.iconst K D33_47_62 4 rfl ?_
    refine G.icmp_lt K D33_47_63 (fun q1 => ?_) (fun q1 => ?_)
    · exact j73 _ _ (by rw [← hx, f61, if_pos q1])
    · refine G.iinc K D33_47_66 (-2) rfl rfl ([.val (.int x), .val (.int (n + (-2)))]) rfl ?_
      refine G.iloadN K D33_47_69 rfl ?_
      refine G.iconst K D33_47_70 2 rfl ?_
      refine G.iushr K D33_47_71 ?_
      refine G.istoreN K D33_47_72 ([.val (.int (XT.ushr x (2 : Int32))), .val (.int (n + (-2)))]) rfl ?_
      exact j73 _ _ (by rw [← hx, f61, if_neg q1])
  have j48 : ∀ x n : Int32, f48 x n = nlzF y → G k n0 (fun v h' => v = some (.int (nlzF y)) ∧ h = h') h 0 0 48 [.val (.int x), .val (.int n)] [] := by
    intro x n hx
    refine G.iloadN K D33_47_48 rfl ?_
    refine G.bipush K D33_47_49 16 rfl ?_
    refine G.icmp_lt K D33_47_51 (fun q2 => ?_) (fun q2 => ?_)
    · exact j61 _ _ (by rw [← hx, f48, if_pos q2])
    · refine G.iinc K D33_47_54 (-4) rfl rfl ([.val (.int x), .val (.int (n + (-4)))]) rfl ?_
      refine G.iloadN K D33_47_57 rfl ?_
      refine G.iconst K D33_47_58 4 rfl ?_
      refine G.iushr K D33_47_59 ?_
      refine G.istoreN K D33_47_60 ([.val (.int (XT.ushr x (4 : Int32))), .val (.int (n + (-4)))]) rfl ?_
      exact j61 _ _ (by rw [← hx, f48, if_neg q2])
  have j33 : ∀ x n : Int32, f33 x n = nlzF y → G k n0 (fun v h' => v = some (.int (nlzF y)) ∧ h = h') h 0 0 33 [.val (.int x), .val (.int n)] [] := by
    intro x n hx
    refine G.iloadN K D33_47_33 rfl ?_
    refine G.sipush K D33_47_34 256 rfl ?_
    refine G.icmp_lt K D33_47_37 (fun q3 => ?_) (fun q3 => ?_)
    · exact j48 _ _ (by rw [← hx, f33, if_pos q3])
    · refine G.iinc K D33_47_40 (-8) rfl rfl ([.val (.int x), .val (.int (n + (-8)))]) rfl ?_
      refine G.iloadN K D33_47_43 rfl ?_
      refine G.bipush K D33_47_44 8 rfl ?_
      refine G.iushr K D33_47_46 ?_
      refine G.istoreN K D33_47_47 ([.val (.int (XT.ushr x (8 : Int32))), .val (.int (n + (-8)))]) rfl ?_
      exact j48 _ _ (by rw [← hx, f33, if_neg q3])
  have j18 : ∀ x n : Int32, f18 x n = nlzF y → G k n0 (fun v h' => v = some (.int (nlzF y)) ∧ h = h') h 0 0 18 [.val (.int x), .val (.int n)] [] := by
    intro x n hx
    refine G.iloadN K D33_47_18 rfl ?_
    refine G.ldcWI K D33_47_19 (wd hw 43 rfl) ?_
    refine G.icmp_lt K D33_47_22 (fun q4 => ?_) (fun q4 => ?_)
    · exact j33 _ _ (by rw [← hx, f18, if_pos q4])
    · refine G.iinc K D33_47_25 (-16) rfl rfl ([.val (.int x), .val (.int (n + (-16)))]) rfl ?_
      refine G.iloadN K D33_47_28 rfl ?_
      refine G.bipush K D33_47_29 16 rfl ?_
      refine G.iushr K D33_47_31 ?_
      refine G.istoreN K D33_47_32 ([.val (.int (XT.ushr x (16 : Int32))), .val (.int (n + (-16)))]) rfl ?_
      exact j33 _ _ (by rw [← hx, f18, if_neg q4])
  refine G.iloadN K D33_47_0 rfl ?_
  refine G.if_gt K D33_47_1 (fun q5 => ?_) (fun q5 => ?_)
  · refine G.bipush K D33_47_15 31 rfl ?_
    refine G.istoreN K D33_47_17 ([.val (.int y), .val (.int 31)]) rfl ?_
    exact j18 _ _ (by rw [nlzF, if_pos q5])
  · refine G.iloadN K D33_47_4 rfl ?_
    refine G.if_ne K D33_47_5 (fun q6 => ?_) (fun q6 => ?_)
    · refine G.iconst K D33_47_13 0 rfl ?_
      refine G.ret_int K D33_47_14 ?_
      exact ⟨by simp [nlzF, q5, q6], rfl⟩
    · refine G.bipush K D33_47_8 32 rfl ?_
      refine G.goto K D33_47_10 ?_
      refine G.ret_int K D33_47_14 ?_
      exact ⟨by simp [nlzF, q5, q6], rfl⟩
theorem D21_1_0 : Dc prog_21_method_1_code 0 (.aload_n 0) 1 1 := dc (by decide +kernel) rfl
theorem D21_1_1 : Dc prog_21_method_1_code 1 (.invokespecial 1) 3 4 := dc (by decide +kernel) rfl
theorem D21_1_4 : Dc prog_21_method_1_code 4 (.bipush 32) 2 6 := dc (by decide +kernel) rfl
theorem D21_1_6 : Dc prog_21_method_1_code 6 (.iload_n 3) 1 7 := dc (by decide +kernel) rfl
theorem D21_1_7 : Dc prog_21_method_1_code 7 (.invokestatic 9) 3 10 := dc (by decide +kernel) rfl
theorem D21_1_10 : Dc prog_21_method_1_code 10 (.isub) 1 11 := dc (by decide +kernel) rfl
theorem D21_1_11 : Dc prog_21_method_1_code 11 (.istore 4) 2 13 := dc (by decide +kernel) rfl
theorem D21_1_13 : Dc prog_21_method_1_code 13 (.aload_n 0) 1 14 := dc (by decide +kernel) rfl
theorem D21_1_14 : Dc prog_21_method_1_code 14 (.iload_n 1) 1 15 := dc (by decide +kernel) rfl
theorem D21_1_15 : Dc prog_21_method_1_code 15 (.putfield 13) 3 18 := dc (by decide +kernel) rfl
theorem D21_1_18 : Dc prog_21_method_1_code 18 (.aload_n 0) 1 19 := dc (by decide +kernel) rfl
theorem D21_1_19 : Dc prog_21_method_1_code 19 (.iload 4) 2 21 := dc (by decide +kernel) rfl
theorem D21_1_21 : Dc prog_21_method_1_code 21 (.iconst 1) 1 22 := dc (by decide +kernel) rfl
theorem D21_1_22 : Dc prog_21_method_1_code 22 (.iadd) 1 23 := dc (by decide +kernel) rfl
theorem D21_1_23 : Dc prog_21_method_1_code 23 (.putfield 19) 3 26 := dc (by decide +kernel) rfl
theorem D21_1_26 : Dc prog_21_method_1_code 26 (.aload_n 0) 1 27 := dc (by decide +kernel) rfl
theorem D21_1_27 : Dc prog_21_method_1_code 27 (.iconst 1) 1 28 := dc (by decide +kernel) rfl
theorem D21_1_28 : Dc prog_21_method_1_code 28 (.iload_n 1) 1 29 := dc (by decide +kernel) rfl
theorem D21_1_29 : Dc prog_21_method_1_code 29 (.iadd) 1 30 := dc (by decide +kernel) rfl
theorem D21_1_30 : Dc prog_21_method_1_code 30 (.aload_n 0) 1 31 := dc (by decide +kernel) rfl
theorem D21_1_31 : Dc prog_21_method_1_code 31 (.getfield 19) 3 34 := dc (by decide +kernel) rfl
theorem D21_1_34 : Dc prog_21_method_1_code 34 (.imul) 1 35 := dc (by decide +kernel) rfl
theorem D21_1_35 : Dc prog_21_method_1_code 35 (.newarray .long) 2 37 := dc (by decide +kernel) rfl
theorem D21_1_37 : Dc prog_21_method_1_code 37 (.putfield 22) 3 40 := dc (by decide +kernel) rfl
theorem D21_1_40 : Dc prog_21_method_1_code 40 (.lconst 1) 1 41 := dc (by decide +kernel) rfl
theorem D21_1_41 : Dc prog_21_method_1_code 41 (.iload 4) 2 43 := dc (by decide +kernel) rfl
theorem D21_1_43 : Dc prog_21_method_1_code 43 (.lshl) 1 44 := dc (by decide +kernel) rfl
theorem D21_1_44 : Dc prog_21_method_1_code 44 (.iload_n 3) 1 45 := dc (by decide +kernel) rfl
theorem D21_1_45 : Dc prog_21_method_1_code 45 (.i2l) 1 46 := dc (by decide +kernel) rfl
theorem D21_1_46 : Dc prog_21_method_1_code 46 (.lconst 1) 1 47 := dc (by decide +kernel) rfl
theorem D21_1_47 : Dc prog_21_method_1_code 47 (.ladd) 1 48 := dc (by decide +kernel) rfl
theorem D21_1_48 : Dc prog_21_method_1_code 48 (.lsub) 1 49 := dc (by decide +kernel) rfl
theorem D21_1_49 : Dc prog_21_method_1_code 49 (.lstore 5) 2 51 := dc (by decide +kernel) rfl
theorem D21_1_51 : Dc prog_21_method_1_code 51 (.iconst 0) 1 52 := dc (by decide +kernel) rfl
theorem D21_1_52 : Dc prog_21_method_1_code 52 (.istore 7) 2 54 := dc (by decide +kernel) rfl
theorem D21_1_54 : Dc prog_21_method_1_code 54 (.iload 7) 2 56 := dc (by decide +kernel) rfl
theorem D21_1_56 : Dc prog_21_method_1_code 56 (.iload 4) 2 58 := dc (by decide +kernel) rfl
theorem D21_1_58 : Db prog_21_method_1_code 58 (.if_icmp .ge) 61 82 := db (24) (by decide +kernel) rfl (by decide) (by decide)
theorem D21_1_61 : Dc prog_21_method_1_code 61 (.aload_n 0) 1 62 := dc (by decide +kernel) rfl
theorem D21_1_62 : Dc prog_21_method_1_code 62 (.getfield 22) 3 65 := dc (by decide +kernel) rfl
theorem D21_1_65 : Dc prog_21_method_1_code 65 (.iload 7) 2 67 := dc (by decide +kernel) rfl
theorem D21_1_67 : Dc prog_21_method_1_code 67 (.lload 5) 2 69 := dc (by decide +kernel) rfl
theorem D21_1_69 : Dc prog_21_method_1_code 69 (.iload 7) 2 71 := dc (by decide +kernel) rfl
theorem D21_1_71 : Dc prog_21_method_1_code 71 (.lushr) 1 72 := dc (by decide +kernel) rfl
theorem D21_1_72 : Dc prog_21_method_1_code 72 (.lconst 1) 1 73 := dc (by decide +kernel) rfl
theorem D21_1_73 : Dc prog_21_method_1_code 73 (.land) 1 74 := dc (by decide +kernel) rfl
theorem D21_1_74 : Dc prog_21_method_1_code 74 (.lneg) 1 75 := dc (by decide +kernel) rfl
theorem D21_1_75 : Dc prog_21_method_1_code 75 (.lastore) 1 76 := dc (by decide +kernel) rfl
theorem D21_1_76 : Dc prog_21_method_1_code 76 (.iinc 7 1) 3 79 := dc (by decide +kernel) rfl
theorem D21_1_79 : Db prog_21_method_1_code 79 (.goto) 82 54 := db (-25) (by decide +kernel) rfl (by decide) (by decide)
theorem D21_1_82 : Dc prog_21_method_1_code 82 (.aload_n 0) 1 83 := dc (by decide +kernel) rfl
theorem D21_1_83 : Dc prog_21_method_1_code 83 (.iload_n 2) 1 84 := dc (by decide +kernel) rfl
theorem D21_1_84 : Dc prog_21_method_1_code 84 (.iconst 1) 1 85 := dc (by decide +kernel) rfl
theorem D21_1_85 : Dc prog_21_method_1_code 85 (.isub) 1 86 := dc (by decide +kernel) rfl
theorem D21_1_86 : Dc prog_21_method_1_code 86 (.bipush 64) 2 88 := dc (by decide +kernel) rfl
theorem D21_1_88 : Dc prog_21_method_1_code 88 (.irem) 1 89 := dc (by decide +kernel) rfl
theorem D21_1_89 : Dc prog_21_method_1_code 89 (.putfield 28) 3 92 := dc (by decide +kernel) rfl
theorem D21_1_92 : Dc prog_21_method_1_code 92 (.return_) 1 93 := dc (by decide +kernel) rfl
theorem pn_0 : plainName "com/example/bitstride/bitstride/search/MismatchCounts" = true := by first | (simp [plainName, overriddenIn]; done) | decide +kernel
set_option maxRecDepth 65536 in
set_option maxHeartbeats 40000000 in
theorem ct_init1 (l : Launch) (Z : State) (a0 : Array Value) (hw : ∀ d ∈ tables_1, d.before a0 Z = true) (n0 : Nat) (h : Heap) (a : Addr) (L e B : Nat) (σ : List Ch) (hL : 1 ≤ L) (hL2 : L ≤ 128) (hb7 : B ≤ 7) (hB : 32 - nlzF (Int32.ofNat e) = Int32.ofNat B) (H : Hp n0 h ((a, Ob Z "com/example/bitstride/bitstride/search/MismatchCounts" NSC [.null, .int 0, .int 0, .int 0]) :: σ)) :
    Ct l Z n0 (⟨"com/example/bitstride/bitstride/search/MismatchCounts", "<init>", "(III)V"⟩ : MethodName) prog_21_method_1_code 8 none ({ frames := 1, cells := 1, slots := 24, locals := 16 } : Room) [.ref a, .int 1, .int (Int32.ofNat L), .int (Int32.ofNat e)] h (fun v h' => v = none ∧ ∃ pa : Addr, Hp n0 h' ((a, Ob Z "com/example/bitstride/bitstride/search/MismatchCounts" NSC [.ref pa, .int (Int32.ofNat (B + 1)), .int 1, .int (Int32.ofNat ((L - 1) % 64))]) :: (pa, La Z (lay (B + 1) 2 (initF B ((1 <<< ((Int32.ofNat B).toInt64 &&& 63)) - ((Int32.ofNat e).toInt64 + 1))))) :: σ)) := by
  refine Ct.intro (plainFor_of_name pn_0) [.val (.ref a), .val (.int 1), .val (.int (Int32.ofNat L)), .val (.int (Int32.ofNat e)), .unset, .unset, .unset, .unset] (fun m => by first | (simp [entryFrame, mkF, argsToLocals, Value.category]; done) | (simp [entryFrame, mkF, argsToLocals, Value.category, maxLocals]; done) | rfl) ?_
  intro k hl K
  replace K : Ok k Z n0 "com/example/bitstride/bitstride/search/MismatchCounts" ({ frames := 1, cells := 1, slots := 24, locals := 16 } : Room) prog_21_method_1_code 8 none "<init>" := K
  refine G.aloadN K D21_1_0 rfl rfl ?_
  refine G.initO K (wd hw 7 rfl) (wd hw 8 rfl) (wd hw 9 rfl) rfl 0 rfl (by decide) (by decide) D21_1_1 ?_
  refine G.bipush K D21_1_4 32 rfl ?_
  refine G.iloadN K D21_1_6 rfl ?_
  refine G.callS K hl (wd hw 10 rfl) (wd hw 11 rfl) (wd hw 12 rfl) (wd hw 13 rfl) (by decide) pd_0 (ct_nlz l Z a0 hw n0 _ (Int32.ofNat e)) 1 rfl (by decide) (by decide) (by decide) (by decide) rfl rfl [.int (Int32.ofNat e)] rfl D21_1_7 ?_
  rintro _ _ ⟨rfl, rfl⟩
  change G k n0 _ h _ _ 10 [.val (.ref a), .val (.int 1), .val (.int (Int32.ofNat L)), .val (.int (Int32.ofNat e)), .unset, .unset, .unset, .unset] [.int (nlzF (Int32.ofNat e)), .int 32]
  refine G.isub K D21_1_10 ?_
  rw [hB]
  refine G.istore K D21_1_11 ([.val (.ref a), .val (.int 1), .val (.int (Int32.ofNat L)), .val (.int (Int32.ofNat e)), .val (.int (Int32.ofNat B)), .unset, .unset, .unset]) rfl ?_
  refine G.aloadN K D21_1_13 rfl rfl ?_
  refine G.iloadN K D21_1_14 rfl ?_
  refine G.putF K (host := "") (Or.inl (wd hw 14 rfl)) (cf_NSC hw) (Or.inr ⟨(wd hw 15 rfl), rfl, rfl⟩) (wd hw 2 rfl) H (i := 0) rfl (j := 2) rfl rfl (ty := .int) (by decide) rfl rfl D21_1_15 ?_
  intro h7 H7
  change Hp n0 h7 ((a, Ob Z "com/example/bitstride/bitstride/search/MismatchCounts" NSC [.null, .int 0, .int 1, .int 0]) :: σ) at H7
  refine G.aloadN K D21_1_18 rfl rfl ?_
  refine G.iload K D21_1_19 rfl ?_
  refine G.iconst K D21_1_21 1 rfl ?_
  refine G.iadd K D21_1_22 ?_
  rw [own_nsucc]
  refine G.putF K (host := "") (Or.inl (wd hw 16 rfl)) (cf_NSC hw) (Or.inr ⟨(wd hw 17 rfl), rfl, rfl⟩) (wd hw 2 rfl) H7 (i := 0) rfl (j := 1) rfl rfl (ty := .int) (by decide) rfl rfl D21_1_23 ?_
  intro h8 H8
  change Hp n0 h8 ((a, Ob Z "com/example/bitstride/bitstride/search/MismatchCounts" NSC [.null, .int (Int32.ofNat (B + 1)), .int 1, .int 0]) :: σ) at H8
  refine G.aloadN K D21_1_26 rfl rfl ?_
  refine G.iconst K D21_1_27 1 rfl ?_
  refine G.iloadN K D21_1_28 rfl ?_
  refine G.iadd K D21_1_29 ?_
  change G k n0 _ h8 _ _ 30 [.val (.ref a), .val (.int 1), .val (.int (Int32.ofNat L)), .val (.int (Int32.ofNat e)), .val (.int (Int32.ofNat B)), .unset, .unset, .unset] [.int 2, .ref a]
  refine G.aloadN K D21_1_30 rfl rfl ?_
  refine G.getF K (host := "") (Or.inl (wd hw 16 rfl)) H8 (i := 0) rfl (j := 1) rfl rfl D21_1_31 ?_
  refine G.imul K D21_1_34 ?_
  rw [show (2 : Int32) * Int32.ofNat (B + 1) = Int32.ofNat (2 * (B + 1)) from own_nmul 2 (B + 1)]
  refine G.newarr_l K (wd hw 0 rfl) H8 (own_nneg (by omega)) 24 (by rw [own_nidx (by omega)]; omega) (by decide) (by decide) (by decide) D21_1_35 ?_
  intro a9 h10 H10
  rw [own_nidx (by omega), lay_zero, initF_zero ((1 <<< ((Int32.ofNat B).toInt64 &&& 63)) - ((Int32.ofNat e).toInt64 + 1))] at H10
  change Hp n0 h10 ((a9, La Z (lay (B + 1) 2 (initF 0 ((1 <<< ((Int32.ofNat B).toInt64 &&& 63)) - ((Int32.ofNat e).toInt64 + 1))))) :: (a, Ob Z "com/example/bitstride/bitstride/search/MismatchCounts" NSC [.null, .int (Int32.ofNat (B + 1)), .int 1, .int 0]) :: σ) at H10
  refine G.putF K (host := "") (Or.inl (wd hw 18 rfl)) (cf_NSC hw) (Or.inr ⟨(wd hw 19 rfl), rfl, rfl⟩) (wd hw 2 rfl) H10 (i := 1) rfl (j := 0) rfl rfl (ty := (.array .long)) (by decide) rfl rfl D21_1_37 ?_
  intro h11 H11
  change Hp n0 h11 ((a9, La Z (lay (B + 1) 2 (initF 0 ((1 <<< ((Int32.ofNat B).toInt64 &&& 63)) - ((Int32.ofNat e).toInt64 + 1))))) :: (a, Ob Z "com/example/bitstride/bitstride/search/MismatchCounts" NSC [.ref a9, .int (Int32.ofNat (B + 1)), .int 1, .int 0]) :: σ) at H11
  refine G.lconst K D21_1_40 1 rfl ?_
  refine G.iload K D21_1_41 rfl ?_
  refine G.lshl K D21_1_43 ?_
  refine G.iloadN K D21_1_44 rfl ?_
  refine G.i2l K D21_1_45 ?_
  refine G.lconst K D21_1_46 1 rfl ?_
  refine G.ladd K D21_1_47 ?_
  refine G.lsub K D21_1_48 ?_
  refine G.lstore K D21_1_49 ([.val (.ref a), .val (.int 1), .val (.int (Int32.ofNat L)), .val (.int (Int32.ofNat e)), .val (.int (Int32.ofNat B)), .val (.long (((1 : Int64) <<< ((Int32.ofNat B).toInt64 &&& 63)) - (((Int32.ofNat e).toInt64) + 1))), .second, .unset]) rfl ?_
  refine G.iconst K D21_1_51 0 rfl ?_
  refine G.istore K D21_1_52 ([.val (.ref a), .val (.int 1), .val (.int (Int32.ofNat L)), .val (.int (Int32.ofNat e)), .val (.int (Int32.ofNat B)), .val (.long (((1 : Int64) <<< ((Int32.ofNat B).toInt64 &&& 63)) - (((Int32.ofNat e).toInt64) + 1))), .second, .val (.int 0)]) rfl ?_
  have H12 : Hp n0 h11 ((a, Ob Z "com/example/bitstride/bitstride/search/MismatchCounts" NSC [.ref a9, .int (Int32.ofNat (B + 1)), .int 1, .int 0]) :: (a9, La Z (lay (B + 1) 2 (initF 0 ((1 <<< ((Int32.ofNat B).toInt64 &&& 63)) - ((Int32.ofNat e).toInt64 + 1))))) :: σ) := H11.pull 1 rfl
  have loop : ∀ (j u : Nat) (h2 : Heap), u + j = B → Hp n0 h2 ((a, Ob Z "com/example/bitstride/bitstride/search/MismatchCounts" NSC [.ref a9, .int (Int32.ofNat (B + 1)), .int 1, .int 0]) :: (a9, La Z (lay (B + 1) 2 (initF u ((1 <<< ((Int32.ofNat B).toInt64 &&& 63)) - ((Int32.ofNat e).toInt64 + 1))))) :: σ) → G k n0 (fun v h' => v = none ∧ ∃ pa : Addr, Hp n0 h' ((a, Ob Z "com/example/bitstride/bitstride/search/MismatchCounts" NSC [.ref pa, .int (Int32.ofNat (B + 1)), .int 1, .int (Int32.ofNat ((L - 1) % 64))]) :: (pa, La Z (lay (B + 1) 2 (initF B ((1 <<< ((Int32.ofNat B).toInt64 &&& 63)) - ((Int32.ofNat e).toInt64 + 1))))) :: σ)) h2 1 24 54 [.val (.ref a), .val (.int 1), .val (.int (Int32.ofNat L)), .val (.int (Int32.ofNat e)), .val (.int (Int32.ofNat B)), .val (.long (((1 : Int64) <<< ((Int32.ofNat B).toInt64 &&& 63)) - (((Int32.ofNat e).toInt64) + 1))), .second, .val (.int (Int32.ofNat u))] [] := by
    intro j
    induction j with
    | zero =>
      intro u h2 hi H2
      obtain rfl : B = u := by omega
      refine G.iload K D21_1_54 rfl ?_
      refine G.iload K D21_1_56 rfl ?_
      refine G.icmp_ge K D21_1_58 (fun q13 => ?_) (fun q => absurd ((own_nlt (by omega) (by omega)).mp q) (by omega))
      refine G.aloadN K D21_1_82 rfl rfl ?_
      refine G.iloadN K D21_1_83 rfl ?_
      refine G.iconst K D21_1_84 1 rfl ?_
      refine G.isub K D21_1_85 ?_
      refine G.bipush K D21_1_86 64 rfl ?_
      refine G.irem K D21_1_88 (by decide) ?_
      rw [show Int32.ofNat L - 1 = Int32.ofNat (L - 1) from own_nsub (i := L) (j := 1) hL, show Int32.ofNat (L - 1) % 64 = Int32.ofNat ((L - 1) % 64) from own_nmod (n := 64) (by omega) (by decide)]
      refine G.putF K (host := "") (Or.inl (wd hw 20 rfl)) (cf_NSC hw) (Or.inr ⟨(wd hw 21 rfl), rfl, rfl⟩) (wd hw 2 rfl) H2 (i := 0) rfl (j := 3) rfl rfl (ty := .int) (by decide) rfl rfl D21_1_89 ?_
      intro h14 H14
      change Hp n0 h14 ((a, Ob Z "com/example/bitstride/bitstride/search/MismatchCounts" NSC [.ref a9, .int (Int32.ofNat (B + 1)), .int 1, .int (Int32.ofNat ((L - 1) % 64))]) :: (a9, La Z (lay (B + 1) 2 (initF B ((1 <<< ((Int32.ofNat B).toInt64 &&& 63)) - ((Int32.ofNat e).toInt64 + 1))))) :: σ) at H14
      refine G.ret_void K D21_1_92 ?_
      have H15 : Hp n0 h14 ((a9, La Z (lay (B + 1) 2 (initF B ((1 <<< ((Int32.ofNat B).toInt64 &&& 63)) - ((Int32.ofNat e).toInt64 + 1))))) :: (a, Ob Z "com/example/bitstride/bitstride/search/MismatchCounts" NSC [.ref a9, .int (Int32.ofNat (B + 1)), .int 1, .int (Int32.ofNat ((L - 1) % 64))]) :: σ) := H14.pull 1 rfl
      have H16 : Hp n0 h14 ((a, Ob Z "com/example/bitstride/bitstride/search/MismatchCounts" NSC [.ref a9, .int (Int32.ofNat (B + 1)), .int 1, .int (Int32.ofNat ((L - 1) % 64))]) :: (a9, La Z (lay (B + 1) 2 (initF B ((1 <<< ((Int32.ofNat B).toInt64 &&& 63)) - ((Int32.ofNat e).toInt64 + 1))))) :: σ) := H15.pull 1 rfl
      exact ⟨rfl, _, H16⟩
    | succ j ih =>
      intro u h2 hi H2
      have hp : u < 2147483648 := by omega
      refine G.iload K D21_1_54 rfl ?_
      refine G.iload K D21_1_56 rfl ?_
      refine G.icmp_ge K D21_1_58 (fun q => absurd ((own_nlt (by omega) (by omega)).mpr (by omega)) q) (fun q17 => ?_)
      refine G.aloadN K D21_1_61 rfl rfl ?_
      refine G.getF K (host := "") (Or.inl (wd hw 18 rfl)) H2 (i := 0) rfl (j := 0) rfl rfl D21_1_62 ?_
      refine G.iload K D21_1_65 rfl ?_
      refine G.lload K D21_1_67 rfl ?_
      refine G.iload K D21_1_69 rfl ?_
      refine G.lushr K D21_1_71 ?_
      refine G.lconst K D21_1_72 1 rfl ?_
      refine G.land K D21_1_73 ?_
      refine G.lneg K D21_1_74 ?_
      refine G.astore_l K H2 (i := 1) rfl (own_nneg hp) (by rw [own_nidx hp, lay_len]; omega) D21_1_75 ?_
      intro h18 H18
      rw [own_nidx hp, lay_seti (r := 0) (k := u) _ (by omega) (by omega) (by omega), initF_next] at H18
      change Hp n0 h18 ((a, Ob Z "com/example/bitstride/bitstride/search/MismatchCounts" NSC [.ref a9, .int (Int32.ofNat (B + 1)), .int 1, .int 0]) :: (a9, La Z (lay (B + 1) 2 (initF (u + 1) ((1 <<< ((Int32.ofNat B).toInt64 &&& 63)) - ((Int32.ofNat e).toInt64 + 1))))) :: σ) at H18
      refine G.iinc K D21_1_76 1 rfl rfl ([.val (.ref a), .val (.int 1), .val (.int (Int32.ofNat L)), .val (.int (Int32.ofNat e)), .val (.int (Int32.ofNat B)), .val (.long (((1 : Int64) <<< ((Int32.ofNat B).toInt64 &&& 63)) - (((Int32.ofNat e).toInt64) + 1))), .second, .val (.int ((Int32.ofNat u) + 1))]) rfl ?_
      refine G.goto K D21_1_79 ?_
      rw [own_nsucc u]
      exact ih (u + 1) _ (by omega) H18
  exact loop B 0 _ (by omega) H12
theorem D21_2_0 : Dc prog_21_method_2_code 0 (.aload_n 0) 1 1 := dc (by decide +kernel) rfl
theorem D21_2_1 : Dc prog_21_method_2_code 1 (.getfield 19) 3 4 := dc (by decide +kernel) rfl
theorem D21_2_4 : Dc prog_21_method_2_code 4 (.istore_n 1) 1 5 := dc (by decide +kernel) rfl
theorem D21_2_5 : Dc prog_21_method_2_code 5 (.iload_n 1) 1 6 := dc (by decide +kernel) rfl
theorem D21_2_6 : Dc prog_21_method_2_code 6 (.istore_n 2) 1 7 := dc (by decide +kernel) rfl
theorem D21_2_7 : Dc prog_21_method_2_code 7 (.iload_n 2) 1 8 := dc (by decide +kernel) rfl
theorem D21_2_8 : Dc prog_21_method_2_code 8 (.aload_n 0) 1 9 := dc (by decide +kernel) rfl
theorem D21_2_9 : Dc prog_21_method_2_code 9 (.getfield 22) 3 12 := dc (by decide +kernel) rfl
theorem D21_2_12 : Dc prog_21_method_2_code 12 (.arraylength) 1 13 := dc (by decide +kernel) rfl
theorem D21_2_13 : Db prog_21_method_2_code 13 (.if_icmp .ge) 16 60 := db (47) (by decide +kernel) rfl (by decide) (by decide)
theorem D21_2_16 : Dc prog_21_method_2_code 16 (.iconst 0) 1 17 := dc (by decide +kernel) rfl
theorem D21_2_17 : Dc prog_21_method_2_code 17 (.istore_n 3) 1 18 := dc (by decide +kernel) rfl
theorem D21_2_18 : Dc prog_21_method_2_code 18 (.iload_n 3) 1 19 := dc (by decide +kernel) rfl
theorem D21_2_19 : Dc prog_21_method_2_code 19 (.iload_n 1) 1 20 := dc (by decide +kernel) rfl
theorem D21_2_20 : Dc prog_21_method_2_code 20 (.iconst 1) 1 21 := dc (by decide +kernel) rfl
theorem D21_2_21 : Dc prog_21_method_2_code 21 (.isub) 1 22 := dc (by decide +kernel) rfl
theorem D21_2_22 : Db prog_21_method_2_code 22 (.if_icmp .ge) 25 40 := db (18) (by decide +kernel) rfl (by decide) (by decide)
theorem D21_2_25 : Dc prog_21_method_2_code 25 (.aload_n 0) 1 26 := dc (by decide +kernel) rfl
theorem D21_2_26 : Dc prog_21_method_2_code 26 (.getfield 22) 3 29 := dc (by decide +kernel) rfl
theorem D21_2_29 : Dc prog_21_method_2_code 29 (.iload_n 2) 1 30 := dc (by decide +kernel) rfl
theorem D21_2_30 : Dc prog_21_method_2_code 30 (.iload_n 3) 1 31 := dc (by decide +kernel) rfl
theorem D21_2_31 : Dc prog_21_method_2_code 31 (.iadd) 1 32 := dc (by decide +kernel) rfl
theorem D21_2_32 : Dc prog_21_method_2_code 32 (.lconst 0) 1 33 := dc (by decide +kernel) rfl
theorem D21_2_33 : Dc prog_21_method_2_code 33 (.lastore) 1 34 := dc (by decide +kernel) rfl
theorem D21_2_34 : Dc prog_21_method_2_code 34 (.iinc 3 1) 3 37 := dc (by decide +kernel) rfl
theorem D21_2_37 : Db prog_21_method_2_code 37 (.goto) 40 18 := db (-19) (by decide +kernel) rfl (by decide) (by decide)
theorem D21_2_40 : Dc prog_21_method_2_code 40 (.aload_n 0) 1 41 := dc (by decide +kernel) rfl
theorem D21_2_41 : Dc prog_21_method_2_code 41 (.getfield 22) 3 44 := dc (by decide +kernel) rfl
theorem D21_2_44 : Dc prog_21_method_2_code 44 (.iload_n 2) 1 45 := dc (by decide +kernel) rfl
theorem D21_2_45 : Dc prog_21_method_2_code 45 (.iload_n 1) 1 46 := dc (by decide +kernel) rfl
theorem D21_2_46 : Dc prog_21_method_2_code 46 (.iadd) 1 47 := dc (by decide +kernel) rfl
theorem D21_2_47 : Dc prog_21_method_2_code 47 (.iconst 1) 1 48 := dc (by decide +kernel) rfl
theorem D21_2_48 : Dc prog_21_method_2_code 48 (.isub) 1 49 := dc (by decide +kernel) rfl
theorem D21_2_49 : Dc prog_21_method_2_code 49 (.ldc2_w 31) 3 52 := dc (by decide +kernel) rfl
theorem D21_2_52 : Dc prog_21_method_2_code 52 (.lastore) 1 53 := dc (by decide +kernel) rfl
theorem D21_2_53 : Dc prog_21_method_2_code 53 (.iload_n 2) 1 54 := dc (by decide +kernel) rfl
theorem D21_2_54 : Dc prog_21_method_2_code 54 (.iload_n 1) 1 55 := dc (by decide +kernel) rfl
theorem D21_2_55 : Dc prog_21_method_2_code 55 (.iadd) 1 56 := dc (by decide +kernel) rfl
theorem D21_2_56 : Dc prog_21_method_2_code 56 (.istore_n 2) 1 57 := dc (by decide +kernel) rfl
theorem D21_2_57 : Db prog_21_method_2_code 57 (.goto) 60 7 := db (-50) (by decide +kernel) rfl (by decide) (by decide)
theorem D21_2_60 : Dc prog_21_method_2_code 60 (.return_) 1 61 := dc (by decide +kernel) rfl
set_option maxRecDepth 65536 in
set_option maxHeartbeats 40000000 in
theorem ct_restart1 (l : Launch) (Z : State) (a0 : Array Value) (hw : ∀ d ∈ tables_1, d.before a0 Z = true) (n0 : Nat) (h : Heap) (a pa : Addr) (B : Nat) (lb : Int32) (f : Nat → Nat → Int64) (σ : List Ch) (hb7 : B ≤ 7) (H : Hp n0 h ((a, Ob Z "com/example/bitstride/bitstride/search/MismatchCounts" NSC [.ref pa, .int (Int32.ofNat (B + 1)), .int 1, .int lb]) :: (pa, La Z (lay (B + 1) 2 f)) :: σ)) :
    Ct l Z n0 (⟨"com/example/bitstride/bitstride/search/MismatchCounts", "restart", "()V"⟩ : MethodName) prog_21_method_2_code 4 none ({ frames := 0, cells := 0, slots := 0, locals := 0 } : Room) [.ref a] h (fun v h' => v = none ∧ Hp n0 h' ((a, Ob Z "com/example/bitstride/bitstride/search/MismatchCounts" NSC [.ref pa, .int (Int32.ofNat (B + 1)), .int 1, .int lb]) :: (pa, La Z (lay (B + 1) 2 (restF B f))) :: σ)) := by
  refine Ct.intro (plainFor_of_name pn_0) [.val (.ref a), .unset, .unset, .unset] (fun m => by first | (simp [entryFrame, mkF, argsToLocals, Value.category]; done) | (simp [entryFrame, mkF, argsToLocals, Value.category, maxLocals]; done) | rfl) ?_
  intro k hl K
  replace K : Ok k Z n0 "com/example/bitstride/bitstride/search/MismatchCounts" ({ frames := 0, cells := 0, slots := 0, locals := 0 } : Room) prog_21_method_2_code 4 none "restart" := K
  refine G.aloadN K D21_2_0 rfl rfl ?_
  refine G.getF K (host := "") (Or.inl (wd hw 16 rfl)) H (i := 0) rfl (j := 1) rfl rfl D21_2_1 ?_
  refine G.istoreN K D21_2_4 ([.val (.ref a), .val (.int (Int32.ofNat (B + 1))), .unset, .unset]) rfl ?_
  refine G.iloadN K D21_2_5 rfl ?_
  refine G.istoreN K D21_2_6 ([.val (.ref a), .val (.int (Int32.ofNat (B + 1))), .val (.int (Int32.ofNat (B + 1))), .unset]) rfl ?_
  rw [rmid_start B f] at H
  refine G.iloadN K D21_2_7 rfl ?_
  refine G.aloadN K D21_2_8 rfl rfl ?_
  refine G.getF K (host := "") (Or.inl (wd hw 18 rfl)) H (i := 0) rfl (j := 0) rfl rfl D21_2_9 ?_
  refine G.alen K H (i := 1) rfl D21_2_12 (Int32.ofNat (2 * (B + 1))) (by rw [List.length_map, lay_len]) ?_
  refine G.icmp_ge K D21_2_13 (fun q => absurd ((own_nlt (by omega) (by omega)).mpr (by omega)) q) (fun q19 => ?_)
  refine G.iconst K D21_2_16 0 rfl ?_
  refine G.istoreN K D21_2_17 ([.val (.ref a), .val (.int (Int32.ofNat (B + 1))), .val (.int (Int32.ofNat (B + 1))), .val (.int 0)]) rfl ?_
  have loop1 : ∀ (j u : Nat) (h2 : Heap), u + j = B → Hp n0 h2 ((a, Ob Z "com/example/bitstride/bitstride/search/MismatchCounts" NSC [.ref pa, .int (Int32.ofNat (B + 1)), .int 1, .int lb]) :: (pa, La Z (lay (B + 1) 2 (rmid B f 1 u))) :: σ) → G k n0 (fun v h' => v = none ∧ Hp n0 h' ((a, Ob Z "com/example/bitstride/bitstride/search/MismatchCounts" NSC [.ref pa, .int (Int32.ofNat (B + 1)), .int 1, .int lb]) :: (pa, La Z (lay (B + 1) 2 (restF B f))) :: σ)) h2 0 0 18 [.val (.ref a), .val (.int (Int32.ofNat (B + 1))), .val (.int (Int32.ofNat (B + 1))), .val (.int (Int32.ofNat u))] [] := by
    intro j
    induction j with
    | succ j ih =>
      intro u h2 hi H2
      have hp : (B + 1) + u < 2147483648 := by omega
      refine G.iloadN K D21_2_18 rfl ?_
      refine G.iloadN K D21_2_19 rfl ?_
      refine G.iconst K D21_2_20 1 rfl ?_
      refine G.isub K D21_2_21 ?_
      rw [own_succsub]
      refine G.icmp_ge K D21_2_22 (fun q => absurd ((own_nlt (by omega) (by omega)).mpr (by omega)) q) (fun q20 => ?_)
      refine G.aloadN K D21_2_25 rfl rfl ?_
      refine G.getF K (host := "") (Or.inl (wd hw 18 rfl)) H2 (i := 0) rfl (j := 0) rfl rfl D21_2_26 ?_
      refine G.iloadN K D21_2_29 rfl ?_
      refine G.iloadN K D21_2_30 rfl ?_
      refine G.iadd K D21_2_31 ?_
      rw [own_nadd]
      refine G.lconst K D21_2_32 0 rfl ?_
      refine G.astore_l K H2 (i := 1) rfl (own_nneg hp) (by rw [own_nidx hp, lay_len]; omega) D21_2_33 ?_
      intro h21 H21
      rw [own_nidx hp, lay_seti (r := 1) (k := u) _ (by omega) (by omega) (by omega), rmid_next B f 1 u (by omega) (by omega)] at H21
      change Hp n0 h21 ((a, Ob Z "com/example/bitstride/bitstride/search/MismatchCounts" NSC [.ref pa, .int (Int32.ofNat (B + 1)), .int 1, .int lb]) :: (pa, La Z (lay (B + 1) 2 (rmid B f 1 (u + 1)))) :: σ) at H21
      refine G.iinc K D21_2_34 1 rfl rfl ([.val (.ref a), .val (.int (Int32.ofNat (B + 1))), .val (.int (Int32.ofNat (B + 1))), .val (.int ((Int32.ofNat u) + 1))]) rfl ?_
      refine G.goto K D21_2_37 ?_
      rw [own_nsucc u]
      exact ih (u + 1) _ (by omega) H21
    | zero =>
      intro u h2 hi H2
      obtain rfl : B = u := by omega
      have hp : (B + 1) + B < 2147483648 := by omega
      refine G.iloadN K D21_2_18 rfl ?_
      refine G.iloadN K D21_2_19 rfl ?_
      refine G.iconst K D21_2_20 1 rfl ?_
      refine G.isub K D21_2_21 ?_
      rw [own_succsub]
      refine G.icmp_ge K D21_2_22 (fun q22 => ?_) (fun q => absurd ((own_nlt (by omega) (by omega)).mp q) (by omega))
      refine G.aloadN K D21_2_40 rfl rfl ?_
      refine G.getF K (host := "") (Or.inl (wd hw 18 rfl)) H2 (i := 0) rfl (j := 0) rfl rfl D21_2_41 ?_
      refine G.iloadN K D21_2_44 rfl ?_
      refine G.iloadN K D21_2_45 rfl ?_
      refine G.iadd K D21_2_46 ?_
      rw [own_nadd]
      refine G.iconst K D21_2_47 1 rfl ?_
      refine G.isub K D21_2_48 ?_
      rw [show Int32.ofNat ((B + 1) + (B + 1)) - 1 = Int32.ofNat ((B + 1) + B) from own_succsub ((B + 1) + B)]
      refine G.ldc2J K D21_2_49 (wd hw 27 rfl) ?_
      refine G.astore_l K H2 (i := 1) rfl (own_nneg hp) (by rw [own_nidx hp, lay_len]; omega) D21_2_52 ?_
      intro h23 H23
      rw [own_nidx hp, lay_seti (r := 1) (k := B) _ (by omega) (by omega) (by omega), rmid_last B f _ _ _ rfl (by omega)] at H23
      change Hp n0 h23 ((a, Ob Z "com/example/bitstride/bitstride/search/MismatchCounts" NSC [.ref pa, .int (Int32.ofNat (B + 1)), .int 1, .int lb]) :: (pa, La Z (lay (B + 1) 2 (rmid B f 2 0))) :: σ) at H23
      refine G.iloadN K D21_2_53 rfl ?_
      refine G.iloadN K D21_2_54 rfl ?_
      refine G.iadd K D21_2_55 ?_
      rw [own_nadd]
      refine G.istoreN K D21_2_56 ([.val (.ref a), .val (.int (Int32.ofNat (B + 1))), .val (.int (Int32.ofNat (B + 1 + (B + 1)))), .val (.int (Int32.ofNat B))]) rfl ?_
      refine G.goto K D21_2_57 ?_
      refine G.iloadN K D21_2_7 rfl ?_
      refine G.aloadN K D21_2_8 rfl rfl ?_
      refine G.getF K (host := "") (Or.inl (wd hw 18 rfl)) H23 (i := 0) rfl (j := 0) rfl rfl D21_2_9 ?_
      refine G.alen K H23 (i := 1) rfl D21_2_12 (Int32.ofNat (2 * (B + 1))) (by rw [List.length_map, lay_len]) ?_
      refine G.icmp_ge K D21_2_13 (fun q24 => ?_) (fun q => absurd ((own_nlt (by omega) (by omega)).mp q) (by omega))
      refine G.ret_void K D21_2_60 ?_
      rw [rmid_end] at H23
      exact ⟨rfl, H23⟩
  exact loop1 B 0 _ (by omega) H
theorem D21_3_0 : Dc prog_21_method_3_code 0 (.aload_n 0) 1 1 := dc (by decide +kernel) rfl
theorem D21_3_1 : Dc prog_21_method_3_code 1 (.getfield 22) 3 4 := dc (by decide +kernel) rfl
theorem D21_3_4 : Dc prog_21_method_3_code 4 (.astore_n 2) 1 5 := dc (by decide +kernel) rfl
theorem D21_3_5 : Dc prog_21_method_3_code 5 (.aload_n 0) 1 6 := dc (by decide +kernel) rfl
theorem D21_3_6 : Dc prog_21_method_3_code 6 (.getfield 19) 3 9 := dc (by decide +kernel) rfl
theorem D21_3_9 : Dc prog_21_method_3_code 9 (.istore_n 3) 1 10 := dc (by decide +kernel) rfl
theorem D21_3_10 : Dc prog_21_method_3_code 10 (.iload_n 3) 1 11 := dc (by decide +kernel) rfl
theorem D21_3_11 : Dc prog_21_method_3_code 11 (.iconst 1) 1 12 := dc (by decide +kernel) rfl
theorem D21_3_12 : Dc prog_21_method_3_code 12 (.isub) 1 13 := dc (by decide +kernel) rfl
theorem D21_3_13 : Dc prog_21_method_3_code 13 (.istore 4) 2 15 := dc (by decide +kernel) rfl
theorem D21_3_15 : Dc prog_21_method_3_code 15 (.aload_n 2) 1 16 := dc (by decide +kernel) rfl
theorem D21_3_16 : Dc prog_21_method_3_code 16 (.arraylength) 1 17 := dc (by decide +kernel) rfl
theorem D21_3_17 : Dc prog_21_method_3_code 17 (.iload_n 3) 1 18 := dc (by decide +kernel) rfl
theorem D21_3_18 : Dc prog_21_method_3_code 18 (.isub) 1 19 := dc (by decide +kernel) rfl
theorem D21_3_19 : Dc prog_21_method_3_code 19 (.istore 5) 2 21 := dc (by decide +kernel) rfl
theorem D21_3_21 : Dc prog_21_method_3_code 21 (.aload_n 0) 1 22 := dc (by decide +kernel) rfl
theorem D21_3_22 : Dc prog_21_method_3_code 22 (.getfield 13) 3 25 := dc (by decide +kernel) rfl
theorem D21_3_25 : Dc prog_21_method_3_code 25 (.iconst 1) 1 26 := dc (by decide +kernel) rfl
theorem D21_3_26 : Dc prog_21_method_3_code 26 (.isub) 1 27 := dc (by decide +kernel) rfl
theorem D21_3_27 : Dc prog_21_method_3_code 27 (.istore 6) 2 29 := dc (by decide +kernel) rfl
theorem D21_3_29 : Dc prog_21_method_3_code 29 (.iload 6) 2 31 := dc (by decide +kernel) rfl
theorem D21_3_31 : Db prog_21_method_3_code 31 (.ifCond .lt) 34 147 := db (116) (by decide +kernel) rfl (by decide) (by decide)
theorem D21_3_34 : Dc prog_21_method_3_code 34 (.iload 5) 2 36 := dc (by decide +kernel) rfl
theorem D21_3_36 : Dc prog_21_method_3_code 36 (.iload_n 3) 1 37 := dc (by decide +kernel) rfl
theorem D21_3_37 : Dc prog_21_method_3_code 37 (.isub) 1 38 := dc (by decide +kernel) rfl
theorem D21_3_38 : Dc prog_21_method_3_code 38 (.istore 7) 2 40 := dc (by decide +kernel) rfl
theorem D21_3_40 : Dc prog_21_method_3_code 40 (.aload_n 1) 1 41 := dc (by decide +kernel) rfl
theorem D21_3_41 : Dc prog_21_method_3_code 41 (.iload 6) 2 43 := dc (by decide +kernel) rfl
theorem D21_3_43 : Dc prog_21_method_3_code 43 (.laload) 1 44 := dc (by decide +kernel) rfl
theorem D21_3_44 : Dc prog_21_method_3_code 44 (.ldc2_w 31) 3 47 := dc (by decide +kernel) rfl
theorem D21_3_47 : Dc prog_21_method_3_code 47 (.lxor) 1 48 := dc (by decide +kernel) rfl
theorem D21_3_48 : Dc prog_21_method_3_code 48 (.lstore 8) 2 50 := dc (by decide +kernel) rfl
theorem D21_3_50 : Dc prog_21_method_3_code 50 (.iconst 0) 1 51 := dc (by decide +kernel) rfl
theorem D21_3_51 : Dc prog_21_method_3_code 51 (.istore 10) 2 53 := dc (by decide +kernel) rfl
theorem D21_3_53 : Dc prog_21_method_3_code 53 (.iload 10) 2 55 := dc (by decide +kernel) rfl
theorem D21_3_55 : Dc prog_21_method_3_code 55 (.iload 4) 2 57 := dc (by decide +kernel) rfl
theorem D21_3_57 : Db prog_21_method_3_code 57 (.if_icmp .ge) 60 107 := db (50) (by decide +kernel) rfl (by decide) (by decide)
theorem D21_3_60 : Dc prog_21_method_3_code 60 (.aload_n 2) 1 61 := dc (by decide +kernel) rfl
theorem D21_3_61 : Dc prog_21_method_3_code 61 (.iload 5) 2 63 := dc (by decide +kernel) rfl
theorem D21_3_63 : Dc prog_21_method_3_code 63 (.iload 10) 2 65 := dc (by decide +kernel) rfl
theorem D21_3_65 : Dc prog_21_method_3_code 65 (.iadd) 1 66 := dc (by decide +kernel) rfl
theorem D21_3_66 : Dc prog_21_method_3_code 66 (.laload) 1 67 := dc (by decide +kernel) rfl
theorem D21_3_67 : Dc prog_21_method_3_code 67 (.iconst 1) 1 68 := dc (by decide +kernel) rfl
theorem D21_3_68 : Dc prog_21_method_3_code 68 (.lshl) 1 69 := dc (by decide +kernel) rfl
theorem D21_3_69 : Dc prog_21_method_3_code 69 (.aload_n 2) 1 70 := dc (by decide +kernel) rfl
theorem D21_3_70 : Dc prog_21_method_3_code 70 (.iload 7) 2 72 := dc (by decide +kernel) rfl
theorem D21_3_72 : Dc prog_21_method_3_code 72 (.iload 10) 2 74 := dc (by decide +kernel) rfl
theorem D21_3_74 : Dc prog_21_method_3_code 74 (.iadd) 1 75 := dc (by decide +kernel) rfl
theorem D21_3_75 : Dc prog_21_method_3_code 75 (.laload) 1 76 := dc (by decide +kernel) rfl
theorem D21_3_76 : Dc prog_21_method_3_code 76 (.bipush 63) 2 78 := dc (by decide +kernel) rfl
theorem D21_3_78 : Dc prog_21_method_3_code 78 (.lushr) 1 79 := dc (by decide +kernel) rfl
theorem D21_3_79 : Dc prog_21_method_3_code 79 (.lor) 1 80 := dc (by decide +kernel) rfl
theorem D21_3_80 : Dc prog_21_method_3_code 80 (.lstore 11) 2 82 := dc (by decide +kernel) rfl
theorem D21_3_82 : Dc prog_21_method_3_code 82 (.aload_n 2) 1 83 := dc (by decide +kernel) rfl
theorem D21_3_83 : Dc prog_21_method_3_code 83 (.iload 5) 2 85 := dc (by decide +kernel) rfl
theorem D21_3_85 : Dc prog_21_method_3_code 85 (.iload 10) 2 87 := dc (by decide +kernel) rfl
theorem D21_3_87 : Dc prog_21_method_3_code 87 (.iadd) 1 88 := dc (by decide +kernel) rfl
theorem D21_3_88 : Dc prog_21_method_3_code 88 (.lload 11) 2 90 := dc (by decide +kernel) rfl
theorem D21_3_90 : Dc prog_21_method_3_code 90 (.lload 8) 2 92 := dc (by decide +kernel) rfl
theorem D21_3_92 : Dc prog_21_method_3_code 92 (.lxor) 1 93 := dc (by decide +kernel) rfl
theorem D21_3_93 : Dc prog_21_method_3_code 93 (.lastore) 1 94 := dc (by decide +kernel) rfl
theorem D21_3_94 : Dc prog_21_method_3_code 94 (.lload 8) 2 96 := dc (by decide +kernel) rfl
theorem D21_3_96 : Dc prog_21_method_3_code 96 (.lload 11) 2 98 := dc (by decide +kernel) rfl
theorem D21_3_98 : Dc prog_21_method_3_code 98 (.land) 1 99 := dc (by decide +kernel) rfl
theorem D21_3_99 : Dc prog_21_method_3_code 99 (.lstore 8) 2 101 := dc (by decide +kernel) rfl
theorem D21_3_101 : Dc prog_21_method_3_code 101 (.iinc 10 1) 3 104 := dc (by decide +kernel) rfl
theorem D21_3_104 : Db prog_21_method_3_code 104 (.goto) 107 53 := db (-51) (by decide +kernel) rfl (by decide) (by decide)
theorem D21_3_107 : Dc prog_21_method_3_code 107 (.aload_n 2) 1 108 := dc (by decide +kernel) rfl
theorem D21_3_108 : Dc prog_21_method_3_code 108 (.iload 5) 2 110 := dc (by decide +kernel) rfl
theorem D21_3_110 : Dc prog_21_method_3_code 110 (.iload 4) 2 112 := dc (by decide +kernel) rfl
theorem D21_3_112 : Dc prog_21_method_3_code 112 (.iadd) 1 113 := dc (by decide +kernel) rfl
theorem D21_3_113 : Dc prog_21_method_3_code 113 (.aload_n 2) 1 114 := dc (by decide +kernel) rfl
theorem D21_3_114 : Dc prog_21_method_3_code 114 (.iload 5) 2 116 := dc (by decide +kernel) rfl
theorem D21_3_116 : Dc prog_21_method_3_code 116 (.iload 4) 2 118 := dc (by decide +kernel) rfl
theorem D21_3_118 : Dc prog_21_method_3_code 118 (.iadd) 1 119 := dc (by decide +kernel) rfl
theorem D21_3_119 : Dc prog_21_method_3_code 119 (.laload) 1 120 := dc (by decide +kernel) rfl
theorem D21_3_120 : Dc prog_21_method_3_code 120 (.iconst 1) 1 121 := dc (by decide +kernel) rfl
theorem D21_3_121 : Dc prog_21_method_3_code 121 (.lshl) 1 122 := dc (by decide +kernel) rfl
theorem D21_3_122 : Dc prog_21_method_3_code 122 (.aload_n 2) 1 123 := dc (by decide +kernel) rfl
theorem D21_3_123 : Dc prog_21_method_3_code 123 (.iload 7) 2 125 := dc (by decide +kernel) rfl
theorem D21_3_125 : Dc prog_21_method_3_code 125 (.iload 4) 2 127 := dc (by decide +kernel) rfl
theorem D21_3_127 : Dc prog_21_method_3_code 127 (.iadd) 1 128 := dc (by decide +kernel) rfl
theorem D21_3_128 : Dc prog_21_method_3_code 128 (.laload) 1 129 := dc (by decide +kernel) rfl
theorem D21_3_129 : Dc prog_21_method_3_code 129 (.bipush 63) 2 131 := dc (by decide +kernel) rfl
theorem D21_3_131 : Dc prog_21_method_3_code 131 (.lushr) 1 132 := dc (by decide +kernel) rfl
theorem D21_3_132 : Dc prog_21_method_3_code 132 (.lor) 1 133 := dc (by decide +kernel) rfl
theorem D21_3_133 : Dc prog_21_method_3_code 133 (.lload 8) 2 135 := dc (by decide +kernel) rfl
theorem D21_3_135 : Dc prog_21_method_3_code 135 (.lor) 1 136 := dc (by decide +kernel) rfl
theorem D21_3_136 : Dc prog_21_method_3_code 136 (.lastore) 1 137 := dc (by decide +kernel) rfl
theorem D21_3_137 : Dc prog_21_method_3_code 137 (.iload 7) 2 139 := dc (by decide +kernel) rfl
theorem D21_3_139 : Dc prog_21_method_3_code 139 (.istore 5) 2 141 := dc (by decide +kernel) rfl
theorem D21_3_141 : Dc prog_21_method_3_code 141 (.iinc 6 (-1)) 3 144 := dc (by decide +kernel) rfl
theorem D21_3_144 : Db prog_21_method_3_code 144 (.goto) 147 29 := db (-115) (by decide +kernel) rfl (by decide) (by decide)
theorem D21_3_147 : Dc prog_21_method_3_code 147 (.aload_n 2) 1 148 := dc (by decide +kernel) rfl
theorem D21_3_148 : Dc prog_21_method_3_code 148 (.aload_n 2) 1 149 := dc (by decide +kernel) rfl
theorem D21_3_149 : Dc prog_21_method_3_code 149 (.arraylength) 1 150 := dc (by decide +kernel) rfl
theorem D21_3_150 : Dc prog_21_method_3_code 150 (.iconst 1) 1 151 := dc (by decide +kernel) rfl
theorem D21_3_151 : Dc prog_21_method_3_code 151 (.isub) 1 152 := dc (by decide +kernel) rfl
theorem D21_3_152 : Dc prog_21_method_3_code 152 (.laload) 1 153 := dc (by decide +kernel) rfl
theorem D21_3_153 : Dc prog_21_method_3_code 153 (.ldc2_w 31) 3 156 := dc (by decide +kernel) rfl
theorem D21_3_156 : Dc prog_21_method_3_code 156 (.lxor) 1 157 := dc (by decide +kernel) rfl
theorem D21_3_157 : Dc prog_21_method_3_code 157 (.aload_n 0) 1 158 := dc (by decide +kernel) rfl
theorem D21_3_158 : Dc prog_21_method_3_code 158 (.getfield 28) 3 161 := dc (by decide +kernel) rfl
theorem D21_3_161 : Dc prog_21_method_3_code 161 (.lushr) 1 162 := dc (by decide +kernel) rfl
theorem D21_3_162 : Dc prog_21_method_3_code 162 (.lconst 1) 1 163 := dc (by decide +kernel) rfl
theorem D21_3_163 : Dc prog_21_method_3_code 163 (.land) 1 164 := dc (by decide +kernel) rfl
theorem D21_3_164 : Dc prog_21_method_3_code 164 (.lreturn) 1 165 := dc (by decide +kernel) rfl
set_option maxRecDepth 65536 in
set_option maxHeartbeats 40000000 in
theorem ct_step1 (l : Launch) (Z : State) (a0 : Array Value) (hw : ∀ d ∈ tables_1, d.before a0 Z = true) (n0 : Nat) (h : Heap) (a pa ma : Addr) (B : Nat) (lb : Int32) (f : Nat → Nat → Int64) (y0 : Int64) (σ : List Ch) (hb7 : B ≤ 7) (H : Hp n0 h ((a, Ob Z "com/example/bitstride/bitstride/search/MismatchCounts" NSC [.ref pa, .int (Int32.ofNat (B + 1)), .int 1, .int lb]) :: (pa, La Z (lay (B + 1) 2 f)) :: (ma, La Z [y0]) :: σ)) :
    Ct l Z n0 (⟨"com/example/bitstride/bitstride/search/MismatchCounts", "step", "([J)J"⟩ : MethodName) prog_21_method_3_code 13 (some .long) ({ frames := 0, cells := 0, slots := 0, locals := 0 } : Room) [.ref a, .ref ma] h (fun v h' => v = some (.long (XT.ushrL (stepF B f (fun _ => y0) 1 B ^^^ (-1)) lb &&& 1)) ∧ Hp n0 h' ((a, Ob Z "com/example/bitstride/bitstride/search/MismatchCounts" NSC [.ref pa, .int (Int32.ofNat (B + 1)), .int 1, .int lb]) :: (pa, La Z (lay (B + 1) 2 (stepF B f (fun _ => y0)))) :: (ma, La Z [y0]) :: σ)) := by
  refine Ct.intro (plainFor_of_name pn_0) [.val (.ref a), .val (.ref ma), .unset, .unset, .unset, .unset, .unset, .unset, .unset, .unset, .unset, .unset, .unset] (fun m => by first | (simp [entryFrame, mkF, argsToLocals, Value.category]; done) | (simp [entryFrame, mkF, argsToLocals, Value.category, maxLocals]; done) | rfl) ?_
  intro k hl K
  replace K : Ok k Z n0 "com/example/bitstride/bitstride/search/MismatchCounts" ({ frames := 0, cells := 0, slots := 0, locals := 0 } : Room) prog_21_method_3_code 13 (some .long) "step" := K
  refine G.aloadN K D21_3_0 rfl rfl ?_
  refine G.getF K (host := "") (Or.inl (wd hw 18 rfl)) H (i := 0) rfl (j := 0) rfl rfl D21_3_1 ?_
  refine G.astoreN K D21_3_4 rfl ([.val (.ref a), .val (.ref ma), .val (.ref pa), .unset, .unset, .unset, .unset, .unset, .unset, .unset, .unset, .unset, .unset]) rfl ?_
  refine G.aloadN K D21_3_5 rfl rfl ?_
  refine G.getF K (host := "") (Or.inl (wd hw 16 rfl)) H (i := 0) rfl (j := 1) rfl rfl D21_3_6 ?_
  refine G.istoreN K D21_3_9 ([.val (.ref a), .val (.ref ma), .val (.ref pa), .val (.int (Int32.ofNat (B + 1))), .unset, .unset, .unset, .unset, .unset, .unset, .unset, .unset, .unset]) rfl ?_
  refine G.iloadN K D21_3_10 rfl ?_
  refine G.iconst K D21_3_11 1 rfl ?_
  refine G.isub K D21_3_12 ?_
  rw [own_succsub]
  refine G.istore K D21_3_13 ([.val (.ref a), .val (.ref ma), .val (.ref pa), .val (.int (Int32.ofNat (B + 1))), .val (.int (Int32.ofNat B)), .unset, .unset, .unset, .unset, .unset, .unset, .unset, .unset]) rfl ?_
  refine G.aloadN K D21_3_15 rfl rfl ?_
  refine G.alen K H (i := 1) rfl D21_3_16 (Int32.ofNat (2 * (B + 1))) (by rw [List.length_map, lay_len]) ?_
  refine G.iloadN K D21_3_17 rfl ?_
  refine G.isub K D21_3_18 ?_
  rw [show Int32.ofNat (2 * (B + 1)) - Int32.ofNat (B + 1) = Int32.ofNat (B + 1) from (own_nsub (by omega)).trans (congrArg Int32.ofNat (by omega))]
  rw [mid_start B f (fun _ => y0)] at H
  refine G.istore K D21_3_19 ([.val (.ref a), .val (.ref ma), .val (.ref pa), .val (.int (Int32.ofNat (B + 1))), .val (.int (Int32.ofNat B)), .val (.int (Int32.ofNat (B + 1))), .unset, .unset, .unset, .unset, .unset, .unset, .unset]) rfl ?_
  refine G.aloadN K D21_3_21 rfl rfl ?_
  refine G.getF K (host := "") (Or.inl (wd hw 14 rfl)) H (i := 0) rfl (j := 2) rfl rfl D21_3_22 ?_
  refine G.iconst K D21_3_25 1 rfl ?_
  refine G.isub K D21_3_26 ?_
  change G k n0 _ h _ _ 27 [.val (.ref a), .val (.ref ma), .val (.ref pa), .val (.int (Int32.ofNat (B + 1))), .val (.int (Int32.ofNat B)), .val (.int (Int32.ofNat (B + 1))), .unset, .unset, .unset, .unset, .unset, .unset, .unset] [.int 0]
  refine G.istore K D21_3_27 ([.val (.ref a), .val (.ref ma), .val (.ref pa), .val (.int (Int32.ofNat (B + 1))), .val (.int (Int32.ofNat B)), .val (.int (Int32.ofNat (B + 1))), .val (.int 0), .unset, .unset, .unset, .unset, .unset, .unset]) rfl ?_
  refine G.iload K D21_3_29 rfl ?_
  refine G.if_lt K D21_3_31 (fun q => absurd q (by decide)) (fun _ => ?_)
  refine G.iload K D21_3_34 rfl ?_
  refine G.iloadN K D21_3_36 rfl ?_
  refine G.isub K D21_3_37 ?_
  rw [show Int32.ofNat (B + 1) - Int32.ofNat (B + 1) = Int32.ofNat 0 from (own_nsub (by omega)).trans (congrArg Int32.ofNat (by omega))]
  refine G.istore K D21_3_38 ([.val (.ref a), .val (.ref ma), .val (.ref pa), .val (.int (Int32.ofNat (B + 1))), .val (.int (Int32.ofNat B)), .val (.int (Int32.ofNat (B + 1))), .val (.int 0), .val (.int (Int32.ofNat 0)), .unset, .unset, .unset, .unset, .unset]) rfl ?_
  refine G.aloadN K D21_3_40 rfl rfl ?_
  refine G.iload K D21_3_41 rfl ?_
  refine G.aload_l K H (i := 2) rfl (by decide) rfl D21_3_43 ?_
  refine G.ldc2J K D21_3_44 (wd hw 27 rfl) ?_
  refine G.lxor K D21_3_47 ?_
  change G k n0 _ h _ _ 48 [.val (.ref a), .val (.ref ma), .val (.ref pa), .val (.int (Int32.ofNat (B + 1))), .val (.int (Int32.ofNat B)), .val (.int (Int32.ofNat (B + 1))), .val (.int 0), .val (.int (Int32.ofNat 0)), .unset, .unset, .unset, .unset, .unset] [.long (carF f (fun _ => y0) 1 0)]
  refine G.lstore K D21_3_48 ([.val (.ref a), .val (.ref ma), .val (.ref pa), .val (.int (Int32.ofNat (B + 1))), .val (.int (Int32.ofNat B)), .val (.int (Int32.ofNat (B + 1))), .val (.int 0), .val (.int (Int32.ofNat 0)), .val (.long (carF f (fun _ => y0) 1 0)), .second, .unset, .unset, .unset]) rfl ?_
  refine G.iconst K D21_3_50 0 rfl ?_
  refine G.istore K D21_3_51 ([.val (.ref a), .val (.ref ma), .val (.ref pa), .val (.int (Int32.ofNat (B + 1))), .val (.int (Int32.ofNat B)), .val (.int (Int32.ofNat (B + 1))), .val (.int 0), .val (.int (Int32.ofNat 0)), .val (.long (carF f (fun _ => y0) 1 0)), .second, .val (.int 0), .unset, .unset]) rfl ?_
  have loop1 : ∀ (j u : Nat) (s11 s12 : Slot) (h2 : Heap), u + j = B → ((s11 = .unset ∧ s12 = .unset) ∨ (∃ w11, s11 = .val (.long w11) ∧ s12 = .second)) → Hp n0 h2 ((a, Ob Z "com/example/bitstride/bitstride/search/MismatchCounts" NSC [.ref pa, .int (Int32.ofNat (B + 1)), .int 1, .int lb]) :: (pa, La Z (lay (B + 1) 2 (mid B f (fun _ => y0) 1 u))) :: (ma, La Z [y0]) :: σ) → G k n0 (fun v h' => v = some (.long (XT.ushrL (stepF B f (fun _ => y0) 1 B ^^^ (-1)) lb &&& 1)) ∧ Hp n0 h' ((a, Ob Z "com/example/bitstride/bitstride/search/MismatchCounts" NSC [.ref pa, .int (Int32.ofNat (B + 1)), .int 1, .int lb]) :: (pa, La Z (lay (B + 1) 2 (stepF B f (fun _ => y0)))) :: (ma, La Z [y0]) :: σ)) h2 0 0 53 [.val (.ref a), .val (.ref ma), .val (.ref pa), .val (.int (Int32.ofNat (B + 1))), .val (.int (Int32.ofNat B)), .val (.int (Int32.ofNat (B + 1))), .val (.int 0), .val (.int (Int32.ofNat 0)), .val (.long (carF f (fun _ => y0) 1 u)), .second, .val (.int (Int32.ofNat u)), s11, s12] [] := by
    intro j
    induction j with
    | succ j ih =>
      intro u s11 s12 h2 hi hs H2
      have hp : (B + 1) + u < 2147483648 := by omega
      have hp2 : 0 + u < 2147483648 := by omega
      refine G.iload K D21_3_53 rfl ?_
      refine G.iload K D21_3_55 rfl ?_
      refine G.icmp_ge K D21_3_57 (fun q => absurd ((own_nlt (by omega) (by omega)).mpr (by omega)) q) (fun q26 => ?_)
      refine G.aloadN K D21_3_60 rfl rfl ?_
      refine G.iload K D21_3_61 rfl ?_
      refine G.iload K D21_3_63 rfl ?_
      refine G.iadd K D21_3_65 ?_
      rw [own_nadd]
      refine G.aload_l K H2 (i := 1) rfl (own_nneg hp) (by rw [own_nidx hp, lay_geti (r := 1) (k := u) _ (by omega) (by omega) (by omega), mid_here]) D21_3_66 ?_
      refine G.iconst K D21_3_67 1 rfl ?_
      refine G.lshl K D21_3_68 ?_
      refine G.aloadN K D21_3_69 rfl rfl ?_
      refine G.iload K D21_3_70 rfl ?_
      refine G.iload K D21_3_72 rfl ?_
      refine G.iadd K D21_3_74 ?_
      rw [own_nadd]
      refine G.aload_l K H2 (i := 1) rfl (own_nneg hp2) (by rw [own_nidx hp2, lay_geti (r := 0) (k := u) _ (by omega) (by omega) (by omega), mid_below B f (fun _ => y0) 1 u u (by omega)]) D21_3_75 ?_
      refine G.bipush K D21_3_76 63 rfl ?_
      refine G.lushr K D21_3_78 ?_
      refine G.lor K D21_3_79 ?_
      change G k n0 _ h2 _ _ 80 [.val (.ref a), .val (.ref ma), .val (.ref pa), .val (.int (Int32.ofNat (B + 1))), .val (.int (Int32.ofNat B)), .val (.int (Int32.ofNat (B + 1))), .val (.int 0), .val (.int (Int32.ofNat 0)), .val (.long (carF f (fun _ => y0) 1 u)), .second, .val (.int (Int32.ofNat u)), s11, s12] [.long (shF f 1 u)]
      refine G.lstore K D21_3_80 ([.val (.ref a), .val (.ref ma), .val (.ref pa), .val (.int (Int32.ofNat (B + 1))), .val (.int (Int32.ofNat B)), .val (.int (Int32.ofNat (B + 1))), .val (.int 0), .val (.int (Int32.ofNat 0)), .val (.long (carF f (fun _ => y0) 1 u)), .second, .val (.int (Int32.ofNat u)), .val (.long (shF f 1 u)), .second]) (by rcases hs with ⟨rfl, rfl⟩ | ⟨_, rfl, rfl⟩ <;> rfl) ?_
      refine G.aloadN K D21_3_82 rfl rfl ?_
      refine G.iload K D21_3_83 rfl ?_
      refine G.iload K D21_3_85 rfl ?_
      refine G.iadd K D21_3_87 ?_
      rw [own_nadd]
      refine G.lload K D21_3_88 rfl ?_
      refine G.lload K D21_3_90 rfl ?_
      refine G.lxor K D21_3_92 ?_
      refine G.astore_l K H2 (i := 1) rfl (own_nneg hp) (by rw [own_nidx hp, lay_len]; omega) D21_3_93 ?_
      intro h27 H27
      rw [own_nidx hp, lay_seti (r := 1) (k := u) _ (by omega) (by omega) (by omega), mid_next B f (fun _ => y0) 1 u (by omega) (by omega)] at H27
      change Hp n0 h27 ((a, Ob Z "com/example/bitstride/bitstride/search/MismatchCounts" NSC [.ref pa, .int (Int32.ofNat (B + 1)), .int 1, .int lb]) :: (pa, La Z (lay (B + 1) 2 (mid B f (fun _ => y0) 1 (u + 1)))) :: (ma, La Z [y0]) :: σ) at H27
      refine G.lload K D21_3_94 rfl ?_
      refine G.lload K D21_3_96 rfl ?_
      refine G.land K D21_3_98 ?_
      refine G.lstore K D21_3_99 ([.val (.ref a), .val (.ref ma), .val (.ref pa), .val (.int (Int32.ofNat (B + 1))), .val (.int (Int32.ofNat B)), .val (.int (Int32.ofNat (B + 1))), .val (.int 0), .val (.int (Int32.ofNat 0)), .val (.long ((carF f (fun _ => y0) 1 u) &&& (shF f 1 u))), .second, .val (.int (Int32.ofNat u)), .val (.long (shF f 1 u)), .second]) rfl ?_
      refine G.iinc K D21_3_101 1 rfl rfl ([.val (.ref a), .val (.ref ma), .val (.ref pa), .val (.int (Int32.ofNat (B + 1))), .val (.int (Int32.ofNat B)), .val (.int (Int32.ofNat (B + 1))), .val (.int 0), .val (.int (Int32.ofNat 0)), .val (.long ((carF f (fun _ => y0) 1 u) &&& (shF f 1 u))), .second, .val (.int ((Int32.ofNat u) + 1)), .val (.long (shF f 1 u)), .second]) rfl ?_
      refine G.goto K D21_3_104 ?_
      rw [own_nsucc u]
      change G k n0 _ h27 _ _ 53 [.val (.ref a), .val (.ref ma), .val (.ref pa), .val (.int (Int32.ofNat (B + 1))), .val (.int (Int32.ofNat B)), .val (.int (Int32.ofNat (B + 1))), .val (.int 0), .val (.int (Int32.ofNat 0)), .val (.long (carF f (fun _ => y0) 1 (u + 1))), .second, .val (.int (Int32.ofNat (u + 1))), .val (.long (shF f 1 u)), .second] []
      exact ih (u + 1) _ _ _ (by omega) (Or.inr ⟨_, rfl, rfl⟩) H27
    | zero =>
      intro u s11 s12 h2 hi hs H2
      obtain rfl : B = u := by omega
      have hp : (B + 1) + B < 2147483648 := by omega
      have hp2 : 0 + B < 2147483648 := by omega
      refine G.iload K D21_3_53 rfl ?_
      refine G.iload K D21_3_55 rfl ?_
      refine G.icmp_ge K D21_3_57 (fun q28 => ?_) (fun q => absurd ((own_nlt (by omega) (by omega)).mp q) (by omega))
      refine G.aloadN K D21_3_107 rfl rfl ?_
      refine G.iload K D21_3_108 rfl ?_
      refine G.iload K D21_3_110 rfl ?_
      refine G.iadd K D21_3_112 ?_
      rw [own_nadd]
      refine G.aloadN K D21_3_113 rfl rfl ?_
      refine G.iload K D21_3_114 rfl ?_
      refine G.iload K D21_3_116 rfl ?_
      refine G.iadd K D21_3_118 ?_
      rw [own_nadd]
      refine G.aload_l K H2 (i := 1) rfl (own_nneg hp) (by rw [own_nidx hp, lay_geti (r := 1) (k := B) _ (by omega) (by omega) (by omega), mid_here]) D21_3_119 ?_
      refine G.iconst K D21_3_120 1 rfl ?_
      refine G.lshl K D21_3_121 ?_
      refine G.aloadN K D21_3_122 rfl rfl ?_
      refine G.iload K D21_3_123 rfl ?_
      refine G.iload K D21_3_125 rfl ?_
      refine G.iadd K D21_3_127 ?_
      rw [own_nadd]
      refine G.aload_l K H2 (i := 1) rfl (own_nneg hp2) (by rw [own_nidx hp2, lay_geti (r := 0) (k := B) _ (by omega) (by omega) (by omega), mid_below B f (fun _ => y0) 1 B B (by omega)]) D21_3_128 ?_
      refine G.bipush K D21_3_129 63 rfl ?_
      refine G.lushr K D21_3_131 ?_
      refine G.lor K D21_3_132 ?_
      change G k n0 _ h2 _ _ 133 [.val (.ref a), .val (.ref ma), .val (.ref pa), .val (.int (Int32.ofNat (B + 1))), .val (.int (Int32.ofNat B)), .val (.int (Int32.ofNat (B + 1))), .val (.int 0), .val (.int (Int32.ofNat 0)), .val (.long (carF f (fun _ => y0) 1 B)), .second, .val (.int (Int32.ofNat B)), s11, s12] [.long (shF f 1 B), .int (Int32.ofNat ((B + 1) + B)), .ref pa]
      refine G.lload K D21_3_133 rfl ?_
      refine G.lor K D21_3_135 ?_
      refine G.astore_l K H2 (i := 1) rfl (own_nneg hp) (by rw [own_nidx hp, lay_len]; omega) D21_3_136 ?_
      intro h29 H29
      rw [own_nidx hp, lay_seti (r := 1) (k := B) _ (by omega) (by omega) (by omega), mid_last B f (fun _ => y0) _ _ _ rfl (by omega)] at H29
      change Hp n0 h29 ((a, Ob Z "com/example/bitstride/bitstride/search/MismatchCounts" NSC [.ref pa, .int (Int32.ofNat (B + 1)), .int 1, .int lb]) :: (pa, La Z (lay (B + 1) 2 (mid B f (fun _ => y0) 0 0))) :: (ma, La Z [y0]) :: σ) at H29
      refine G.iload K D21_3_137 rfl ?_
      refine G.istore K D21_3_139 ([.val (.ref a), .val (.ref ma), .val (.ref pa), .val (.int (Int32.ofNat (B + 1))), .val (.int (Int32.ofNat B)), .val (.int (Int32.ofNat 0)), .val (.int 0), .val (.int (Int32.ofNat 0)), .val (.long (carF f (fun _ => y0) 1 B)), .second, .val (.int (Int32.ofNat B)), s11, s12]) rfl ?_
      refine G.iinc K D21_3_141 (-1) rfl rfl ([.val (.ref a), .val (.ref ma), .val (.ref pa), .val (.int (Int32.ofNat (B + 1))), .val (.int (Int32.ofNat B)), .val (.int (Int32.ofNat 0)), .val (.int (0 + (-1))), .val (.int (Int32.ofNat 0)), .val (.long (carF f (fun _ => y0) 1 B)), .second, .val (.int (Int32.ofNat B)), s11, s12]) rfl ?_
      change G k n0 _ h29 _ _ 144 [.val (.ref a), .val (.ref ma), .val (.ref pa), .val (.int (Int32.ofNat (B + 1))), .val (.int (Int32.ofNat B)), .val (.int (Int32.ofNat 0)), .val (.int (-1)), .val (.int (Int32.ofNat 0)), .val (.long (carF f (fun _ => y0) 1 B)), .second, .val (.int (Int32.ofNat B)), s11, s12] []
      refine G.goto K D21_3_144 ?_
      refine G.iload K D21_3_29 rfl ?_
      refine G.if_lt K D21_3_31 (fun _ => ?_) (fun q => absurd q (by decide))
      rw [mid_end] at H29
      refine G.aloadN K D21_3_147 rfl rfl ?_
      refine G.aloadN K D21_3_148 rfl rfl ?_
      refine G.alen K H29 (i := 1) rfl D21_3_149 (Int32.ofNat (2 * (B + 1))) (by rw [List.length_map, lay_len]) ?_
      refine G.iconst K D21_3_150 1 rfl ?_
      refine G.isub K D21_3_151 ?_
      rw [show Int32.ofNat (2 * (B + 1)) - 1 = Int32.ofNat ((B + 1) + B) from (own_nsub (i := 2 * (B + 1)) (j := 1) (by omega)).trans (congrArg Int32.ofNat (by omega))]
      have hq : (B + 1) + B < 2147483648 := by omega
      refine G.aload_l K H29 (i := 1) rfl (own_nneg hq) (by rw [own_nidx hq, lay_geti (r := 1) (k := B) _ (by omega) (by omega) (by omega)]) D21_3_152 ?_
      refine G.ldc2J K D21_3_153 (wd hw 27 rfl) ?_
      refine G.lxor K D21_3_156 ?_
      refine G.aloadN K D21_3_157 rfl rfl ?_
      refine G.getF K (host := "") (Or.inl (wd hw 20 rfl)) H29 (i := 0) rfl (j := 3) rfl rfl D21_3_158 ?_
      refine G.lushr K D21_3_161 ?_
      refine G.lconst K D21_3_162 1 rfl ?_
      refine G.land K D21_3_163 ?_
      refine G.ret_long K D21_3_164 ?_
      exact ⟨rfl, H29⟩
  exact loop1 B 0 _ _ _ (by omega) (Or.inl ⟨rfl, rfl⟩) H
theorem own_bl_ : ∀ e : Fin 68, ∃ B : Fin 8, 32 - nlzF (Int32.ofNat e.val) = Int32.ofNat B.val ∧ e.val + 1 ≤ 2 ^ B.val ∧ ((1 : Int64) <<< ((Int32.ofNat B.val).toInt64 &&& 63)) - ((Int32.ofNat e.val).toInt64 + 1) = Int64.ofNat (2 ^ B.val - (e.val + 1)) := by decide +kernel
theorem own_bl {e : Nat} (h : e < 68) : ∃ B : Nat, B ≤ 7 ∧ 32 - nlzF (Int32.ofNat e) = Int32.ofNat B ∧ e + 1 ≤ 2 ^ B ∧ ((1 : Int64) <<< ((Int32.ofNat B).toInt64 &&& 63)) - ((Int32.ofNat e).toInt64 + 1) = Int64.ofNat (2 ^ B - (e + 1)) := by
  obtain ⟨B, h1, h2, h3⟩ := own_bl_ ⟨e, h⟩
  exact ⟨B.val, by have := B.isLt; omega, h1, h2, h3⟩
theorem D3_0 : Dc method_3_code 0 (.lload_n 0) 1 1 := dc (by decide +kernel) rfl
theorem D3_1 : Dc method_3_code 1 (.iload_n 2) 1 2 := dc (by decide +kernel) rfl
theorem D3_2 : Dc method_3_code 2 (.lushr) 1 3 := dc (by decide +kernel) rfl
theorem D3_3 : Dc method_3_code 3 (.lconst 1) 1 4 := dc (by decide +kernel) rfl
theorem D3_4 : Dc method_3_code 4 (.land) 1 5 := dc (by decide +kernel) rfl
theorem D3_5 : Dc method_3_code 5 (.lconst 0) 1 6 := dc (by decide +kernel) rfl
theorem D3_6 : Dc method_3_code 6 (.lcmp) 1 7 := dc (by decide +kernel) rfl
theorem D3_7 : Db method_3_code 7 (.ifCond .ne) 10 14 := db (7) (by decide +kernel) rfl (by decide) (by decide)
theorem D3_10 : Dc method_3_code 10 (.lconst 1) 1 11 := dc (by decide +kernel) rfl
theorem D3_11 : Db method_3_code 11 (.goto) 14 15 := db (4) (by decide +kernel) rfl (by decide) (by decide)
theorem D3_14 : Dc method_3_code 14 (.lconst 0) 1 15 := dc (by decide +kernel) rfl
theorem D3_15 : Dc method_3_code 15 (.lreturn) 1 16 := dc (by decide +kernel) rfl
theorem pn_1 : plainName "com/example/bitstride/bitstride/search/MismatchCountsStepPinLaw" = true := by first | (simp [plainName, overriddenIn]; done) | decide +kernel
set_option maxRecDepth 65536 in
set_option maxHeartbeats 40000000 in
theorem ct_mis (l : Launch) (Z : State) (a0 : Array Value) (hw : ∀ d ∈ tables_1, d.before a0 Z = true) (n0 : Nat) (h : Heap) (y : Int64) (z : Int32) :
    Ct l Z n0 (⟨"com/example/bitstride/bitstride/search/MismatchCountsStepPinLaw", "mis", "(JI)J"⟩ : MethodName) method_3_code 3 (some .long) ({ frames := 0, cells := 0, slots := 0, locals := 0 } : Room) [.long y, .int z] h (fun v h' => v = some (.long (misF y z)) ∧ h = h') := by
  refine Ct.intro (plainFor_of_name pn_1) [.val (.long y), .second, .val (.int z)] (fun m => by first | (simp [entryFrame, mkF, argsToLocals, Value.category]; done) | (simp [entryFrame, mkF, argsToLocals, Value.category, maxLocals]; done) | rfl) ?_
  intro k hl K
  replace K : Ok k Z n0 "com/example/bitstride/bitstride/search/MismatchCountsStepPinLaw" ({ frames := 0, cells := 0, slots := 0, locals := 0 } : Room) method_3_code 3 (some .long) "mis" := K
  refine G.lloadN K D3_0 rfl ?_
  refine G.iloadN K D3_1 rfl ?_
  refine G.lushr K D3_2 ?_
  refine G.lconst K D3_3 1 rfl ?_
  refine G.land K D3_4 ?_
  refine G.lconst K D3_5 0 rfl ?_
  refine G.lcmp_ne K D3_6 D3_7 (fun q31 => ?_) (fun q31 => ?_)
  · refine G.lconst K D3_14 0 rfl ?_
    refine G.ret_long K D3_15 ?_
    exact ⟨by rw [misF, if_neg q31], rfl⟩
  · refine G.lconst K D3_10 1 rfl ?_
    refine G.goto K D3_11 ?_
    refine G.ret_long K D3_15 ?_
    exact ⟨by rw [misF, if_pos q31], rfl⟩
theorem D4_0 : Dc method_4_code 0 (.iload_n 3) 1 1 := dc (by decide +kernel) rfl
theorem D4_1 : Dc method_4_code 1 (.iload_n 2) 1 2 := dc (by decide +kernel) rfl
theorem D4_2 : Db method_4_code 2 (.if_icmp .lt) 5 7 := db (5) (by decide +kernel) rfl (by decide) (by decide)
theorem D4_5 : Dc method_4_code 5 (.lconst 0) 1 6 := dc (by decide +kernel) rfl
theorem D4_6 : Dc method_4_code 6 (.lreturn) 1 7 := dc (by decide +kernel) rfl
theorem D4_7 : Dc method_4_code 7 (.aload_n 0) 1 8 := dc (by decide +kernel) rfl
theorem D4_8 : Dc method_4_code 8 (.iload_n 1) 1 9 := dc (by decide +kernel) rfl
theorem D4_9 : Dc method_4_code 9 (.iload_n 2) 1 10 := dc (by decide +kernel) rfl
theorem D4_10 : Dc method_4_code 10 (.isub) 1 11 := dc (by decide +kernel) rfl
theorem D4_11 : Dc method_4_code 11 (.iconst 1) 1 12 := dc (by decide +kernel) rfl
theorem D4_12 : Dc method_4_code 12 (.iadd) 1 13 := dc (by decide +kernel) rfl
theorem D4_13 : Dc method_4_code 13 (.iload_n 3) 1 14 := dc (by decide +kernel) rfl
theorem D4_14 : Dc method_4_code 14 (.iadd) 1 15 := dc (by decide +kernel) rfl
theorem D4_15 : Dc method_4_code 15 (.laload) 1 16 := dc (by decide +kernel) rfl
theorem D4_16 : Dc method_4_code 16 (.iload_n 3) 1 17 := dc (by decide +kernel) rfl
theorem D4_17 : Dc method_4_code 17 (.invokestatic 25) 3 20 := dc (by decide +kernel) rfl
theorem D4_20 : Dc method_4_code 20 (.lreturn) 1 21 := dc (by decide +kernel) rfl
set_option maxRecDepth 65536 in
set_option maxHeartbeats 40000000 in
theorem ct_term (l : Launch) (Z : State) (a0 : Array Value) (hw : ∀ d ∈ tables_1, d.before a0 Z = true) (n0 : Nat) (h : Heap) (ma : Addr) (m1 m2 m3 m4 m5 : Int64) (t L j : Nat) (σ : List Ch) (ht : t ≤ 5) (hL : L ≤ t) (hj : j < 5) (H : Hp n0 h ((ma, La Z [0, m1, m2, m3, m4, m5]) :: σ)) :
    Ct l Z n0 (⟨"com/example/bitstride/bitstride/search/MismatchCountsStepPinLaw", "term", "([JIII)J"⟩ : MethodName) method_4_code 4 (some .long) ({ frames := 1, cells := 0, slots := 0, locals := 14 } : Room) [.ref ma, .int (Int32.ofNat t), .int (Int32.ofNat L), .int (Int32.ofNat j)] h (fun v h' => v = some (.long (trmF (msF m1 m2 m3 m4 m5) t L j)) ∧ Hp n0 h' ((ma, La Z [0, m1, m2, m3, m4, m5]) :: σ)) := by
  refine Ct.intro (plainFor_of_name pn_1) [.val (.ref ma), .val (.int (Int32.ofNat t)), .val (.int (Int32.ofNat L)), .val (.int (Int32.ofNat j))] (fun m => by first | (simp [entryFrame, mkF, argsToLocals, Value.category]; done) | (simp [entryFrame, mkF, argsToLocals, Value.category, maxLocals]; done) | rfl) ?_
  intro k hl K
  replace K : Ok k Z n0 "com/example/bitstride/bitstride/search/MismatchCountsStepPinLaw" ({ frames := 1, cells := 0, slots := 0, locals := 14 } : Room) method_4_code 4 (some .long) "term" := K
  refine G.iloadN K D4_0 rfl ?_
  refine G.iloadN K D4_1 rfl ?_
  refine G.icmp_lt K D4_2 (fun q32 => ?_) (fun q32 => ?_)
  · refine G.aloadN K D4_7 rfl rfl ?_
    refine G.iloadN K D4_8 rfl ?_
    refine G.iloadN K D4_9 rfl ?_
    refine G.isub K D4_10 ?_
    rw [own_nsub hL]
    refine G.iconst K D4_11 1 rfl ?_
    refine G.iadd K D4_12 ?_
    rw [own_nsucc]
    refine G.iloadN K D4_13 rfl ?_
    refine G.iadd K D4_14 ?_
    rw [own_nadd]
    have hjl := (own_nlt (by omega) (by omega)).mp q32
    refine G.aload_l K H (i := 0) rfl (own_nneg (by omega)) (by rw [own_nidx (by omega)]; exact ms_get (by omega)) D4_15 ?_
    refine G.iloadN K D4_16 rfl ?_
    refine G.callS K hl (wd hw 40 rfl) (wd hw 41 rfl) (wd hw 35 rfl) (wd hw 42 rfl) (by decide) pd_1 (ct_mis l Z a0 hw n0 _ (msF m1 m2 m3 m4 m5 (t - L + 1 + j)) (Int32.ofNat j)) 0 rfl (by decide) (by decide) (by decide) (by decide) rfl rfl [.int (Int32.ofNat j), .long (msF m1 m2 m3 m4 m5 (t - L + 1 + j))] rfl D4_17 ?_
    rintro _ _ ⟨rfl, rfl⟩
    change G k n0 _ h _ _ 20 [.val (.ref ma), .val (.int (Int32.ofNat t)), .val (.int (Int32.ofNat L)), .val (.int (Int32.ofNat j))] [.long (misF (msF m1 m2 m3 m4 m5 (t - L + 1 + j)) (Int32.ofNat j))]
    refine G.ret_long K D4_20 ?_
    exact ⟨by rw [trmF, if_pos ((own_nlt (by omega) (by omega)).mp q32)], H⟩
  · refine G.lconst K D4_5 0 rfl ?_
    refine G.ret_long K D4_6 ?_
    exact ⟨by rw [trmF, if_neg (fun z => q32 ((own_nlt (by omega) (by omega)).mpr z))], H⟩
theorem D5_0 : Dc method_5_code 0 (.iload_n 1) 1 1 := dc (by decide +kernel) rfl
theorem D5_1 : Dc method_5_code 1 (.iload_n 2) 1 2 := dc (by decide +kernel) rfl
theorem D5_2 : Db method_5_code 2 (.if_icmp .ge) 5 7 := db (5) (by decide +kernel) rfl (by decide) (by decide)
theorem D5_5 : Dc method_5_code 5 (.lconst 0) 1 6 := dc (by decide +kernel) rfl
theorem D5_6 : Dc method_5_code 6 (.lreturn) 1 7 := dc (by decide +kernel) rfl
theorem D5_7 : Dc method_5_code 7 (.aload_n 0) 1 8 := dc (by decide +kernel) rfl
theorem D5_8 : Dc method_5_code 8 (.iload_n 1) 1 9 := dc (by decide +kernel) rfl
theorem D5_9 : Dc method_5_code 9 (.iload_n 2) 1 10 := dc (by decide +kernel) rfl
theorem D5_10 : Dc method_5_code 10 (.iconst 0) 1 11 := dc (by decide +kernel) rfl
theorem D5_11 : Dc method_5_code 11 (.invokestatic 29) 3 14 := dc (by decide +kernel) rfl
theorem D5_14 : Dc method_5_code 14 (.aload_n 0) 1 15 := dc (by decide +kernel) rfl
theorem D5_15 : Dc method_5_code 15 (.iload_n 1) 1 16 := dc (by decide +kernel) rfl
theorem D5_16 : Dc method_5_code 16 (.iload_n 2) 1 17 := dc (by decide +kernel) rfl
theorem D5_17 : Dc method_5_code 17 (.iconst 1) 1 18 := dc (by decide +kernel) rfl
theorem D5_18 : Dc method_5_code 18 (.invokestatic 29) 3 21 := dc (by decide +kernel) rfl
theorem D5_21 : Dc method_5_code 21 (.ladd) 1 22 := dc (by decide +kernel) rfl
theorem D5_22 : Dc method_5_code 22 (.aload_n 0) 1 23 := dc (by decide +kernel) rfl
theorem D5_23 : Dc method_5_code 23 (.iload_n 1) 1 24 := dc (by decide +kernel) rfl
theorem D5_24 : Dc method_5_code 24 (.iload_n 2) 1 25 := dc (by decide +kernel) rfl
theorem D5_25 : Dc method_5_code 25 (.iconst 2) 1 26 := dc (by decide +kernel) rfl
theorem D5_26 : Dc method_5_code 26 (.invokestatic 29) 3 29 := dc (by decide +kernel) rfl
theorem D5_29 : Dc method_5_code 29 (.ladd) 1 30 := dc (by decide +kernel) rfl
theorem D5_30 : Dc method_5_code 30 (.aload_n 0) 1 31 := dc (by decide +kernel) rfl
theorem D5_31 : Dc method_5_code 31 (.iload_n 1) 1 32 := dc (by decide +kernel) rfl
theorem D5_32 : Dc method_5_code 32 (.iload_n 2) 1 33 := dc (by decide +kernel) rfl
theorem D5_33 : Dc method_5_code 33 (.iconst 3) 1 34 := dc (by decide +kernel) rfl
theorem D5_34 : Dc method_5_code 34 (.invokestatic 29) 3 37 := dc (by decide +kernel) rfl
theorem D5_37 : Dc method_5_code 37 (.ladd) 1 38 := dc (by decide +kernel) rfl
theorem D5_38 : Dc method_5_code 38 (.aload_n 0) 1 39 := dc (by decide +kernel) rfl
theorem D5_39 : Dc method_5_code 39 (.iload_n 1) 1 40 := dc (by decide +kernel) rfl
theorem D5_40 : Dc method_5_code 40 (.iload_n 2) 1 41 := dc (by decide +kernel) rfl
theorem D5_41 : Dc method_5_code 41 (.iconst 4) 1 42 := dc (by decide +kernel) rfl
theorem D5_42 : Dc method_5_code 42 (.invokestatic 29) 3 45 := dc (by decide +kernel) rfl
theorem D5_45 : Dc method_5_code 45 (.ladd) 1 46 := dc (by decide +kernel) rfl
theorem D5_46 : Dc method_5_code 46 (.lstore 4) 2 48 := dc (by decide +kernel) rfl
theorem D5_48 : Dc method_5_code 48 (.lload 4) 2 50 := dc (by decide +kernel) rfl
theorem D5_50 : Dc method_5_code 50 (.iload_n 3) 1 51 := dc (by decide +kernel) rfl
theorem D5_51 : Dc method_5_code 51 (.i2l) 1 52 := dc (by decide +kernel) rfl
theorem D5_52 : Dc method_5_code 52 (.lcmp) 1 53 := dc (by decide +kernel) rfl
theorem D5_53 : Db method_5_code 53 (.ifCond .gt) 56 60 := db (7) (by decide +kernel) rfl (by decide) (by decide)
theorem D5_56 : Dc method_5_code 56 (.lconst 1) 1 57 := dc (by decide +kernel) rfl
theorem D5_57 : Db method_5_code 57 (.goto) 60 61 := db (4) (by decide +kernel) rfl (by decide) (by decide)
theorem D5_60 : Dc method_5_code 60 (.lconst 0) 1 61 := dc (by decide +kernel) rfl
theorem D5_61 : Dc method_5_code 61 (.lreturn) 1 62 := dc (by decide +kernel) rfl
set_option maxRecDepth 65536 in
set_option maxHeartbeats 40000000 in
theorem ct_expect (l : Launch) (Z : State) (a0 : Array Value) (hw : ∀ d ∈ tables_1, d.before a0 Z = true) (n0 : Nat) (h : Heap) (ma : Addr) (m1 m2 m3 m4 m5 : Int64) (t L e : Nat) (σ : List Ch) (ht : t ≤ 5) (hL1 : 1 ≤ L) (hL64 : L ≤ 64) (he : e ≤ 64) (H : Hp n0 h ((ma, La Z [0, m1, m2, m3, m4, m5]) :: σ)) :
    Ct l Z n0 (⟨"com/example/bitstride/bitstride/search/MismatchCountsStepPinLaw", "expect", "([JIII)J"⟩ : MethodName) method_5_code 6 (some .long) ({ frames := 2, cells := 0, slots := 0, locals := 40 } : Room) [.ref ma, .int (Int32.ofNat t), .int (Int32.ofNat L), .int (Int32.ofNat e)] h (fun v h' => v = some (.long (expF (msF m1 m2 m3 m4 m5) e L t)) ∧ Hp n0 h' ((ma, La Z [0, m1, m2, m3, m4, m5]) :: σ)) := by
  refine Ct.intro (plainFor_of_name pn_1) [.val (.ref ma), .val (.int (Int32.ofNat t)), .val (.int (Int32.ofNat L)), .val (.int (Int32.ofNat e)), .unset, .unset] (fun m => by first | (simp [entryFrame, mkF, argsToLocals, Value.category]; done) | (simp [entryFrame, mkF, argsToLocals, Value.category, maxLocals]; done) | rfl) ?_
  intro k hl K
  replace K : Ok k Z n0 "com/example/bitstride/bitstride/search/MismatchCountsStepPinLaw" ({ frames := 2, cells := 0, slots := 0, locals := 40 } : Room) method_5_code 6 (some .long) "expect" := K
  refine G.iloadN K D5_0 rfl ?_
  refine G.iloadN K D5_1 rfl ?_
  refine G.icmp_ge K D5_2 (fun q33 => ?_) (fun q33 => ?_)
  · have hLt : L ≤ t := Nat.le_of_not_lt fun z => q33 ((own_nlt (by omega) (by omega)).mpr z)
    refine G.aloadN K D5_7 rfl rfl ?_
    refine G.iloadN K D5_8 rfl ?_
    refine G.iloadN K D5_9 rfl ?_
    refine G.iconst K D5_10 0 rfl ?_
    refine G.callS K hl (wd hw 37 rfl) (wd hw 38 rfl) (wd hw 35 rfl) (wd hw 39 rfl) (by decide) pd_2 (ct_term l Z a0 hw n0 h ma m1 m2 m3 m4 m5 t L 0 σ ht hLt (by decide) H) 0 rfl (by decide) (by decide) (by decide) (by decide) rfl rfl [.int 0, .int (Int32.ofNat L), .int (Int32.ofNat t), .ref ma] rfl D5_11 ?_
    rintro _ h34 ⟨rfl, H34⟩
    change G k n0 _ h34 _ _ 14 [.val (.ref ma), .val (.int (Int32.ofNat t)), .val (.int (Int32.ofNat L)), .val (.int (Int32.ofNat e)), .unset, .unset] [.long (trmF (msF m1 m2 m3 m4 m5) t L 0)]
    refine G.aloadN K D5_14 rfl rfl ?_
    refine G.iloadN K D5_15 rfl ?_
    refine G.iloadN K D5_16 rfl ?_
    refine G.iconst K D5_17 1 rfl ?_
    refine G.callS K hl (wd hw 37 rfl) (wd hw 38 rfl) (wd hw 35 rfl) (wd hw 39 rfl) (by decide) pd_2 (ct_term l Z a0 hw n0 h34 ma m1 m2 m3 m4 m5 t L 1 σ ht hLt (by decide) H34) 2 rfl (by decide) (by decide) (by decide) (by decide) rfl rfl [.int 1, .int (Int32.ofNat L), .int (Int32.ofNat t), .ref ma] rfl D5_18 ?_
    rintro _ h35 ⟨rfl, H35⟩
    change G k n0 _ h35 _ _ 21 [.val (.ref ma), .val (.int (Int32.ofNat t)), .val (.int (Int32.ofNat L)), .val (.int (Int32.ofNat e)), .unset, .unset] [.long (trmF (msF m1 m2 m3 m4 m5) t L 1), .long (trmF (msF m1 m2 m3 m4 m5) t L 0)]
    refine G.ladd K D5_21 ?_
    refine G.aloadN K D5_22 rfl rfl ?_
    refine G.iloadN K D5_23 rfl ?_
    refine G.iloadN K D5_24 rfl ?_
    refine G.iconst K D5_25 2 rfl ?_
    refine G.callS K hl (wd hw 37 rfl) (wd hw 38 rfl) (wd hw 35 rfl) (wd hw 39 rfl) (by decide) pd_2 (ct_term l Z a0 hw n0 h35 ma m1 m2 m3 m4 m5 t L 2 σ ht hLt (by decide) H35) 2 rfl (by decide) (by decide) (by decide) (by decide) rfl rfl [.int 2, .int (Int32.ofNat L), .int (Int32.ofNat t), .ref ma] rfl D5_26 ?_
    rintro _ h36 ⟨rfl, H36⟩
    change G k n0 _ h36 _ _ 29 [.val (.ref ma), .val (.int (Int32.ofNat t)), .val (.int (Int32.ofNat L)), .val (.int (Int32.ofNat e)), .unset, .unset] [.long (trmF (msF m1 m2 m3 m4 m5) t L 2), .long ((trmF (msF m1 m2 m3 m4 m5) t L 0) + (trmF (msF m1 m2 m3 m4 m5) t L 1))]
    refine G.ladd K D5_29 ?_
    refine G.aloadN K D5_30 rfl rfl ?_
    refine G.iloadN K D5_31 rfl ?_
    refine G.iloadN K D5_32 rfl ?_
    refine G.iconst K D5_33 3 rfl ?_
    refine G.callS K hl (wd hw 37 rfl) (wd hw 38 rfl) (wd hw 35 rfl) (wd hw 39 rfl) (by decide) pd_2 (ct_term l Z a0 hw n0 h36 ma m1 m2 m3 m4 m5 t L 3 σ ht hLt (by decide) H36) 2 rfl (by decide) (by decide) (by decide) (by decide) rfl rfl [.int 3, .int (Int32.ofNat L), .int (Int32.ofNat t), .ref ma] rfl D5_34 ?_
    rintro _ h37 ⟨rfl, H37⟩
    change G k n0 _ h37 _ _ 37 [.val (.ref ma), .val (.int (Int32.ofNat t)), .val (.int (Int32.ofNat L)), .val (.int (Int32.ofNat e)), .unset, .unset] [.long (trmF (msF m1 m2 m3 m4 m5) t L 3), .long (((trmF (msF m1 m2 m3 m4 m5) t L 0) + (trmF (msF m1 m2 m3 m4 m5) t L 1)) + (trmF (msF m1 m2 m3 m4 m5) t L 2))]
    refine G.ladd K D5_37 ?_
    refine G.aloadN K D5_38 rfl rfl ?_
    refine G.iloadN K D5_39 rfl ?_
    refine G.iloadN K D5_40 rfl ?_
    refine G.iconst K D5_41 4 rfl ?_
    refine G.callS K hl (wd hw 37 rfl) (wd hw 38 rfl) (wd hw 35 rfl) (wd hw 39 rfl) (by decide) pd_2 (ct_term l Z a0 hw n0 h37 ma m1 m2 m3 m4 m5 t L 4 σ ht hLt (by decide) H37) 2 rfl (by decide) (by decide) (by decide) (by decide) rfl rfl [.int 4, .int (Int32.ofNat L), .int (Int32.ofNat t), .ref ma] rfl D5_42 ?_
    rintro _ h38 ⟨rfl, H38⟩
    change G k n0 _ h38 _ _ 45 [.val (.ref ma), .val (.int (Int32.ofNat t)), .val (.int (Int32.ofNat L)), .val (.int (Int32.ofNat e)), .unset, .unset] [.long (trmF (msF m1 m2 m3 m4 m5) t L 4), .long ((((trmF (msF m1 m2 m3 m4 m5) t L 0) + (trmF (msF m1 m2 m3 m4 m5) t L 1)) + (trmF (msF m1 m2 m3 m4 m5) t L 2)) + (trmF (msF m1 m2 m3 m4 m5) t L 3))]
    refine G.ladd K D5_45 ?_
    refine G.lstore K D5_46 ([.val (.ref ma), .val (.int (Int32.ofNat t)), .val (.int (Int32.ofNat L)), .val (.int (Int32.ofNat e)), .val (.long (((((trmF (msF m1 m2 m3 m4 m5) t L 0) + (trmF (msF m1 m2 m3 m4 m5) t L 1)) + (trmF (msF m1 m2 m3 m4 m5) t L 2)) + (trmF (msF m1 m2 m3 m4 m5) t L 3)) + (trmF (msF m1 m2 m3 m4 m5) t L 4))), .second]) rfl ?_
    rw [own_sum5 (msF m1 m2 m3 m4 m5) hL1 hLt ht]
    refine G.lload K D5_48 rfl ?_
    refine G.iloadN K D5_50 rfl ?_
    refine G.i2l K D5_51 ?_
    rw [own_i64nat (by omega)]
    have hsm := Sm_le (msF m1 m2 m3 m4 m5) (L - 1) t
    refine G.lcmp_gt K D5_52 D5_53 (fun q39 => ?_) (fun q39 => ?_)
    · refine G.lconst K D5_60 0 rfl ?_
      refine G.ret_long K D5_61 ?_
      exact ⟨by rw [expF, if_neg (by omega), if_pos ((own_lnlt (by omega) (by omega)).mp q39)], H38⟩
    · refine G.lconst K D5_56 1 rfl ?_
      refine G.goto K D5_57 ?_
      refine G.ret_long K D5_61 ?_
      exact ⟨by rw [expF, if_neg (by omega), if_neg (fun z => q39 ((own_lnlt (by omega) (by omega)).mpr z))], H38⟩
  · refine G.lconst K D5_5 0 rfl ?_
    refine G.ret_long K D5_6 ?_
    exact ⟨by rw [expF, if_pos ((own_nlt (by omega) (by omega)).mp q33)], H⟩
theorem Dx_0 : Dc code 0 (.iload_n 0) 1 1 := dc at_0 rfl
theorem Dx_1 : Dc code 1 (.sipush 255) 3 4 := dc at_1 rfl
theorem Dx_4 : Dc code 4 (.iand) 1 5 := dc at_4 rfl
theorem Dx_5 : Dc code 5 (.istore 11) 2 7 := dc at_5 rfl
theorem Dx_7 : Dc code 7 (.iload 11) 2 9 := dc at_7 rfl
theorem Dx_9 : Dc code 9 (.bipush 64) 2 11 := dc at_9 rfl
theorem Dx_11 : Db code 11 (.if_icmp .ge) 14 21 := db (10) at_11 rfl (by decide) (by decide)
theorem Dx_14 : Dc code 14 (.iconst 1) 1 15 := dc at_14 rfl
theorem Dx_15 : Dc code 15 (.iload 11) 2 17 := dc at_15 rfl
theorem Dx_17 : Dc code 17 (.iadd) 1 18 := dc at_17 rfl
theorem Dx_18 : Db code 18 (.goto) 21 27 := db (9) at_18 rfl (by decide) (by decide)
theorem Dx_21 : Dc code 21 (.iconst 1) 1 22 := dc at_21 rfl
theorem Dx_22 : Dc code 22 (.iload 11) 2 24 := dc at_22 rfl
theorem Dx_24 : Dc code 24 (.iconst 5) 1 25 := dc at_24 rfl
theorem Dx_25 : Dc code 25 (.irem) 1 26 := dc at_25 rfl
theorem Dx_26 : Dc code 26 (.iadd) 1 27 := dc at_26 rfl
theorem Dx_27 : Dc code 27 (.istore 12) 2 29 := dc at_27 rfl
theorem Dx_29 : Dc code 29 (.iload_n 0) 1 30 := dc at_29 rfl
theorem Dx_30 : Dc code 30 (.bipush 8) 2 32 := dc at_30 rfl
theorem Dx_32 : Dc code 32 (.iushr) 1 33 := dc at_32 rfl
theorem Dx_33 : Dc code 33 (.iload 12) 2 35 := dc at_33 rfl
theorem Dx_35 : Dc code 35 (.iconst 1) 1 36 := dc at_35 rfl
theorem Dx_36 : Dc code 36 (.iadd) 1 37 := dc at_36 rfl
theorem Dx_37 : Dc code 37 (.irem) 1 38 := dc at_37 rfl
theorem Dx_38 : Dc code 38 (.istore 13) 2 40 := dc at_38 rfl
theorem Dx_40 : Dc code 40 (.bipush 6) 2 42 := dc at_40 rfl
theorem Dx_42 : Dc code 42 (.newarray .long) 2 44 := dc at_42 rfl
theorem Dx_44 : Dc code 44 (.dup) 1 45 := dc at_44 rfl
theorem Dx_45 : Dc code 45 (.iconst 0) 1 46 := dc at_45 rfl
theorem Dx_46 : Dc code 46 (.lconst 0) 1 47 := dc at_46 rfl
theorem Dx_47 : Dc code 47 (.lastore) 1 48 := dc at_47 rfl
theorem Dx_48 : Dc code 48 (.dup) 1 49 := dc at_48 rfl
theorem Dx_49 : Dc code 49 (.iconst 1) 1 50 := dc at_49 rfl
theorem Dx_50 : Dc code 50 (.lload_n 1) 1 51 := dc at_50 rfl
theorem Dx_51 : Dc code 51 (.lastore) 1 52 := dc at_51 rfl
theorem Dx_52 : Dc code 52 (.dup) 1 53 := dc at_52 rfl
theorem Dx_53 : Dc code 53 (.iconst 2) 1 54 := dc at_53 rfl
theorem Dx_54 : Dc code 54 (.lload_n 3) 1 55 := dc at_54 rfl
theorem Dx_55 : Dc code 55 (.lastore) 1 56 := dc at_55 rfl
theorem Dx_56 : Dc code 56 (.dup) 1 57 := dc at_56 rfl
theorem Dx_57 : Dc code 57 (.iconst 3) 1 58 := dc at_57 rfl
theorem Dx_58 : Dc code 58 (.lload 5) 2 60 := dc at_58 rfl
theorem Dx_60 : Dc code 60 (.lastore) 1 61 := dc at_60 rfl
theorem Dx_61 : Dc code 61 (.dup) 1 62 := dc at_61 rfl
theorem Dx_62 : Dc code 62 (.iconst 4) 1 63 := dc at_62 rfl
theorem Dx_63 : Dc code 63 (.lload 7) 2 65 := dc at_63 rfl
theorem Dx_65 : Dc code 65 (.lastore) 1 66 := dc at_65 rfl
theorem Dx_66 : Dc code 66 (.dup) 1 67 := dc at_66 rfl
theorem Dx_67 : Dc code 67 (.iconst 5) 1 68 := dc at_67 rfl
theorem Dx_68 : Dc code 68 (.lload 9) 2 70 := dc at_68 rfl
theorem Dx_70 : Dc code 70 (.lastore) 1 71 := dc at_70 rfl
theorem Dx_71 : Dc code 71 (.astore 14) 2 73 := dc at_71 rfl
theorem Dx_73 : Dc code 73 (.iconst 1) 1 74 := dc at_73 rfl
theorem Dx_74 : Dc code 74 (.newarray .long) 2 76 := dc at_74 rfl
theorem Dx_76 : Dc code 76 (.dup) 1 77 := dc at_76 rfl
theorem Dx_77 : Dc code 77 (.iconst 0) 1 78 := dc at_77 rfl
theorem Dx_78 : Dc code 78 (.lload_n 1) 1 79 := dc at_78 rfl
theorem Dx_79 : Dc code 79 (.lastore) 1 80 := dc at_79 rfl
theorem Dx_80 : Dc code 80 (.astore 15) 2 82 := dc at_80 rfl
theorem Dx_82 : Dc code 82 (.iconst 1) 1 83 := dc at_82 rfl
theorem Dx_83 : Dc code 83 (.newarray .long) 2 85 := dc at_83 rfl
theorem Dx_85 : Dc code 85 (.dup) 1 86 := dc at_85 rfl
theorem Dx_86 : Dc code 86 (.iconst 0) 1 87 := dc at_86 rfl
theorem Dx_87 : Dc code 87 (.lload_n 3) 1 88 := dc at_87 rfl
theorem Dx_88 : Dc code 88 (.lastore) 1 89 := dc at_88 rfl
theorem Dx_89 : Dc code 89 (.astore 16) 2 91 := dc at_89 rfl
theorem Dx_91 : Dc code 91 (.iconst 1) 1 92 := dc at_91 rfl
theorem Dx_92 : Dc code 92 (.newarray .long) 2 94 := dc at_92 rfl
theorem Dx_94 : Dc code 94 (.dup) 1 95 := dc at_94 rfl
theorem Dx_95 : Dc code 95 (.iconst 0) 1 96 := dc at_95 rfl
theorem Dx_96 : Dc code 96 (.lload 5) 2 98 := dc at_96 rfl
theorem Dx_98 : Dc code 98 (.lastore) 1 99 := dc at_98 rfl
theorem Dx_99 : Dc code 99 (.astore 17) 2 101 := dc at_99 rfl
theorem Dx_101 : Dc code 101 (.iconst 1) 1 102 := dc at_101 rfl
theorem Dx_102 : Dc code 102 (.newarray .long) 2 104 := dc at_102 rfl
theorem Dx_104 : Dc code 104 (.dup) 1 105 := dc at_104 rfl
theorem Dx_105 : Dc code 105 (.iconst 0) 1 106 := dc at_105 rfl
theorem Dx_106 : Dc code 106 (.lload 7) 2 108 := dc at_106 rfl
theorem Dx_108 : Dc code 108 (.lastore) 1 109 := dc at_108 rfl
theorem Dx_109 : Dc code 109 (.astore 18) 2 111 := dc at_109 rfl
theorem Dx_111 : Dc code 111 (.iconst 1) 1 112 := dc at_111 rfl
theorem Dx_112 : Dc code 112 (.newarray .long) 2 114 := dc at_112 rfl
theorem Dx_114 : Dc code 114 (.dup) 1 115 := dc at_114 rfl
theorem Dx_115 : Dc code 115 (.iconst 0) 1 116 := dc at_115 rfl
theorem Dx_116 : Dc code 116 (.lload 9) 2 118 := dc at_116 rfl
theorem Dx_118 : Dc code 118 (.lastore) 1 119 := dc at_118 rfl
theorem Dx_119 : Dc code 119 (.astore 19) 2 121 := dc at_119 rfl
theorem Dx_121 : Dc code 121 (.new 7) 3 124 := dc at_121 rfl
theorem Dx_124 : Dc code 124 (.dup) 1 125 := dc at_124 rfl
theorem Dx_125 : Dc code 125 (.iconst 1) 1 126 := dc at_125 rfl
theorem Dx_126 : Dc code 126 (.iload 12) 2 128 := dc at_126 rfl
theorem Dx_128 : Dc code 128 (.iload 13) 2 130 := dc at_128 rfl
theorem Dx_130 : Dc code 130 (.invokespecial 9) 3 133 := dc at_130 rfl
theorem Dx_133 : Dc code 133 (.astore 20) 2 135 := dc at_133 rfl
theorem Dx_135 : Dc code 135 (.aload 20) 2 137 := dc at_135 rfl
theorem Dx_137 : Dc code 137 (.invokevirtual 12) 3 140 := dc at_137 rfl
theorem Dx_140 : Dc code 140 (.aload 20) 2 142 := dc at_140 rfl
theorem Dx_142 : Dc code 142 (.aload 15) 2 144 := dc at_142 rfl
theorem Dx_144 : Dc code 144 (.invokevirtual 15) 3 147 := dc at_144 rfl
theorem Dx_147 : Dc code 147 (.lstore 21) 2 149 := dc at_147 rfl
theorem Dx_149 : Dc code 149 (.aload 20) 2 151 := dc at_149 rfl
theorem Dx_151 : Dc code 151 (.aload 16) 2 153 := dc at_151 rfl
theorem Dx_153 : Dc code 153 (.invokevirtual 15) 3 156 := dc at_153 rfl
theorem Dx_156 : Dc code 156 (.lstore 23) 2 158 := dc at_156 rfl
theorem Dx_158 : Dc code 158 (.aload 20) 2 160 := dc at_158 rfl
theorem Dx_160 : Dc code 160 (.aload 17) 2 162 := dc at_160 rfl
theorem Dx_162 : Dc code 162 (.invokevirtual 15) 3 165 := dc at_162 rfl
theorem Dx_165 : Dc code 165 (.lstore 25) 2 167 := dc at_165 rfl
theorem Dx_167 : Dc code 167 (.aload 20) 2 169 := dc at_167 rfl
theorem Dx_169 : Dc code 169 (.aload 18) 2 171 := dc at_169 rfl
theorem Dx_171 : Dc code 171 (.invokevirtual 15) 3 174 := dc at_171 rfl
theorem Dx_174 : Dc code 174 (.lstore 27) 2 176 := dc at_174 rfl
theorem Dx_176 : Dc code 176 (.aload 20) 2 178 := dc at_176 rfl
theorem Dx_178 : Dc code 178 (.aload 19) 2 180 := dc at_178 rfl
theorem Dx_180 : Dc code 180 (.invokevirtual 15) 3 183 := dc at_180 rfl
theorem Dx_183 : Dc code 183 (.lstore 29) 2 185 := dc at_183 rfl
theorem Dx_185 : Dc code 185 (.lload 21) 2 187 := dc at_185 rfl
theorem Dx_187 : Dc code 187 (.aload 14) 2 189 := dc at_187 rfl
theorem Dx_189 : Dc code 189 (.iconst 1) 1 190 := dc at_189 rfl
theorem Dx_190 : Dc code 190 (.iload 12) 2 192 := dc at_190 rfl
theorem Dx_192 : Dc code 192 (.iload 13) 2 194 := dc at_192 rfl
theorem Dx_194 : Dc code 194 (.invokestatic 19) 3 197 := dc at_194 rfl
theorem Dx_197 : Dc code 197 (.lcmp) 1 198 := dc at_197 rfl
theorem Dx_198 : Db code 198 (.ifCond .ne) 201 269 := db (71) at_198 rfl (by decide) (by decide)
theorem Dx_201 : Dc code 201 (.lload 23) 2 203 := dc at_201 rfl
theorem Dx_203 : Dc code 203 (.aload 14) 2 205 := dc at_203 rfl
theorem Dx_205 : Dc code 205 (.iconst 2) 1 206 := dc at_205 rfl
theorem Dx_206 : Dc code 206 (.iload 12) 2 208 := dc at_206 rfl
theorem Dx_208 : Dc code 208 (.iload 13) 2 210 := dc at_208 rfl
theorem Dx_210 : Dc code 210 (.invokestatic 19) 3 213 := dc at_210 rfl
theorem Dx_213 : Dc code 213 (.lcmp) 1 214 := dc at_213 rfl
theorem Dx_214 : Db code 214 (.ifCond .ne) 217 269 := db (55) at_214 rfl (by decide) (by decide)
theorem Dx_217 : Dc code 217 (.lload 25) 2 219 := dc at_217 rfl
theorem Dx_219 : Dc code 219 (.aload 14) 2 221 := dc at_219 rfl
theorem Dx_221 : Dc code 221 (.iconst 3) 1 222 := dc at_221 rfl
theorem Dx_222 : Dc code 222 (.iload 12) 2 224 := dc at_222 rfl
theorem Dx_224 : Dc code 224 (.iload 13) 2 226 := dc at_224 rfl
theorem Dx_226 : Dc code 226 (.invokestatic 19) 3 229 := dc at_226 rfl
theorem Dx_229 : Dc code 229 (.lcmp) 1 230 := dc at_229 rfl
theorem Dx_230 : Db code 230 (.ifCond .ne) 233 269 := db (39) at_230 rfl (by decide) (by decide)
theorem Dx_233 : Dc code 233 (.lload 27) 2 235 := dc at_233 rfl
theorem Dx_235 : Dc code 235 (.aload 14) 2 237 := dc at_235 rfl
theorem Dx_237 : Dc code 237 (.iconst 4) 1 238 := dc at_237 rfl
theorem Dx_238 : Dc code 238 (.iload 12) 2 240 := dc at_238 rfl
theorem Dx_240 : Dc code 240 (.iload 13) 2 242 := dc at_240 rfl
theorem Dx_242 : Dc code 242 (.invokestatic 19) 3 245 := dc at_242 rfl
theorem Dx_245 : Dc code 245 (.lcmp) 1 246 := dc at_245 rfl
theorem Dx_246 : Db code 246 (.ifCond .ne) 249 269 := db (23) at_246 rfl (by decide) (by decide)
theorem Dx_249 : Dc code 249 (.lload 29) 2 251 := dc at_249 rfl
theorem Dx_251 : Dc code 251 (.aload 14) 2 253 := dc at_251 rfl
theorem Dx_253 : Dc code 253 (.iconst 5) 1 254 := dc at_253 rfl
theorem Dx_254 : Dc code 254 (.iload 12) 2 256 := dc at_254 rfl
theorem Dx_256 : Dc code 256 (.iload 13) 2 258 := dc at_256 rfl
theorem Dx_258 : Dc code 258 (.invokestatic 19) 3 261 := dc at_258 rfl
theorem Dx_261 : Dc code 261 (.lcmp) 1 262 := dc at_261 rfl
theorem Dx_262 : Db code 262 (.ifCond .ne) 265 269 := db (7) at_262 rfl (by decide) (by decide)
theorem Dx_265 : Dc code 265 (.iconst 1) 1 266 := dc at_265 rfl
theorem Dx_266 : Db code 266 (.goto) 269 270 := db (4) at_266 rfl (by decide) (by decide)
theorem Dx_269 : Dc code 269 (.iconst 0) 1 270 := dc at_269 rfl
theorem Dx_270 : Dc code 270 (.istore 31) 2 272 := dc at_270 rfl
theorem Dx_272 : Dc code 272 (.aload 15) 2 274 := dc at_272 rfl
theorem Dx_274 : Dc code 274 (.iconst 0) 1 275 := dc at_274 rfl
theorem Dx_275 : Dc code 275 (.laload) 1 276 := dc at_275 rfl
theorem Dx_276 : Dc code 276 (.lload_n 1) 1 277 := dc at_276 rfl
theorem Dx_277 : Dc code 277 (.lcmp) 1 278 := dc at_277 rfl
theorem Dx_278 : Db code 278 (.ifCond .ne) 281 324 := db (46) at_278 rfl (by decide) (by decide)
theorem Dx_281 : Dc code 281 (.aload 16) 2 283 := dc at_281 rfl
theorem Dx_283 : Dc code 283 (.iconst 0) 1 284 := dc at_283 rfl
theorem Dx_284 : Dc code 284 (.laload) 1 285 := dc at_284 rfl
theorem Dx_285 : Dc code 285 (.lload_n 3) 1 286 := dc at_285 rfl
theorem Dx_286 : Dc code 286 (.lcmp) 1 287 := dc at_286 rfl
theorem Dx_287 : Db code 287 (.ifCond .ne) 290 324 := db (37) at_287 rfl (by decide) (by decide)
theorem Dx_290 : Dc code 290 (.aload 17) 2 292 := dc at_290 rfl
theorem Dx_292 : Dc code 292 (.iconst 0) 1 293 := dc at_292 rfl
theorem Dx_293 : Dc code 293 (.laload) 1 294 := dc at_293 rfl
theorem Dx_294 : Dc code 294 (.lload 5) 2 296 := dc at_294 rfl
theorem Dx_296 : Dc code 296 (.lcmp) 1 297 := dc at_296 rfl
theorem Dx_297 : Db code 297 (.ifCond .ne) 300 324 := db (27) at_297 rfl (by decide) (by decide)
theorem Dx_300 : Dc code 300 (.aload 18) 2 302 := dc at_300 rfl
theorem Dx_302 : Dc code 302 (.iconst 0) 1 303 := dc at_302 rfl
theorem Dx_303 : Dc code 303 (.laload) 1 304 := dc at_303 rfl
theorem Dx_304 : Dc code 304 (.lload 7) 2 306 := dc at_304 rfl
theorem Dx_306 : Dc code 306 (.lcmp) 1 307 := dc at_306 rfl
theorem Dx_307 : Db code 307 (.ifCond .ne) 310 324 := db (17) at_307 rfl (by decide) (by decide)
theorem Dx_310 : Dc code 310 (.aload 19) 2 312 := dc at_310 rfl
theorem Dx_312 : Dc code 312 (.iconst 0) 1 313 := dc at_312 rfl
theorem Dx_313 : Dc code 313 (.laload) 1 314 := dc at_313 rfl
theorem Dx_314 : Dc code 314 (.lload 9) 2 316 := dc at_314 rfl
theorem Dx_316 : Dc code 316 (.lcmp) 1 317 := dc at_316 rfl
theorem Dx_317 : Db code 317 (.ifCond .ne) 320 324 := db (7) at_317 rfl (by decide) (by decide)
theorem Dx_320 : Dc code 320 (.iconst 1) 1 321 := dc at_320 rfl
theorem Dx_321 : Db code 321 (.goto) 324 325 := db (4) at_321 rfl (by decide) (by decide)
theorem Dx_324 : Dc code 324 (.iconst 0) 1 325 := dc at_324 rfl
theorem Dx_325 : Dc code 325 (.istore 32) 2 327 := dc at_325 rfl
theorem Dx_327 : Dc code 327 (.iload 31) 2 329 := dc at_327 rfl
theorem Dx_329 : Db code 329 (.ifCond .eq) 332 341 := db (12) at_329 rfl (by decide) (by decide)
theorem Dx_332 : Dc code 332 (.iload 32) 2 334 := dc at_332 rfl
theorem Dx_334 : Db code 334 (.ifCond .eq) 337 341 := db (7) at_334 rfl (by decide) (by decide)
theorem Dx_337 : Dc code 337 (.iconst 1) 1 338 := dc at_337 rfl
theorem Dx_338 : Db code 338 (.goto) 341 342 := db (4) at_338 rfl (by decide) (by decide)
theorem Dx_341 : Dc code 341 (.iconst 0) 1 342 := dc at_341 rfl
theorem Dx_342 : Dc code 342 (.ireturn) 1 343 := dc at_342 rfl
set_option maxRecDepth 65536 in
set_option maxHeartbeats 40000000 in
theorem ct_law (l : Launch) (Z : State) (a0 : Array Value) (hw : ∀ d ∈ tables_1, d.before a0 Z = true) (n0 : Nat) (h : Heap) (p0 : Int32) (p1 p2 p3 p4 p5 : Int64) :
    Ct l Z n0 x code maxLocals ret room_1 [.int p0, .long p1, .long p2, .long p3, .long p4, .long p5] h (fun v h' => v = some (.int 1)) := by
  refine Ct.intro (plainFor_of_name pn_1) [.val (.int p0), .val (.long p1), .second, .val (.long p2), .second, .val (.long p3), .second, .val (.long p4), .second, .val (.long p5), .second, .unset, .unset, .unset, .unset, .unset, .unset, .unset, .unset, .unset, .unset, .unset, .unset, .unset, .unset, .unset, .unset, .unset, .unset, .unset, .unset, .unset, .unset] (fun m => by first | (simp [entryFrame, mkF, argsToLocals, Value.category]; done) | (simp [entryFrame, mkF, argsToLocals, Value.category, maxLocals]; done) | rfl) ?_
  intro k hl K
  replace K : Ok k Z n0 "com/example/bitstride/bitstride/search/MismatchCountsStepPinLaw" room_1 code 33 (some .boolean) "law" := K
  refine G.iloadN K Dx_0 rfl ?_
  refine G.sipush K Dx_1 255 rfl ?_
  refine G.iand K Dx_4 ?_
  obtain ⟨s, hs, es⟩ := own_and_lt p0 255 (by decide)
  rw [show p0 &&& 255 = Int32.ofNat s from es]
  refine G.istore K Dx_5 ([.val (.int p0), .val (.long p1), .second, .val (.long p2), .second, .val (.long p3), .second, .val (.long p4), .second, .val (.long p5), .second, .val (.int (Int32.ofNat s)), .unset, .unset, .unset, .unset, .unset, .unset, .unset, .unset, .unset, .unset, .unset, .unset, .unset, .unset, .unset, .unset, .unset, .unset, .unset, .unset, .unset]) rfl ?_
  have T27 : ∀ L : Nat, 1 ≤ L → L ≤ 64 → G k n0 (fun v h' => v = some (.int 1)) h 0 0 27 [.val (.int p0), .val (.long p1), .second, .val (.long p2), .second, .val (.long p3), .second, .val (.long p4), .second, .val (.long p5), .second, .val (.int (Int32.ofNat s)), .unset, .unset, .unset, .unset, .unset, .unset, .unset, .unset, .unset, .unset, .unset, .unset, .unset, .unset, .unset, .unset, .unset, .unset, .unset, .unset, .unset] [.int (Int32.ofNat L)] := by
    intro L hL hL64
    refine G.istore K Dx_27 ([.val (.int p0), .val (.long p1), .second, .val (.long p2), .second, .val (.long p3), .second, .val (.long p4), .second, .val (.long p5), .second, .val (.int (Int32.ofNat s)), .val (.int (Int32.ofNat L)), .unset, .unset, .unset, .unset, .unset, .unset, .unset, .unset, .unset, .unset, .unset, .unset, .unset, .unset, .unset, .unset, .unset, .unset, .unset, .unset]) rfl ?_
    refine G.iloadN K Dx_29 rfl ?_
    refine G.bipush K Dx_30 8 rfl ?_
    refine G.iushr K Dx_32 ?_
    refine G.iload K Dx_33 rfl ?_
    refine G.iconst K Dx_35 1 rfl ?_
    refine G.iadd K Dx_36 ?_
    obtain ⟨u8, hu8, eu8⟩ := own_ushr8 p0
    rw [own_nsucc L, eu8]
    refine G.irem K Dx_37 (fun z => absurd ((own_neq (n := 0) (by omega) (by decide)).mp z) (by omega)) ?_
    rw [own_nmod (by omega) (by omega)]
    obtain ⟨e, he⟩ : ∃ e, e = u8 % (L + 1) := ⟨_, rfl⟩
    rw [← he]
    have he2 : e ≤ L := by rw [he]; have := Nat.mod_lt u8 (show 0 < L + 1 by omega); omega
    obtain ⟨B, hb7, hB, heB, hx⟩ := own_bl (e := e) (by omega)
    refine G.istore K Dx_38 ([.val (.int p0), .val (.long p1), .second, .val (.long p2), .second, .val (.long p3), .second, .val (.long p4), .second, .val (.long p5), .second, .val (.int (Int32.ofNat s)), .val (.int (Int32.ofNat L)), .val (.int (Int32.ofNat e)), .unset, .unset, .unset, .unset, .unset, .unset, .unset, .unset, .unset, .unset, .unset, .unset, .unset, .unset, .unset, .unset, .unset, .unset, .unset]) rfl ?_
    refine G.bipush K Dx_40 6 rfl ?_
    refine G.newarr_l K (wd hw 0 rfl) (Hp.nil (n0 := n0) (h := h)) (by decide) 6 (by decide) (by decide) (by decide) (by decide) Dx_42 ?_
    intro a40 h41 H41
    change Hp n0 h41 [(a40, La Z [0, 0, 0, 0, 0, 0])] at H41
    refine G.dup K Dx_44 rfl ?_
    refine G.iconst K Dx_45 0 rfl ?_
    refine G.lconst K Dx_46 0 rfl ?_
    refine G.astore_l K H41 (i := 0) rfl (by decide) (Nat.le_of_ble_eq_true rfl) Dx_47 ?_
    intro h42 H42
    change Hp n0 h42 [(a40, La Z [0, 0, 0, 0, 0, 0])] at H42
    refine G.dup K Dx_48 rfl ?_
    refine G.iconst K Dx_49 1 rfl ?_
    refine G.lloadN K Dx_50 rfl ?_
    refine G.astore_l K H42 (i := 0) rfl (by decide) (Nat.le_of_ble_eq_true rfl) Dx_51 ?_
    intro h43 H43
    change Hp n0 h43 [(a40, La Z [0, p1, 0, 0, 0, 0])] at H43
    refine G.dup K Dx_52 rfl ?_
    refine G.iconst K Dx_53 2 rfl ?_
    refine G.lloadN K Dx_54 rfl ?_
    refine G.astore_l K H43 (i := 0) rfl (by decide) (Nat.le_of_ble_eq_true rfl) Dx_55 ?_
    intro h44 H44
    change Hp n0 h44 [(a40, La Z [0, p1, p2, 0, 0, 0])] at H44
    refine G.dup K Dx_56 rfl ?_
    refine G.iconst K Dx_57 3 rfl ?_
    refine G.lload K Dx_58 rfl ?_
    refine G.astore_l K H44 (i := 0) rfl (by decide) (Nat.le_of_ble_eq_true rfl) Dx_60 ?_
    intro h45 H45
    change Hp n0 h45 [(a40, La Z [0, p1, p2, p3, 0, 0])] at H45
    refine G.dup K Dx_61 rfl ?_
    refine G.iconst K Dx_62 4 rfl ?_
    refine G.lload K Dx_63 rfl ?_
    refine G.astore_l K H45 (i := 0) rfl (by decide) (Nat.le_of_ble_eq_true rfl) Dx_65 ?_
    intro h46 H46
    change Hp n0 h46 [(a40, La Z [0, p1, p2, p3, p4, 0])] at H46
    refine G.dup K Dx_66 rfl ?_
    refine G.iconst K Dx_67 5 rfl ?_
    refine G.lload K Dx_68 rfl ?_
    refine G.astore_l K H46 (i := 0) rfl (by decide) (Nat.le_of_ble_eq_true rfl) Dx_70 ?_
    intro h47 H47
    change Hp n0 h47 [(a40, La Z [0, p1, p2, p3, p4, p5])] at H47
    refine G.astore K Dx_71 rfl ([.val (.int p0), .val (.long p1), .second, .val (.long p2), .second, .val (.long p3), .second, .val (.long p4), .second, .val (.long p5), .second, .val (.int (Int32.ofNat s)), .val (.int (Int32.ofNat L)), .val (.int (Int32.ofNat e)), .val (.ref a40), .unset, .unset, .unset, .unset, .unset, .unset, .unset, .unset, .unset, .unset, .unset, .unset, .unset, .unset, .unset, .unset, .unset, .unset]) rfl ?_
    refine G.iconst K Dx_73 1 rfl ?_
    refine G.newarr_l K (wd hw 0 rfl) H47 (by decide) 1 (by decide) (by decide) (by decide) (by decide) Dx_74 ?_
    intro a48 h49 H49
    change Hp n0 h49 [(a48, La Z [0]), (a40, La Z [0, p1, p2, p3, p4, p5])] at H49
    refine G.dup K Dx_76 rfl ?_
    refine G.iconst K Dx_77 0 rfl ?_
    refine G.lloadN K Dx_78 rfl ?_
    refine G.astore_l K H49 (i := 0) rfl (by decide) (Nat.le_of_ble_eq_true rfl) Dx_79 ?_
    intro h50 H50
    change Hp n0 h50 [(a48, La Z [p1]), (a40, La Z [0, p1, p2, p3, p4, p5])] at H50
    refine G.astore K Dx_80 rfl ([.val (.int p0), .val (.long p1), .second, .val (.long p2), .second, .val (.long p3), .second, .val (.long p4), .second, .val (.long p5), .second, .val (.int (Int32.ofNat s)), .val (.int (Int32.ofNat L)), .val (.int (Int32.ofNat e)), .val (.ref a40), .val (.ref a48), .unset, .unset, .unset, .unset, .unset, .unset, .unset, .unset, .unset, .unset, .unset, .unset, .unset, .unset, .unset, .unset, .unset]) rfl ?_
    refine G.iconst K Dx_82 1 rfl ?_
    refine G.newarr_l K (wd hw 0 rfl) H50 (by decide) 1 (by decide) (by decide) (by decide) (by decide) Dx_83 ?_
    intro a51 h52 H52
    change Hp n0 h52 [(a51, La Z [0]), (a48, La Z [p1]), (a40, La Z [0, p1, p2, p3, p4, p5])] at H52
    refine G.dup K Dx_85 rfl ?_
    refine G.iconst K Dx_86 0 rfl ?_
    refine G.lloadN K Dx_87 rfl ?_
    refine G.astore_l K H52 (i := 0) rfl (by decide) (Nat.le_of_ble_eq_true rfl) Dx_88 ?_
    intro h53 H53
    change Hp n0 h53 [(a51, La Z [p2]), (a48, La Z [p1]), (a40, La Z [0, p1, p2, p3, p4, p5])] at H53
    refine G.astore K Dx_89 rfl ([.val (.int p0), .val (.long p1), .second, .val (.long p2), .second, .val (.long p3), .second, .val (.long p4), .second, .val (.long p5), .second, .val (.int (Int32.ofNat s)), .val (.int (Int32.ofNat L)), .val (.int (Int32.ofNat e)), .val (.ref a40), .val (.ref a48), .val (.ref a51), .unset, .unset, .unset, .unset, .unset, .unset, .unset, .unset, .unset, .unset, .unset, .unset, .unset, .unset, .unset, .unset]) rfl ?_
    refine G.iconst K Dx_91 1 rfl ?_
    refine G.newarr_l K (wd hw 0 rfl) H53 (by decide) 1 (by decide) (by decide) (by decide) (by decide) Dx_92 ?_
    intro a54 h55 H55
    change Hp n0 h55 [(a54, La Z [0]), (a51, La Z [p2]), (a48, La Z [p1]), (a40, La Z [0, p1, p2, p3, p4, p5])] at H55
    refine G.dup K Dx_94 rfl ?_
    refine G.iconst K Dx_95 0 rfl ?_
    refine G.lload K Dx_96 rfl ?_
    refine G.astore_l K H55 (i := 0) rfl (by decide) (Nat.le_of_ble_eq_true rfl) Dx_98 ?_
    intro h56 H56
    change Hp n0 h56 [(a54, La Z [p3]), (a51, La Z [p2]), (a48, La Z [p1]), (a40, La Z [0, p1, p2, p3, p4, p5])] at H56
    refine G.astore K Dx_99 rfl ([.val (.int p0), .val (.long p1), .second, .val (.long p2), .second, .val (.long p3), .second, .val (.long p4), .second, .val (.long p5), .second, .val (.int (Int32.ofNat s)), .val (.int (Int32.ofNat L)), .val (.int (Int32.ofNat e)), .val (.ref a40), .val (.ref a48), .val (.ref a51), .val (.ref a54), .unset, .unset, .unset, .unset, .unset, .unset, .unset, .unset, .unset, .unset, .unset, .unset, .unset, .unset, .unset]) rfl ?_
    refine G.iconst K Dx_101 1 rfl ?_
    refine G.newarr_l K (wd hw 0 rfl) H56 (by decide) 1 (by decide) (by decide) (by decide) (by decide) Dx_102 ?_
    intro a57 h58 H58
    change Hp n0 h58 [(a57, La Z [0]), (a54, La Z [p3]), (a51, La Z [p2]), (a48, La Z [p1]), (a40, La Z [0, p1, p2, p3, p4, p5])] at H58
    refine G.dup K Dx_104 rfl ?_
    refine G.iconst K Dx_105 0 rfl ?_
    refine G.lload K Dx_106 rfl ?_
    refine G.astore_l K H58 (i := 0) rfl (by decide) (Nat.le_of_ble_eq_true rfl) Dx_108 ?_
    intro h59 H59
    change Hp n0 h59 [(a57, La Z [p4]), (a54, La Z [p3]), (a51, La Z [p2]), (a48, La Z [p1]), (a40, La Z [0, p1, p2, p3, p4, p5])] at H59
    refine G.astore K Dx_109 rfl ([.val (.int p0), .val (.long p1), .second, .val (.long p2), .second, .val (.long p3), .second, .val (.long p4), .second, .val (.long p5), .second, .val (.int (Int32.ofNat s)), .val (.int (Int32.ofNat L)), .val (.int (Int32.ofNat e)), .val (.ref a40), .val (.ref a48), .val (.ref a51), .val (.ref a54), .val (.ref a57), .unset, .unset, .unset, .unset, .unset, .unset, .unset, .unset, .unset, .unset, .unset, .unset, .unset, .unset]) rfl ?_
    refine G.iconst K Dx_111 1 rfl ?_
    refine G.newarr_l K (wd hw 0 rfl) H59 (by decide) 1 (by decide) (by decide) (by decide) (by decide) Dx_112 ?_
    intro a60 h61 H61
    change Hp n0 h61 [(a60, La Z [0]), (a57, La Z [p4]), (a54, La Z [p3]), (a51, La Z [p2]), (a48, La Z [p1]), (a40, La Z [0, p1, p2, p3, p4, p5])] at H61
    refine G.dup K Dx_114 rfl ?_
    refine G.iconst K Dx_115 0 rfl ?_
    refine G.lload K Dx_116 rfl ?_
    refine G.astore_l K H61 (i := 0) rfl (by decide) (Nat.le_of_ble_eq_true rfl) Dx_118 ?_
    intro h62 H62
    change Hp n0 h62 [(a60, La Z [p5]), (a57, La Z [p4]), (a54, La Z [p3]), (a51, La Z [p2]), (a48, La Z [p1]), (a40, La Z [0, p1, p2, p3, p4, p5])] at H62
    refine G.astore K Dx_119 rfl ([.val (.int p0), .val (.long p1), .second, .val (.long p2), .second, .val (.long p3), .second, .val (.long p4), .second, .val (.long p5), .second, .val (.int (Int32.ofNat s)), .val (.int (Int32.ofNat L)), .val (.int (Int32.ofNat e)), .val (.ref a40), .val (.ref a48), .val (.ref a51), .val (.ref a54), .val (.ref a57), .val (.ref a60), .unset, .unset, .unset, .unset, .unset, .unset, .unset, .unset, .unset, .unset, .unset, .unset, .unset]) rfl ?_
    refine G.new K (wd hw 1 rfl) (wd hw 2 rfl) (wd hw 3 rfl) (cf_NSC hw) (vs := [.null, .int 0, .int 0, .int 0]) (by rfl) H62 (by decide) (by decide) Dx_121 ?_
    intro a63 h64 H64
    change Hp n0 h64 [(a63, Ob Z "com/example/bitstride/bitstride/search/MismatchCounts" NSC [.null, .int 0, .int 0, .int 0]), (a60, La Z [p5]), (a57, La Z [p4]), (a54, La Z [p3]), (a51, La Z [p2]), (a48, La Z [p1]), (a40, La Z [0, p1, p2, p3, p4, p5])] at H64
    refine G.dup K Dx_124 rfl ?_
    refine G.iconst K Dx_125 1 rfl ?_
    refine G.iload K Dx_126 rfl ?_
    refine G.iload K Dx_128 rfl ?_
    refine G.callI K hl rfl (wd hw 4 rfl) (wd hw 5 rfl) (wd hw 3 rfl) (wd hw 6 rfl) (by decide) pd_3 (ct_init1 l Z a0 hw n0 h64 a63 L e B [(a60, La Z [p5]), (a57, La Z [p4]), (a54, La Z [p3]), (a51, La Z [p2]), (a48, La Z [p1]), (a40, La Z [0, p1, p2, p3, p4, p5])] hL (by omega) hb7 hB H64) 1 rfl (by decide) (by decide) (by decide) (by decide) rfl rfl [.int (Int32.ofNat e), .int (Int32.ofNat L), .int 1] rfl Dx_130 ?_
    rintro _ h65 ⟨rfl, pa65, H65⟩
    change G k n0 _ h65 _ _ 133 [.val (.int p0), .val (.long p1), .second, .val (.long p2), .second, .val (.long p3), .second, .val (.long p4), .second, .val (.long p5), .second, .val (.int (Int32.ofNat s)), .val (.int (Int32.ofNat L)), .val (.int (Int32.ofNat e)), .val (.ref a40), .val (.ref a48), .val (.ref a51), .val (.ref a54), .val (.ref a57), .val (.ref a60), .unset, .unset, .unset, .unset, .unset, .unset, .unset, .unset, .unset, .unset, .unset, .unset, .unset] [.ref a63]
    refine G.astore K Dx_133 rfl ([.val (.int p0), .val (.long p1), .second, .val (.long p2), .second, .val (.long p3), .second, .val (.long p4), .second, .val (.long p5), .second, .val (.int (Int32.ofNat s)), .val (.int (Int32.ofNat L)), .val (.int (Int32.ofNat e)), .val (.ref a40), .val (.ref a48), .val (.ref a51), .val (.ref a54), .val (.ref a57), .val (.ref a60), .val (.ref a63), .unset, .unset, .unset, .unset, .unset, .unset, .unset, .unset, .unset, .unset, .unset, .unset]) rfl ?_
    refine G.aload K Dx_135 rfl rfl ?_
    have H66 : Hp n0 h65 [(pa65, La Z (lay (B + 1) 2 (initF B ((1 <<< ((Int32.ofNat B).toInt64 &&& 63)) - ((Int32.ofNat e).toInt64 + 1))))), (a63, Ob Z "com/example/bitstride/bitstride/search/MismatchCounts" NSC [.ref pa65, .int (Int32.ofNat (B + 1)), .int 1, .int (Int32.ofNat ((L - 1) % 64))]), (a60, La Z [p5]), (a57, La Z [p4]), (a54, La Z [p3]), (a51, La Z [p2]), (a48, La Z [p1]), (a40, La Z [0, p1, p2, p3, p4, p5])] := H65.pull 1 rfl
    have H67 : Hp n0 h65 [(a63, Ob Z "com/example/bitstride/bitstride/search/MismatchCounts" NSC [.ref pa65, .int (Int32.ofNat (B + 1)), .int 1, .int (Int32.ofNat ((L - 1) % 64))]), (pa65, La Z (lay (B + 1) 2 (initF B ((1 <<< ((Int32.ofNat B).toInt64 &&& 63)) - ((Int32.ofNat e).toInt64 + 1))))), (a60, La Z [p5]), (a57, La Z [p4]), (a54, La Z [p3]), (a51, La Z [p2]), (a48, La Z [p1]), (a40, La Z [0, p1, p2, p3, p4, p5])] := H66.pull 1 rfl
    refine G.callV K hl (wd hw 22 rfl) (wd hw 23 rfl) (wd hw 25 rfl) (wd hw 24 rfl) (wd hw 3 rfl) (wd hw 26 rfl) (by decide) pd_4 (H67.exa (i := 0) rfl) (ct_restart1 l Z a0 hw n0 h65 a63 pa65 B (Int32.ofNat ((L - 1) % 64)) (initF B ((1 <<< ((Int32.ofNat B).toInt64 &&& 63)) - ((Int32.ofNat e).toInt64 + 1))) [(a60, La Z [p5]), (a57, La Z [p4]), (a54, La Z [p3]), (a51, La Z [p2]), (a48, La Z [p1]), (a40, La Z [0, p1, p2, p3, p4, p5])] hb7 H67) 0 rfl (by decide) (by decide) (by decide) (by decide) rfl rfl [] rfl Dx_137 ?_
    rintro _ h68 ⟨rfl, H68⟩
    have g68 := Good.start (W := 1) (msF p1 p2 p3 p4 p5) (initF B ((1 <<< ((Int32.ofNat B).toInt64 &&& 63)) - ((Int32.ofNat e).toInt64 + 1))) (fun _ => rfl) (by omega) heB hx
    obtain ⟨f68, ef68⟩ : ∃ g, g = restF B (initF B ((1 <<< ((Int32.ofNat B).toInt64 &&& 63)) - ((Int32.ofNat e).toInt64 + 1))) := ⟨_, rfl⟩
    rw [← ef68] at g68 H68
    change G k n0 _ h68 _ _ 140 [.val (.int p0), .val (.long p1), .second, .val (.long p2), .second, .val (.long p3), .second, .val (.long p4), .second, .val (.long p5), .second, .val (.int (Int32.ofNat s)), .val (.int (Int32.ofNat L)), .val (.int (Int32.ofNat e)), .val (.ref a40), .val (.ref a48), .val (.ref a51), .val (.ref a54), .val (.ref a57), .val (.ref a60), .val (.ref a63), .unset, .unset, .unset, .unset, .unset, .unset, .unset, .unset, .unset, .unset, .unset, .unset] []
    refine G.aload K Dx_140 rfl rfl ?_
    refine G.aload K Dx_142 rfl rfl ?_
    have H69 : Hp n0 h68 [(a48, La Z [p1]), (a63, Ob Z "com/example/bitstride/bitstride/search/MismatchCounts" NSC [.ref pa65, .int (Int32.ofNat (B + 1)), .int 1, .int (Int32.ofNat ((L - 1) % 64))]), (pa65, La Z (lay (B + 1) 2 f68)), (a60, La Z [p5]), (a57, La Z [p4]), (a54, La Z [p3]), (a51, La Z [p2]), (a40, La Z [0, p1, p2, p3, p4, p5])] := H68.pull 6 rfl
    have H70 : Hp n0 h68 [(pa65, La Z (lay (B + 1) 2 f68)), (a48, La Z [p1]), (a63, Ob Z "com/example/bitstride/bitstride/search/MismatchCounts" NSC [.ref pa65, .int (Int32.ofNat (B + 1)), .int 1, .int (Int32.ofNat ((L - 1) % 64))]), (a60, La Z [p5]), (a57, La Z [p4]), (a54, La Z [p3]), (a51, La Z [p2]), (a40, La Z [0, p1, p2, p3, p4, p5])] := H69.pull 2 rfl
    have H71 : Hp n0 h68 [(a63, Ob Z "com/example/bitstride/bitstride/search/MismatchCounts" NSC [.ref pa65, .int (Int32.ofNat (B + 1)), .int 1, .int (Int32.ofNat ((L - 1) % 64))]), (pa65, La Z (lay (B + 1) 2 f68)), (a48, La Z [p1]), (a60, La Z [p5]), (a57, La Z [p4]), (a54, La Z [p3]), (a51, La Z [p2]), (a40, La Z [0, p1, p2, p3, p4, p5])] := H70.pull 2 rfl
    refine G.callV K hl (wd hw 28 rfl) (wd hw 29 rfl) (wd hw 31 rfl) (wd hw 30 rfl) (wd hw 3 rfl) (wd hw 32 rfl) (by decide) pd_5 (H71.exa (i := 0) rfl) (ct_step1 l Z a0 hw n0 h68 a63 pa65 a48 B (Int32.ofNat ((L - 1) % 64)) f68 p1 [(a60, La Z [p5]), (a57, La Z [p4]), (a54, La Z [p3]), (a51, La Z [p2]), (a40, La Z [0, p1, p2, p3, p4, p5])] hb7 H71) 0 rfl (by decide) (by decide) (by decide) (by decide) rfl rfl [.ref a48] rfl Dx_144 ?_
    rintro _ h72 ⟨rfl, H72⟩
    obtain ⟨f72, ef72⟩ : ∃ g, g = stepF B f68 (fun _ => p1) := ⟨_, rfl⟩
    have g72 := g68.step (fun _ => p1) rfl
    rw [← ef72] at g72 H72 ⊢
    rw [own_exp g72 hL hL64]
    change G k n0 _ h72 _ _ 147 [.val (.int p0), .val (.long p1), .second, .val (.long p2), .second, .val (.long p3), .second, .val (.long p4), .second, .val (.long p5), .second, .val (.int (Int32.ofNat s)), .val (.int (Int32.ofNat L)), .val (.int (Int32.ofNat e)), .val (.ref a40), .val (.ref a48), .val (.ref a51), .val (.ref a54), .val (.ref a57), .val (.ref a60), .val (.ref a63), .unset, .unset, .unset, .unset, .unset, .unset, .unset, .unset, .unset, .unset, .unset, .unset] [.long (expF (msF p1 p2 p3 p4 p5) e L 1)]
    refine G.lstore K Dx_147 ([.val (.int p0), .val (.long p1), .second, .val (.long p2), .second, .val (.long p3), .second, .val (.long p4), .second, .val (.long p5), .second, .val (.int (Int32.ofNat s)), .val (.int (Int32.ofNat L)), .val (.int (Int32.ofNat e)), .val (.ref a40), .val (.ref a48), .val (.ref a51), .val (.ref a54), .val (.ref a57), .val (.ref a60), .val (.ref a63), .val (.long (expF (msF p1 p2 p3 p4 p5) e L 1)), .second, .unset, .unset, .unset, .unset, .unset, .unset, .unset, .unset, .unset, .unset]) rfl ?_
    refine G.aload K Dx_149 rfl rfl ?_
    refine G.aload K Dx_151 rfl rfl ?_
    have H73 : Hp n0 h72 [(a51, La Z [p2]), (a63, Ob Z "com/example/bitstride/bitstride/search/MismatchCounts" NSC [.ref pa65, .int (Int32.ofNat (B + 1)), .int 1, .int (Int32.ofNat ((L - 1) % 64))]), (pa65, La Z (lay (B + 1) 2 f72)), (a48, La Z [p1]), (a60, La Z [p5]), (a57, La Z [p4]), (a54, La Z [p3]), (a40, La Z [0, p1, p2, p3, p4, p5])] := H72.pull 6 rfl
    have H74 : Hp n0 h72 [(pa65, La Z (lay (B + 1) 2 f72)), (a51, La Z [p2]), (a63, Ob Z "com/example/bitstride/bitstride/search/MismatchCounts" NSC [.ref pa65, .int (Int32.ofNat (B + 1)), .int 1, .int (Int32.ofNat ((L - 1) % 64))]), (a48, La Z [p1]), (a60, La Z [p5]), (a57, La Z [p4]), (a54, La Z [p3]), (a40, La Z [0, p1, p2, p3, p4, p5])] := H73.pull 2 rfl
    have H75 : Hp n0 h72 [(a63, Ob Z "com/example/bitstride/bitstride/search/MismatchCounts" NSC [.ref pa65, .int (Int32.ofNat (B + 1)), .int 1, .int (Int32.ofNat ((L - 1) % 64))]), (pa65, La Z (lay (B + 1) 2 f72)), (a51, La Z [p2]), (a48, La Z [p1]), (a60, La Z [p5]), (a57, La Z [p4]), (a54, La Z [p3]), (a40, La Z [0, p1, p2, p3, p4, p5])] := H74.pull 2 rfl
    refine G.callV K hl (wd hw 28 rfl) (wd hw 29 rfl) (wd hw 31 rfl) (wd hw 30 rfl) (wd hw 3 rfl) (wd hw 32 rfl) (by decide) pd_5 (H75.exa (i := 0) rfl) (ct_step1 l Z a0 hw n0 h72 a63 pa65 a51 B (Int32.ofNat ((L - 1) % 64)) f72 p2 [(a48, La Z [p1]), (a60, La Z [p5]), (a57, La Z [p4]), (a54, La Z [p3]), (a40, La Z [0, p1, p2, p3, p4, p5])] hb7 H75) 0 rfl (by decide) (by decide) (by decide) (by decide) rfl rfl [.ref a51] rfl Dx_153 ?_
    rintro _ h76 ⟨rfl, H76⟩
    obtain ⟨f76, ef76⟩ : ∃ g, g = stepF B f72 (fun _ => p2) := ⟨_, rfl⟩
    have g76 := g72.step (fun _ => p2) rfl
    rw [← ef76] at g76 H76 ⊢
    rw [own_exp g76 hL hL64]
    change G k n0 _ h76 _ _ 156 [.val (.int p0), .val (.long p1), .second, .val (.long p2), .second, .val (.long p3), .second, .val (.long p4), .second, .val (.long p5), .second, .val (.int (Int32.ofNat s)), .val (.int (Int32.ofNat L)), .val (.int (Int32.ofNat e)), .val (.ref a40), .val (.ref a48), .val (.ref a51), .val (.ref a54), .val (.ref a57), .val (.ref a60), .val (.ref a63), .val (.long (expF (msF p1 p2 p3 p4 p5) e L 1)), .second, .unset, .unset, .unset, .unset, .unset, .unset, .unset, .unset, .unset, .unset] [.long (expF (msF p1 p2 p3 p4 p5) e L 2)]
    refine G.lstore K Dx_156 ([.val (.int p0), .val (.long p1), .second, .val (.long p2), .second, .val (.long p3), .second, .val (.long p4), .second, .val (.long p5), .second, .val (.int (Int32.ofNat s)), .val (.int (Int32.ofNat L)), .val (.int (Int32.ofNat e)), .val (.ref a40), .val (.ref a48), .val (.ref a51), .val (.ref a54), .val (.ref a57), .val (.ref a60), .val (.ref a63), .val (.long (expF (msF p1 p2 p3 p4 p5) e L 1)), .second, .val (.long (expF (msF p1 p2 p3 p4 p5) e L 2)), .second, .unset, .unset, .unset, .unset, .unset, .unset, .unset, .unset]) rfl ?_
    refine G.aload K Dx_158 rfl rfl ?_
    refine G.aload K Dx_160 rfl rfl ?_
    have H77 : Hp n0 h76 [(a54, La Z [p3]), (a63, Ob Z "com/example/bitstride/bitstride/search/MismatchCounts" NSC [.ref pa65, .int (Int32.ofNat (B + 1)), .int 1, .int (Int32.ofNat ((L - 1) % 64))]), (pa65, La Z (lay (B + 1) 2 f76)), (a51, La Z [p2]), (a48, La Z [p1]), (a60, La Z [p5]), (a57, La Z [p4]), (a40, La Z [0, p1, p2, p3, p4, p5])] := H76.pull 6 rfl
    have H78 : Hp n0 h76 [(pa65, La Z (lay (B + 1) 2 f76)), (a54, La Z [p3]), (a63, Ob Z "com/example/bitstride/bitstride/search/MismatchCounts" NSC [.ref pa65, .int (Int32.ofNat (B + 1)), .int 1, .int (Int32.ofNat ((L - 1) % 64))]), (a51, La Z [p2]), (a48, La Z [p1]), (a60, La Z [p5]), (a57, La Z [p4]), (a40, La Z [0, p1, p2, p3, p4, p5])] := H77.pull 2 rfl
    have H79 : Hp n0 h76 [(a63, Ob Z "com/example/bitstride/bitstride/search/MismatchCounts" NSC [.ref pa65, .int (Int32.ofNat (B + 1)), .int 1, .int (Int32.ofNat ((L - 1) % 64))]), (pa65, La Z (lay (B + 1) 2 f76)), (a54, La Z [p3]), (a51, La Z [p2]), (a48, La Z [p1]), (a60, La Z [p5]), (a57, La Z [p4]), (a40, La Z [0, p1, p2, p3, p4, p5])] := H78.pull 2 rfl
    refine G.callV K hl (wd hw 28 rfl) (wd hw 29 rfl) (wd hw 31 rfl) (wd hw 30 rfl) (wd hw 3 rfl) (wd hw 32 rfl) (by decide) pd_5 (H79.exa (i := 0) rfl) (ct_step1 l Z a0 hw n0 h76 a63 pa65 a54 B (Int32.ofNat ((L - 1) % 64)) f76 p3 [(a51, La Z [p2]), (a48, La Z [p1]), (a60, La Z [p5]), (a57, La Z [p4]), (a40, La Z [0, p1, p2, p3, p4, p5])] hb7 H79) 0 rfl (by decide) (by decide) (by decide) (by decide) rfl rfl [.ref a54] rfl Dx_162 ?_
    rintro _ h80 ⟨rfl, H80⟩
    obtain ⟨f80, ef80⟩ : ∃ g, g = stepF B f76 (fun _ => p3) := ⟨_, rfl⟩
    have g80 := g76.step (fun _ => p3) rfl
    rw [← ef80] at g80 H80 ⊢
    rw [own_exp g80 hL hL64]
    change G k n0 _ h80 _ _ 165 [.val (.int p0), .val (.long p1), .second, .val (.long p2), .second, .val (.long p3), .second, .val (.long p4), .second, .val (.long p5), .second, .val (.int (Int32.ofNat s)), .val (.int (Int32.ofNat L)), .val (.int (Int32.ofNat e)), .val (.ref a40), .val (.ref a48), .val (.ref a51), .val (.ref a54), .val (.ref a57), .val (.ref a60), .val (.ref a63), .val (.long (expF (msF p1 p2 p3 p4 p5) e L 1)), .second, .val (.long (expF (msF p1 p2 p3 p4 p5) e L 2)), .second, .unset, .unset, .unset, .unset, .unset, .unset, .unset, .unset] [.long (expF (msF p1 p2 p3 p4 p5) e L 3)]
    refine G.lstore K Dx_165 ([.val (.int p0), .val (.long p1), .second, .val (.long p2), .second, .val (.long p3), .second, .val (.long p4), .second, .val (.long p5), .second, .val (.int (Int32.ofNat s)), .val (.int (Int32.ofNat L)), .val (.int (Int32.ofNat e)), .val (.ref a40), .val (.ref a48), .val (.ref a51), .val (.ref a54), .val (.ref a57), .val (.ref a60), .val (.ref a63), .val (.long (expF (msF p1 p2 p3 p4 p5) e L 1)), .second, .val (.long (expF (msF p1 p2 p3 p4 p5) e L 2)), .second, .val (.long (expF (msF p1 p2 p3 p4 p5) e L 3)), .second, .unset, .unset, .unset, .unset, .unset, .unset]) rfl ?_
    refine G.aload K Dx_167 rfl rfl ?_
    refine G.aload K Dx_169 rfl rfl ?_
    have H81 : Hp n0 h80 [(a57, La Z [p4]), (a63, Ob Z "com/example/bitstride/bitstride/search/MismatchCounts" NSC [.ref pa65, .int (Int32.ofNat (B + 1)), .int 1, .int (Int32.ofNat ((L - 1) % 64))]), (pa65, La Z (lay (B + 1) 2 f80)), (a54, La Z [p3]), (a51, La Z [p2]), (a48, La Z [p1]), (a60, La Z [p5]), (a40, La Z [0, p1, p2, p3, p4, p5])] := H80.pull 6 rfl
    have H82 : Hp n0 h80 [(pa65, La Z (lay (B + 1) 2 f80)), (a57, La Z [p4]), (a63, Ob Z "com/example/bitstride/bitstride/search/MismatchCounts" NSC [.ref pa65, .int (Int32.ofNat (B + 1)), .int 1, .int (Int32.ofNat ((L - 1) % 64))]), (a54, La Z [p3]), (a51, La Z [p2]), (a48, La Z [p1]), (a60, La Z [p5]), (a40, La Z [0, p1, p2, p3, p4, p5])] := H81.pull 2 rfl
    have H83 : Hp n0 h80 [(a63, Ob Z "com/example/bitstride/bitstride/search/MismatchCounts" NSC [.ref pa65, .int (Int32.ofNat (B + 1)), .int 1, .int (Int32.ofNat ((L - 1) % 64))]), (pa65, La Z (lay (B + 1) 2 f80)), (a57, La Z [p4]), (a54, La Z [p3]), (a51, La Z [p2]), (a48, La Z [p1]), (a60, La Z [p5]), (a40, La Z [0, p1, p2, p3, p4, p5])] := H82.pull 2 rfl
    refine G.callV K hl (wd hw 28 rfl) (wd hw 29 rfl) (wd hw 31 rfl) (wd hw 30 rfl) (wd hw 3 rfl) (wd hw 32 rfl) (by decide) pd_5 (H83.exa (i := 0) rfl) (ct_step1 l Z a0 hw n0 h80 a63 pa65 a57 B (Int32.ofNat ((L - 1) % 64)) f80 p4 [(a54, La Z [p3]), (a51, La Z [p2]), (a48, La Z [p1]), (a60, La Z [p5]), (a40, La Z [0, p1, p2, p3, p4, p5])] hb7 H83) 0 rfl (by decide) (by decide) (by decide) (by decide) rfl rfl [.ref a57] rfl Dx_171 ?_
    rintro _ h84 ⟨rfl, H84⟩
    obtain ⟨f84, ef84⟩ : ∃ g, g = stepF B f80 (fun _ => p4) := ⟨_, rfl⟩
    have g84 := g80.step (fun _ => p4) rfl
    rw [← ef84] at g84 H84 ⊢
    rw [own_exp g84 hL hL64]
    change G k n0 _ h84 _ _ 174 [.val (.int p0), .val (.long p1), .second, .val (.long p2), .second, .val (.long p3), .second, .val (.long p4), .second, .val (.long p5), .second, .val (.int (Int32.ofNat s)), .val (.int (Int32.ofNat L)), .val (.int (Int32.ofNat e)), .val (.ref a40), .val (.ref a48), .val (.ref a51), .val (.ref a54), .val (.ref a57), .val (.ref a60), .val (.ref a63), .val (.long (expF (msF p1 p2 p3 p4 p5) e L 1)), .second, .val (.long (expF (msF p1 p2 p3 p4 p5) e L 2)), .second, .val (.long (expF (msF p1 p2 p3 p4 p5) e L 3)), .second, .unset, .unset, .unset, .unset, .unset, .unset] [.long (expF (msF p1 p2 p3 p4 p5) e L 4)]
    refine G.lstore K Dx_174 ([.val (.int p0), .val (.long p1), .second, .val (.long p2), .second, .val (.long p3), .second, .val (.long p4), .second, .val (.long p5), .second, .val (.int (Int32.ofNat s)), .val (.int (Int32.ofNat L)), .val (.int (Int32.ofNat e)), .val (.ref a40), .val (.ref a48), .val (.ref a51), .val (.ref a54), .val (.ref a57), .val (.ref a60), .val (.ref a63), .val (.long (expF (msF p1 p2 p3 p4 p5) e L 1)), .second, .val (.long (expF (msF p1 p2 p3 p4 p5) e L 2)), .second, .val (.long (expF (msF p1 p2 p3 p4 p5) e L 3)), .second, .val (.long (expF (msF p1 p2 p3 p4 p5) e L 4)), .second, .unset, .unset, .unset, .unset]) rfl ?_
    refine G.aload K Dx_176 rfl rfl ?_
    refine G.aload K Dx_178 rfl rfl ?_
    have H85 : Hp n0 h84 [(a60, La Z [p5]), (a63, Ob Z "com/example/bitstride/bitstride/search/MismatchCounts" NSC [.ref pa65, .int (Int32.ofNat (B + 1)), .int 1, .int (Int32.ofNat ((L - 1) % 64))]), (pa65, La Z (lay (B + 1) 2 f84)), (a57, La Z [p4]), (a54, La Z [p3]), (a51, La Z [p2]), (a48, La Z [p1]), (a40, La Z [0, p1, p2, p3, p4, p5])] := H84.pull 6 rfl
    have H86 : Hp n0 h84 [(pa65, La Z (lay (B + 1) 2 f84)), (a60, La Z [p5]), (a63, Ob Z "com/example/bitstride/bitstride/search/MismatchCounts" NSC [.ref pa65, .int (Int32.ofNat (B + 1)), .int 1, .int (Int32.ofNat ((L - 1) % 64))]), (a57, La Z [p4]), (a54, La Z [p3]), (a51, La Z [p2]), (a48, La Z [p1]), (a40, La Z [0, p1, p2, p3, p4, p5])] := H85.pull 2 rfl
    have H87 : Hp n0 h84 [(a63, Ob Z "com/example/bitstride/bitstride/search/MismatchCounts" NSC [.ref pa65, .int (Int32.ofNat (B + 1)), .int 1, .int (Int32.ofNat ((L - 1) % 64))]), (pa65, La Z (lay (B + 1) 2 f84)), (a60, La Z [p5]), (a57, La Z [p4]), (a54, La Z [p3]), (a51, La Z [p2]), (a48, La Z [p1]), (a40, La Z [0, p1, p2, p3, p4, p5])] := H86.pull 2 rfl
    refine G.callV K hl (wd hw 28 rfl) (wd hw 29 rfl) (wd hw 31 rfl) (wd hw 30 rfl) (wd hw 3 rfl) (wd hw 32 rfl) (by decide) pd_5 (H87.exa (i := 0) rfl) (ct_step1 l Z a0 hw n0 h84 a63 pa65 a60 B (Int32.ofNat ((L - 1) % 64)) f84 p5 [(a57, La Z [p4]), (a54, La Z [p3]), (a51, La Z [p2]), (a48, La Z [p1]), (a40, La Z [0, p1, p2, p3, p4, p5])] hb7 H87) 0 rfl (by decide) (by decide) (by decide) (by decide) rfl rfl [.ref a60] rfl Dx_180 ?_
    rintro _ h88 ⟨rfl, H88⟩
    obtain ⟨f88, ef88⟩ : ∃ g, g = stepF B f84 (fun _ => p5) := ⟨_, rfl⟩
    have g88 := g84.step (fun _ => p5) rfl
    rw [← ef88] at g88 H88 ⊢
    rw [own_exp g88 hL hL64]
    change G k n0 _ h88 _ _ 183 [.val (.int p0), .val (.long p1), .second, .val (.long p2), .second, .val (.long p3), .second, .val (.long p4), .second, .val (.long p5), .second, .val (.int (Int32.ofNat s)), .val (.int (Int32.ofNat L)), .val (.int (Int32.ofNat e)), .val (.ref a40), .val (.ref a48), .val (.ref a51), .val (.ref a54), .val (.ref a57), .val (.ref a60), .val (.ref a63), .val (.long (expF (msF p1 p2 p3 p4 p5) e L 1)), .second, .val (.long (expF (msF p1 p2 p3 p4 p5) e L 2)), .second, .val (.long (expF (msF p1 p2 p3 p4 p5) e L 3)), .second, .val (.long (expF (msF p1 p2 p3 p4 p5) e L 4)), .second, .unset, .unset, .unset, .unset] [.long (expF (msF p1 p2 p3 p4 p5) e L 5)]
    refine G.lstore K Dx_183 ([.val (.int p0), .val (.long p1), .second, .val (.long p2), .second, .val (.long p3), .second, .val (.long p4), .second, .val (.long p5), .second, .val (.int (Int32.ofNat s)), .val (.int (Int32.ofNat L)), .val (.int (Int32.ofNat e)), .val (.ref a40), .val (.ref a48), .val (.ref a51), .val (.ref a54), .val (.ref a57), .val (.ref a60), .val (.ref a63), .val (.long (expF (msF p1 p2 p3 p4 p5) e L 1)), .second, .val (.long (expF (msF p1 p2 p3 p4 p5) e L 2)), .second, .val (.long (expF (msF p1 p2 p3 p4 p5) e L 3)), .second, .val (.long (expF (msF p1 p2 p3 p4 p5) e L 4)), .second, .val (.long (expF (msF p1 p2 p3 p4 p5) e L 5)), .second, .unset, .unset]) rfl ?_
    refine G.lload K Dx_185 rfl ?_
    refine G.aload K Dx_187 rfl rfl ?_
    refine G.iconst K Dx_189 1 rfl ?_
    refine G.iload K Dx_190 rfl ?_
    refine G.iload K Dx_192 rfl ?_
    have H89 : Hp n0 h88 [(a40, La Z [0, p1, p2, p3, p4, p5]), (a63, Ob Z "com/example/bitstride/bitstride/search/MismatchCounts" NSC [.ref pa65, .int (Int32.ofNat (B + 1)), .int 1, .int (Int32.ofNat ((L - 1) % 64))]), (pa65, La Z (lay (B + 1) 2 f88)), (a60, La Z [p5]), (a57, La Z [p4]), (a54, La Z [p3]), (a51, La Z [p2]), (a48, La Z [p1])] := H88.pull 7 rfl
    refine G.callS K hl (wd hw 33 rfl) (wd hw 34 rfl) (wd hw 35 rfl) (wd hw 36 rfl) (by decide) pd_2 (ct_expect l Z a0 hw n0 h88 a40 p1 p2 p3 p4 p5 1 L e [(a63, Ob Z "com/example/bitstride/bitstride/search/MismatchCounts" NSC [.ref pa65, .int (Int32.ofNat (B + 1)), .int 1, .int (Int32.ofNat ((L - 1) % 64))]), (pa65, La Z (lay (B + 1) 2 f88)), (a60, La Z [p5]), (a57, La Z [p4]), (a54, La Z [p3]), (a51, La Z [p2]), (a48, La Z [p1])] (by decide) hL hL64 (by omega) H89) 2 rfl (by decide) (by decide) (by decide) (by decide) rfl rfl [.int (Int32.ofNat e), .int (Int32.ofNat L), .int 1, .ref a40] rfl Dx_194 ?_
    rintro _ h90 ⟨rfl, H90⟩
    change G k n0 _ h90 _ _ 197 [.val (.int p0), .val (.long p1), .second, .val (.long p2), .second, .val (.long p3), .second, .val (.long p4), .second, .val (.long p5), .second, .val (.int (Int32.ofNat s)), .val (.int (Int32.ofNat L)), .val (.int (Int32.ofNat e)), .val (.ref a40), .val (.ref a48), .val (.ref a51), .val (.ref a54), .val (.ref a57), .val (.ref a60), .val (.ref a63), .val (.long (expF (msF p1 p2 p3 p4 p5) e L 1)), .second, .val (.long (expF (msF p1 p2 p3 p4 p5) e L 2)), .second, .val (.long (expF (msF p1 p2 p3 p4 p5) e L 3)), .second, .val (.long (expF (msF p1 p2 p3 p4 p5) e L 4)), .second, .val (.long (expF (msF p1 p2 p3 p4 p5) e L 5)), .second, .unset, .unset] [.long (expF (msF p1 p2 p3 p4 p5) e L 1), .long (expF (msF p1 p2 p3 p4 p5) e L 1)]
    refine G.lcmp_ne K Dx_197 Dx_198 (fun q => absurd rfl q) (fun q91 => ?_)
    refine G.lload K Dx_201 rfl ?_
    refine G.aload K Dx_203 rfl rfl ?_
    refine G.iconst K Dx_205 2 rfl ?_
    refine G.iload K Dx_206 rfl ?_
    refine G.iload K Dx_208 rfl ?_
    refine G.callS K hl (wd hw 33 rfl) (wd hw 34 rfl) (wd hw 35 rfl) (wd hw 36 rfl) (by decide) pd_2 (ct_expect l Z a0 hw n0 h90 a40 p1 p2 p3 p4 p5 2 L e [(a63, Ob Z "com/example/bitstride/bitstride/search/MismatchCounts" NSC [.ref pa65, .int (Int32.ofNat (B + 1)), .int 1, .int (Int32.ofNat ((L - 1) % 64))]), (pa65, La Z (lay (B + 1) 2 f88)), (a60, La Z [p5]), (a57, La Z [p4]), (a54, La Z [p3]), (a51, La Z [p2]), (a48, La Z [p1])] (by decide) hL hL64 (by omega) H90) 2 rfl (by decide) (by decide) (by decide) (by decide) rfl rfl [.int (Int32.ofNat e), .int (Int32.ofNat L), .int 2, .ref a40] rfl Dx_210 ?_
    rintro _ h92 ⟨rfl, H92⟩
    change G k n0 _ h92 _ _ 213 [.val (.int p0), .val (.long p1), .second, .val (.long p2), .second, .val (.long p3), .second, .val (.long p4), .second, .val (.long p5), .second, .val (.int (Int32.ofNat s)), .val (.int (Int32.ofNat L)), .val (.int (Int32.ofNat e)), .val (.ref a40), .val (.ref a48), .val (.ref a51), .val (.ref a54), .val (.ref a57), .val (.ref a60), .val (.ref a63), .val (.long (expF (msF p1 p2 p3 p4 p5) e L 1)), .second, .val (.long (expF (msF p1 p2 p3 p4 p5) e L 2)), .second, .val (.long (expF (msF p1 p2 p3 p4 p5) e L 3)), .second, .val (.long (expF (msF p1 p2 p3 p4 p5) e L 4)), .second, .val (.long (expF (msF p1 p2 p3 p4 p5) e L 5)), .second, .unset, .unset] [.long (expF (msF p1 p2 p3 p4 p5) e L 2), .long (expF (msF p1 p2 p3 p4 p5) e L 2)]
    refine G.lcmp_ne K Dx_213 Dx_214 (fun q => absurd rfl q) (fun q93 => ?_)
    refine G.lload K Dx_217 rfl ?_
    refine G.aload K Dx_219 rfl rfl ?_
    refine G.iconst K Dx_221 3 rfl ?_
    refine G.iload K Dx_222 rfl ?_
    refine G.iload K Dx_224 rfl ?_
    refine G.callS K hl (wd hw 33 rfl) (wd hw 34 rfl) (wd hw 35 rfl) (wd hw 36 rfl) (by decide) pd_2 (ct_expect l Z a0 hw n0 h92 a40 p1 p2 p3 p4 p5 3 L e [(a63, Ob Z "com/example/bitstride/bitstride/search/MismatchCounts" NSC [.ref pa65, .int (Int32.ofNat (B + 1)), .int 1, .int (Int32.ofNat ((L - 1) % 64))]), (pa65, La Z (lay (B + 1) 2 f88)), (a60, La Z [p5]), (a57, La Z [p4]), (a54, La Z [p3]), (a51, La Z [p2]), (a48, La Z [p1])] (by decide) hL hL64 (by omega) H92) 2 rfl (by decide) (by decide) (by decide) (by decide) rfl rfl [.int (Int32.ofNat e), .int (Int32.ofNat L), .int 3, .ref a40] rfl Dx_226 ?_
    rintro _ h94 ⟨rfl, H94⟩
    change G k n0 _ h94 _ _ 229 [.val (.int p0), .val (.long p1), .second, .val (.long p2), .second, .val (.long p3), .second, .val (.long p4), .second, .val (.long p5), .second, .val (.int (Int32.ofNat s)), .val (.int (Int32.ofNat L)), .val (.int (Int32.ofNat e)), .val (.ref a40), .val (.ref a48), .val (.ref a51), .val (.ref a54), .val (.ref a57), .val (.ref a60), .val (.ref a63), .val (.long (expF (msF p1 p2 p3 p4 p5) e L 1)), .second, .val (.long (expF (msF p1 p2 p3 p4 p5) e L 2)), .second, .val (.long (expF (msF p1 p2 p3 p4 p5) e L 3)), .second, .val (.long (expF (msF p1 p2 p3 p4 p5) e L 4)), .second, .val (.long (expF (msF p1 p2 p3 p4 p5) e L 5)), .second, .unset, .unset] [.long (expF (msF p1 p2 p3 p4 p5) e L 3), .long (expF (msF p1 p2 p3 p4 p5) e L 3)]
    refine G.lcmp_ne K Dx_229 Dx_230 (fun q => absurd rfl q) (fun q95 => ?_)
    refine G.lload K Dx_233 rfl ?_
    refine G.aload K Dx_235 rfl rfl ?_
    refine G.iconst K Dx_237 4 rfl ?_
    refine G.iload K Dx_238 rfl ?_
    refine G.iload K Dx_240 rfl ?_
    refine G.callS K hl (wd hw 33 rfl) (wd hw 34 rfl) (wd hw 35 rfl) (wd hw 36 rfl) (by decide) pd_2 (ct_expect l Z a0 hw n0 h94 a40 p1 p2 p3 p4 p5 4 L e [(a63, Ob Z "com/example/bitstride/bitstride/search/MismatchCounts" NSC [.ref pa65, .int (Int32.ofNat (B + 1)), .int 1, .int (Int32.ofNat ((L - 1) % 64))]), (pa65, La Z (lay (B + 1) 2 f88)), (a60, La Z [p5]), (a57, La Z [p4]), (a54, La Z [p3]), (a51, La Z [p2]), (a48, La Z [p1])] (by decide) hL hL64 (by omega) H94) 2 rfl (by decide) (by decide) (by decide) (by decide) rfl rfl [.int (Int32.ofNat e), .int (Int32.ofNat L), .int 4, .ref a40] rfl Dx_242 ?_
    rintro _ h96 ⟨rfl, H96⟩
    change G k n0 _ h96 _ _ 245 [.val (.int p0), .val (.long p1), .second, .val (.long p2), .second, .val (.long p3), .second, .val (.long p4), .second, .val (.long p5), .second, .val (.int (Int32.ofNat s)), .val (.int (Int32.ofNat L)), .val (.int (Int32.ofNat e)), .val (.ref a40), .val (.ref a48), .val (.ref a51), .val (.ref a54), .val (.ref a57), .val (.ref a60), .val (.ref a63), .val (.long (expF (msF p1 p2 p3 p4 p5) e L 1)), .second, .val (.long (expF (msF p1 p2 p3 p4 p5) e L 2)), .second, .val (.long (expF (msF p1 p2 p3 p4 p5) e L 3)), .second, .val (.long (expF (msF p1 p2 p3 p4 p5) e L 4)), .second, .val (.long (expF (msF p1 p2 p3 p4 p5) e L 5)), .second, .unset, .unset] [.long (expF (msF p1 p2 p3 p4 p5) e L 4), .long (expF (msF p1 p2 p3 p4 p5) e L 4)]
    refine G.lcmp_ne K Dx_245 Dx_246 (fun q => absurd rfl q) (fun q97 => ?_)
    refine G.lload K Dx_249 rfl ?_
    refine G.aload K Dx_251 rfl rfl ?_
    refine G.iconst K Dx_253 5 rfl ?_
    refine G.iload K Dx_254 rfl ?_
    refine G.iload K Dx_256 rfl ?_
    refine G.callS K hl (wd hw 33 rfl) (wd hw 34 rfl) (wd hw 35 rfl) (wd hw 36 rfl) (by decide) pd_2 (ct_expect l Z a0 hw n0 h96 a40 p1 p2 p3 p4 p5 5 L e [(a63, Ob Z "com/example/bitstride/bitstride/search/MismatchCounts" NSC [.ref pa65, .int (Int32.ofNat (B + 1)), .int 1, .int (Int32.ofNat ((L - 1) % 64))]), (pa65, La Z (lay (B + 1) 2 f88)), (a60, La Z [p5]), (a57, La Z [p4]), (a54, La Z [p3]), (a51, La Z [p2]), (a48, La Z [p1])] (by decide) hL hL64 (by omega) H96) 2 rfl (by decide) (by decide) (by decide) (by decide) rfl rfl [.int (Int32.ofNat e), .int (Int32.ofNat L), .int 5, .ref a40] rfl Dx_258 ?_
    rintro _ h98 ⟨rfl, H98⟩
    change G k n0 _ h98 _ _ 261 [.val (.int p0), .val (.long p1), .second, .val (.long p2), .second, .val (.long p3), .second, .val (.long p4), .second, .val (.long p5), .second, .val (.int (Int32.ofNat s)), .val (.int (Int32.ofNat L)), .val (.int (Int32.ofNat e)), .val (.ref a40), .val (.ref a48), .val (.ref a51), .val (.ref a54), .val (.ref a57), .val (.ref a60), .val (.ref a63), .val (.long (expF (msF p1 p2 p3 p4 p5) e L 1)), .second, .val (.long (expF (msF p1 p2 p3 p4 p5) e L 2)), .second, .val (.long (expF (msF p1 p2 p3 p4 p5) e L 3)), .second, .val (.long (expF (msF p1 p2 p3 p4 p5) e L 4)), .second, .val (.long (expF (msF p1 p2 p3 p4 p5) e L 5)), .second, .unset, .unset] [.long (expF (msF p1 p2 p3 p4 p5) e L 5), .long (expF (msF p1 p2 p3 p4 p5) e L 5)]
    refine G.lcmp_ne K Dx_261 Dx_262 (fun q => absurd rfl q) (fun q99 => ?_)
    refine G.iconst K Dx_265 1 rfl ?_
    refine G.goto K Dx_266 ?_
    refine G.istore K Dx_270 ([.val (.int p0), .val (.long p1), .second, .val (.long p2), .second, .val (.long p3), .second, .val (.long p4), .second, .val (.long p5), .second, .val (.int (Int32.ofNat s)), .val (.int (Int32.ofNat L)), .val (.int (Int32.ofNat e)), .val (.ref a40), .val (.ref a48), .val (.ref a51), .val (.ref a54), .val (.ref a57), .val (.ref a60), .val (.ref a63), .val (.long (expF (msF p1 p2 p3 p4 p5) e L 1)), .second, .val (.long (expF (msF p1 p2 p3 p4 p5) e L 2)), .second, .val (.long (expF (msF p1 p2 p3 p4 p5) e L 3)), .second, .val (.long (expF (msF p1 p2 p3 p4 p5) e L 4)), .second, .val (.long (expF (msF p1 p2 p3 p4 p5) e L 5)), .second, .val (.int 1), .unset]) rfl ?_
    refine G.aload K Dx_272 rfl rfl ?_
    refine G.iconst K Dx_274 0 rfl ?_
    refine G.aload_l K H98 (i := 7) rfl (by decide) rfl Dx_275 ?_
    refine G.lloadN K Dx_276 rfl ?_
    refine G.lcmp_ne K Dx_277 Dx_278 (fun q => absurd rfl q) (fun q100 => ?_)
    refine G.aload K Dx_281 rfl rfl ?_
    refine G.iconst K Dx_283 0 rfl ?_
    refine G.aload_l K H98 (i := 6) rfl (by decide) rfl Dx_284 ?_
    refine G.lloadN K Dx_285 rfl ?_
    refine G.lcmp_ne K Dx_286 Dx_287 (fun q => absurd rfl q) (fun q101 => ?_)
    refine G.aload K Dx_290 rfl rfl ?_
    refine G.iconst K Dx_292 0 rfl ?_
    refine G.aload_l K H98 (i := 5) rfl (by decide) rfl Dx_293 ?_
    refine G.lload K Dx_294 rfl ?_
    refine G.lcmp_ne K Dx_296 Dx_297 (fun q => absurd rfl q) (fun q102 => ?_)
    refine G.aload K Dx_300 rfl rfl ?_
    refine G.iconst K Dx_302 0 rfl ?_
    refine G.aload_l K H98 (i := 4) rfl (by decide) rfl Dx_303 ?_
    refine G.lload K Dx_304 rfl ?_
    refine G.lcmp_ne K Dx_306 Dx_307 (fun q => absurd rfl q) (fun q103 => ?_)
    refine G.aload K Dx_310 rfl rfl ?_
    refine G.iconst K Dx_312 0 rfl ?_
    refine G.aload_l K H98 (i := 3) rfl (by decide) rfl Dx_313 ?_
    refine G.lload K Dx_314 rfl ?_
    refine G.lcmp_ne K Dx_316 Dx_317 (fun q => absurd rfl q) (fun q104 => ?_)
    refine G.iconst K Dx_320 1 rfl ?_
    refine G.goto K Dx_321 ?_
    refine G.istore K Dx_325 ([.val (.int p0), .val (.long p1), .second, .val (.long p2), .second, .val (.long p3), .second, .val (.long p4), .second, .val (.long p5), .second, .val (.int (Int32.ofNat s)), .val (.int (Int32.ofNat L)), .val (.int (Int32.ofNat e)), .val (.ref a40), .val (.ref a48), .val (.ref a51), .val (.ref a54), .val (.ref a57), .val (.ref a60), .val (.ref a63), .val (.long (expF (msF p1 p2 p3 p4 p5) e L 1)), .second, .val (.long (expF (msF p1 p2 p3 p4 p5) e L 2)), .second, .val (.long (expF (msF p1 p2 p3 p4 p5) e L 3)), .second, .val (.long (expF (msF p1 p2 p3 p4 p5) e L 4)), .second, .val (.long (expF (msF p1 p2 p3 p4 p5) e L 5)), .second, .val (.int 1), .val (.int 1)]) rfl ?_
    refine G.iload K Dx_327 rfl ?_
    refine G.if_eq K Dx_329 (fun q => absurd q (by decide)) (fun _ => ?_)
    refine G.iload K Dx_332 rfl ?_
    refine G.if_eq K Dx_334 (fun q => absurd q (by decide)) (fun _ => ?_)
    refine G.iconst K Dx_337 1 rfl ?_
    refine G.goto K Dx_338 ?_
    refine G.ret_bool K Dx_342 ?_
    exact rfl
  refine G.iload K Dx_7 rfl ?_
  refine G.bipush K Dx_9 64 rfl ?_
  refine G.icmp_ge K Dx_11 (fun q107 => ?_) (fun q107 => ?_)
  · refine G.iconst K Dx_21 1 rfl ?_
    refine G.iload K Dx_22 rfl ?_
    refine G.iconst K Dx_24 5 rfl ?_
    refine G.irem K Dx_25 (by decide) ?_
    refine G.iadd K Dx_26 ?_
    rw [show Int32.ofNat s % 5 = Int32.ofNat (s % 5) from own_nmod (n := 5) (by omega) (by decide), own_1add]
    exact T27 (s % 5 + 1) (by omega) (by omega)
  · refine G.iconst K Dx_14 1 rfl ?_
    refine G.iload K Dx_15 rfl ?_
    refine G.iadd K Dx_17 ?_
    refine G.goto K Dx_18 ?_
    rw [own_1add]
    exact T27 (s + 1) (by omega) (by have := (own_nlt (n := 64) (by omega) (by decide)).mp q107; omega)
set_option maxRecDepth 65536 in
set_option maxHeartbeats 40000000 in
theorem comes_1 {Post : Tables → Env → Array Value → State → Outcome → State → Prop} (hpost : ∀ tb e args s v u, (limb_1_1.after args s (.returned v) u = true ∧ limb_1_2.after args s (.returned v) u = true ∧ True) → FrameEnd s (.returned v) u (Jvm.fieldLocs frame_1_writes args s ++ Jvm.arrayLocs frame_1_arrays args s ++ Jvm.staticLocs frame_1_statics s) 24 128 → Post tb e args s (.returned v) u) :
    ArmFor flags0 classFile x code maxLocals ret World_1 tables_1 room_1 Calls_1 rest_1 Pre_1 Post := by
  intro l hfl _ _ p e ha hc hk s m args below hf hA hF happ hP
  obtain ⟨hcalls, hrest, hpre⟩ := hP
  obtain ⟨-, -, -, hnamed, -, -, -, hat⟩ := (Spec.applies_iff hf).mp happ
  obtain ⟨hg, hn⟩ := and_e (Cond.before_iff.mp (show (Jvm.Cond.and given_1 narrow_1).before args s = true from hpre))
  obtain ⟨g0, g1⟩ := and_e hg
  obtain ⟨u0, v0⟩ := and_e g1
  obtain ⟨u1, v1⟩ := and_e v0
  obtain ⟨u2, v2⟩ := and_e v1
  obtain ⟨u3, v3⟩ := and_e v2
  obtain ⟨u4, v4⟩ := and_e v3
  obtain ⟨w0, w1, w2, w3, w4, w5, rfl⟩ : ∃ w0 w1 w2 w3 w4 w5 : Value, args = #[w0, w1, w2, w3, w4, w5] := by
    have hs : args.size = 6 := by simpa [Cond.value, given_1] using g0
    obtain ⟨L⟩ := args
    match L, hs with
    | [w0, w1, w2, w3, w4, w5], _ => exact ⟨w0, w1, w2, w3, w4, w5, rfl⟩
  have hw := fun d (hd : d ∈ tables_1) => atoms_spec (ws := Jvm.Cond.code x code maxLocals ret :: tables_1) hat d (List.mem_cons_of_mem _ hd)
  obtain ⟨i0, ei0⟩ := is_v u0
  obtain rfl : w0 = (.int i0) := Option.some.inj ei0
  obtain ⟨i1, ei1⟩ := isL_v u1
  obtain rfl : w1 = (.long i1) := Option.some.inj ei1
  obtain ⟨i2, ei2⟩ := isL_v u2
  obtain rfl : w2 = (.long i2) := Option.some.inj ei2
  obtain ⟨i3, ei3⟩ := isL_v u3
  obtain rfl : w3 = (.long i3) := Option.some.inj ei3
  obtain ⟨i4, ei4⟩ := isL_v u4
  obtain rfl : w4 = (.long i4) := Option.some.inj ei4
  obtain ⟨i5, ei5⟩ := isL_v v4
  obtain rfl : w5 = (.long i5) := Option.some.inj ei5
  obtain ⟨n, o, h1, h2, h3, _, L, rfl, ⟨rfl, N⟩, hq⟩ := ct_law l s _ hw s.heap.size s.heap i0 i1 i2 i3 i4 i5 (Nat.le_refl _) tables_1 p e ha hc hk s m _ below hf ((Spec.applies_iff_loose hf).mp happ).1 ⟨rfl, State.Warmed39.refl s, rfl⟩ trivial
  refine ⟨n, _, h1, h2, h3, hpost _ _ _ _ _ _ ⟨Cond.after_iff.mpr rfl, Cond.after_iff.mpr (eq_i res_at (Term.int_eval (1)) rfl), trivial⟩ ⟨hq.1, hq.2.1, (hq.2.2.sift fun y hy => Or.inr (N y hy)).mono (by decide) (by decide)⟩⟩
theorem main_1_1 : Claimed_1_1 := comes_1 fun _ _ _ _ _ _ h hF => ⟨h.1, hF⟩
theorem main_1_2 : Claimed_1_2 := comes_1 fun _ _ _ _ _ _ h hF => ⟨h.2.1, hF⟩
end Jvm.Pilot.@@N@@
namespace Jvm.Pilot.@@N@@
open Jvm Jvm.ClassFile Sem Op Lib Jvm.Free Jvm.Stand Jvm.Pilot.@@N@@.Jvm.D
/-! MADE BY PROGRAM (witnessworld.py) out of the Statement's table words and the real class files: 17 classes; the members and pool entries that the words name. The judged class is class 1, her method 1. -/
namespace start1
open Jvm.ClassFile
def u (s : String) : CpInfo := .utf8 (stringToUtf16 s)
/-- a pool by its gaps: so many unusable entries, then the entry; so many at the end -/
def gap : Nat → List CpInfo → List CpInfo
  | 0, r => r
  | n + 1, r => .unusable :: gap n r
def poolList (es : List (Nat × CpInfo)) (last : Nat) : List CpInfo := es.foldr (fun e r => gap e.1 (e.2 :: r)) (gap last [])
def pool (es : List (Nat × CpInfo)) (last : Nat) : Array CpInfo := ⟨poolList es last⟩
def fileOf (pool : Array CpInfo) (this : Nat) (attrs : Array Attribute := #[]) (ms : Array MethodInfo := #[]) (fl : Nat := 33) (sup : Nat := 0) (ifs : Array Nat := #[]) (fds : Array FieldInfo := #[]) : ClassFile where
  minorVersion := 0
  majorVersion := 65
  constantPool := pool
  accessFlags := fl
  thisClass := this
  superClass := sup
  interfaces := ifs
  fields := fds
  methods := ms
  attributes := attrs
def plain (name : String) (sup : Option ClassId) : Class where
  name := name
  kind := .ordinary
  loader := none
  accessFlags := 33
  super := sup
  interfaces := #[]
  cf := none
  fields := #[]
  methods := #[]
  instanceTypes := #[]
  staticTypes := #[]
  resolved := #[]
  callSites := []
  init := .initialized
  statics := none
  mirror := none

def pool0 : Array CpInfo := pool [(5, u "<init>"), (0, u "()V"), (1, .class_ 10), (1, u "java/lang/Object")] 113

def k0c0 : Code := { maxStack := 0, maxLocals := 1, code := object_method_1_code, exceptionTable := #[], attributes := #[] }
def k0m0 : Method := { name := "<init>", desc := "()V", sig := { parameters := [], returnType := none }, accessFlags := 1, code := some k0c0 }
/-- java/lang/Object -/
def k0 : Class := { plain "java/lang/Object" none with
  accessFlags := 33
  interfaces := #[]
  cf := some (fileOf pool0 8 #[] #[{ accessFlags := 1, nameIndex := 5, descriptorIndex := 6, attributes := #[] }] 33 0 #[] #[])
  fields := #[]
  methods := #[k0m0]
  instanceTypes := #[]
  staticTypes := #[]
  resolved := Array.replicate 124 none
  statics := none }

def pool1 : Array CpInfo := pool [(2, .class_ 4), (1, u "java/lang/Object"), (0, u "<init>"), (0, u "()V"), (0, .class_ 8), (0, u "com/example/bitstride/bitstride/search/MismatchCounts"), (0, .methodref 7 10), (0, .nameAndType 5 11), (0, u "(III)V"), (0, .methodref 7 13), (0, .nameAndType 14 6), (0, u "restart"), (0, .methodref 7 16), (0, .nameAndType 17 18), (0, u "step"), (0, u "([J)J"), (0, .methodref 20 21), (0, .class_ 22), (0, .nameAndType 23 24), (0, u "com/example/bitstride/bitstride/search/MismatchCountsStepPinLaw"), (0, u "expect"), (0, u "([JIII)J"), (0, .methodref 20 26), (0, .nameAndType 27 28), (0, u "mis"), (0, u "(JI)J"), (0, .methodref 20 30), (0, .nameAndType 31 24), (0, u "term"), (2, u "law"), (0, u "(IJJJJJ)Z")] 5

def k1m0 : Method := { name := "<init>", desc := "()V", sig := { parameters := [], returnType := none }, accessFlags := 1, code := none }
def k1c1 : Code := { maxStack := 6, maxLocals := 33, code := code, exceptionTable := #[], attributes := #[] }
def k1m1 : Method := { name := "law", desc := "(IJJJJJ)Z", sig := { parameters := [.int, .long, .long, .long, .long, .long], returnType := some .boolean }, accessFlags := 9, code := some k1c1 }
def k1c2 : Code := { maxStack := 4, maxLocals := 3, code := method_3_code, exceptionTable := #[], attributes := #[] }
def k1m2 : Method := { name := "mis", desc := "(JI)J", sig := { parameters := [.long, .int], returnType := some .long }, accessFlags := 10, code := some k1c2 }
def k1c3 : Code := { maxStack := 3, maxLocals := 4, code := method_4_code, exceptionTable := #[], attributes := #[] }
def k1m3 : Method := { name := "term", desc := "([JIII)J", sig := { parameters := [(.array .long), .int, .int, .int], returnType := some .long }, accessFlags := 10, code := some k1c3 }
def k1c4 : Code := { maxStack := 6, maxLocals := 6, code := method_5_code, exceptionTable := #[], attributes := #[] }
def k1m4 : Method := { name := "expect", desc := "([JIII)J", sig := { parameters := [(.array .long), .int, .int, .int], returnType := some .long }, accessFlags := 10, code := some k1c4 }
/-- com/example/bitstride/bitstride/search/MismatchCountsStepPinLaw -/
def k1 : Class := { plain "com/example/bitstride/bitstride/search/MismatchCountsStepPinLaw" (some 0) with
  accessFlags := 49
  interfaces := #[]
  cf := some (fileOf pool1 20 #[] #[{ accessFlags := 1, nameIndex := 5, descriptorIndex := 6, attributes := #[] }, { accessFlags := 9, nameIndex := 34, descriptorIndex := 35, attributes := #[] }, { accessFlags := 10, nameIndex := 27, descriptorIndex := 28, attributes := #[] }, { accessFlags := 10, nameIndex := 31, descriptorIndex := 24, attributes := #[] }, { accessFlags := 10, nameIndex := 23, descriptorIndex := 24, attributes := #[] }] 49 2 #[] #[])
  fields := #[]
  methods := #[k1m0, k1m1, k1m2, k1m3, k1m4]
  instanceTypes := #[]
  staticTypes := #[]
  resolved := Array.replicate 41 none
  statics := none }

def pool2 : Array CpInfo := pool [(1, .class_ 2), (0, u "com/example/bitstride/bitstride/search/Recurrence"), (0, .class_ 4), (0, u "java/lang/Object")] 6

/-- com/example/bitstride/bitstride/search/Recurrence -/
def k2 : Class := { plain "com/example/bitstride/bitstride/search/Recurrence" (some 0) with
  accessFlags := 1536
  interfaces := #[]
  cf := some (fileOf pool2 1 #[] #[] 1536 3 #[] #[])
  fields := #[]
  methods := #[]
  instanceTypes := #[]
  staticTypes := #[]
  resolved := Array.replicate 11 none
  statics := none }

def pool3 : Array CpInfo := pool [(1, .methodref 2 3), (0, .class_ 4), (0, .nameAndType 5 6), (0, u "java/lang/Object"), (0, u "<init>"), (0, u "()V"), (0, .class_ 8), (0, u "java/lang/Integer"), (0, .methodref 7 10), (0, .nameAndType 11 12), (0, u "numberOfLeadingZeros"), (0, u "(I)I"), (0, .fieldref 14 15), (0, .class_ 16), (0, .nameAndType 17 18), (0, u "com/example/bitstride/bitstride/search/MismatchCounts"), (0, u "words"), (0, u "I"), (0, .fieldref 14 20), (0, .nameAndType 21 18), (0, u "planesPerWord"), (0, .fieldref 14 23), (0, .nameAndType 24 25), (0, u "planes"), (0, u "[J"), (2, .fieldref 14 29), (0, .nameAndType 30 18), (0, u "lastBit"), (0, .long 18446744073709551615), (1, .class_ 34), (0, u "com/example/bitstride/bitstride/search/Recurrence"), (0, u "(III)V"), (3, u "restart"), (0, u "step"), (0, u "([J)J")] 3

def k3c0 : Code := { maxStack := 6, maxLocals := 8, code := prog_21_method_1_code, exceptionTable := #[], attributes := #[] }
def k3m0 : Method := { name := "<init>", desc := "(III)V", sig := { parameters := [.int, .int, .int], returnType := none }, accessFlags := 0, code := some k3c0 }
def k3c1 : Code := { maxStack := 4, maxLocals := 4, code := prog_21_method_2_code, exceptionTable := #[], attributes := #[] }
def k3m1 : Method := { name := "restart", desc := "()V", sig := { parameters := [], returnType := none }, accessFlags := 1, code := some k3c1 }
def k3c2 : Code := { maxStack := 7, maxLocals := 13, code := prog_21_method_3_code, exceptionTable := #[], attributes := #[] }
def k3m2 : Method := { name := "step", desc := "([J)J", sig := { parameters := [(.array .long)], returnType := some .long }, accessFlags := 1, code := some k3c2 }
/-- com/example/bitstride/bitstride/search/MismatchCounts -/
def k3 : Class := { plain "com/example/bitstride/bitstride/search/MismatchCounts" (some 0) with
  accessFlags := 48
  interfaces := #[2]
  cf := some (fileOf pool3 14 #[] #[{ accessFlags := 0, nameIndex := 5, descriptorIndex := 35, attributes := #[] }, { accessFlags := 1, nameIndex := 39, descriptorIndex := 6, attributes := #[] }, { accessFlags := 1, nameIndex := 40, descriptorIndex := 41, attributes := #[] }] 48 2 #[33] #[{ accessFlags := 18, nameIndex := 24, descriptorIndex := 25, attributes := #[] }, { accessFlags := 18, nameIndex := 21, descriptorIndex := 18, attributes := #[] }, { accessFlags := 18, nameIndex := 17, descriptorIndex := 18, attributes := #[] }, { accessFlags := 18, nameIndex := 30, descriptorIndex := 18, attributes := #[] }])
  fields := #[{ name := "planes", type := (.array .long), accessFlags := 18, slot := 0, constantValue := 0 }, { name := "planesPerWord", type := .int, accessFlags := 18, slot := 1, constantValue := 0 }, { name := "words", type := .int, accessFlags := 18, slot := 2, constantValue := 0 }, { name := "lastBit", type := .int, accessFlags := 18, slot := 3, constantValue := 0 }]
  methods := #[k3m0, k3m1, k3m2]
  instanceTypes := #[(.array .long), .int, .int, .int]
  staticTypes := #[]
  resolved := Array.replicate 45 none
  statics := none }

def pool4 : Array CpInfo := pool [(1, .class_ 2), (0, u "java/io/Serializable"), (0, .class_ 4), (0, u "java/lang/Object")] 2

/-- java/io/Serializable -/
def k4 : Class := { plain "java/io/Serializable" (some 0) with
  accessFlags := 1537
  interfaces := #[]
  cf := some (fileOf pool4 1 #[] #[] 1537 3 #[] #[])
  fields := #[]
  methods := #[]
  instanceTypes := #[]
  staticTypes := #[]
  resolved := Array.replicate 7 none
  statics := none }

def pool5 : Array CpInfo := pool [(2, .class_ 4), (1, u "java/lang/Object"), (0, u "<init>"), (0, u "()V"), (1, .class_ 10), (1, u "java/lang/Number"), (2, .class_ 14), (0, u "java/io/Serializable"), (0, u "serialVersionUID"), (0, u "J")] 20

def k5m0 : Method := { name := "<init>", desc := "()V", sig := { parameters := [], returnType := none }, accessFlags := 1, code := none }
/-- java/lang/Number -/
def k5 : Class := { plain "java/lang/Number" (some 0) with
  accessFlags := 1057
  interfaces := #[4]
  cf := some (fileOf pool5 8 #[] #[{ accessFlags := 1, nameIndex := 5, descriptorIndex := 6, attributes := #[] }] 1057 2 #[13] #[{ accessFlags := 26, nameIndex := 15, descriptorIndex := 16, attributes := #[] }])
  fields := #[{ name := "serialVersionUID", type := .long, accessFlags := 26, slot := 0, constantValue := 0 }]
  methods := #[k5m0]
  instanceTypes := #[]
  staticTypes := #[.long]
  resolved := Array.replicate 37 none
  statics := none }

def pool6 : Array CpInfo := pool [(1, .class_ 2), (0, u "java/lang/Comparable"), (0, .class_ 4), (0, u "java/lang/Object")] 7

/-- java/lang/Comparable -/
def k6 : Class := { plain "java/lang/Comparable" (some 0) with
  accessFlags := 1537
  interfaces := #[]
  cf := some (fileOf pool6 1 #[] #[] 1537 3 #[] #[])
  fields := #[]
  methods := #[]
  instanceTypes := #[]
  staticTypes := #[]
  resolved := Array.replicate 12 none
  statics := none }

def pool7 : Array CpInfo := pool [(1, .class_ 2), (0, u "java/lang/constant/Constable"), (0, .class_ 4), (0, u "java/lang/Object")] 6

/-- java/lang/constant/Constable -/
def k7 : Class := { plain "java/lang/constant/Constable" (some 0) with
  accessFlags := 1537
  interfaces := #[]
  cf := some (fileOf pool7 1 #[] #[] 1537 3 #[] #[])
  fields := #[]
  methods := #[]
  instanceTypes := #[]
  staticTypes := #[]
  resolved := Array.replicate 11 none
  statics := none }

def pool8 : Array CpInfo := pool [(1, .class_ 2), (0, u "java/lang/constant/ConstantDesc"), (0, .class_ 4), (0, u "java/lang/Object")] 32

/-- java/lang/constant/ConstantDesc -/
def k8 : Class := { plain "java/lang/constant/ConstantDesc" (some 0) with
  accessFlags := 1537
  interfaces := #[]
  cf := some (fileOf pool8 1 #[] #[] 1537 3 #[] #[])
  fields := #[]
  methods := #[]
  instanceTypes := #[]
  staticTypes := #[]
  resolved := Array.replicate 37 none
  statics := none }

def pool9 : Array CpInfo := pool [(1, .class_ 2), (0, u "java/lang/Integer"), (16, u "digits"), (0, u "[C"), (32, u "numberOfLeadingZeros"), (0, u "(I)I"), (30, u "DigitOnes"), (0, u "[B"), (2, u "DigitTens"), (99, .class_ 190), (0, u "java/lang/Integer$IntegerCache"), (3, u "I"), (8, .class_ 204), (0, u "java/lang/Number"), (2, u "value"), (56, .integer 65536), (37, u "TYPE"), (0, u "Ljava/lang/Class;"), (0, .class_ 305), (0, u "java/lang/Comparable"), (0, .class_ 307), (0, u "java/lang/constant/Constable"), (0, .class_ 309), (0, u "java/lang/constant/ConstantDesc"), (0, u "MIN_VALUE"), (1, u "MAX_VALUE"), (3, u "SIZE"), (1, u "BYTES"), (1, u "serialVersionUID"), (0, u "J")] 131

def k9c0 : Code := { maxStack := 3, maxLocals := 2, code := jdk_33_method_47_code, exceptionTable := #[], attributes := #[] }
def k9m0 : Method := { name := "numberOfLeadingZeros", desc := "(I)I", sig := { parameters := [.int], returnType := some .int }, accessFlags := 9, code := some k9c0 }
/-- java/lang/Integer -/
def k9 : Class := { plain "java/lang/Integer" (some 5) with
  accessFlags := 49
  interfaces := #[6, 7, 8]
  cf := some (fileOf pool9 1 #[.nestMembers #[189]] #[{ accessFlags := 9, nameIndex := 53, descriptorIndex := 54, attributes := #[] }] 49 203 #[304, 306, 308] #[{ accessFlags := 25, nameIndex := 310, descriptorIndex := 194, attributes := #[] }, { accessFlags := 25, nameIndex := 312, descriptorIndex := 194, attributes := #[] }, { accessFlags := 25, nameIndex := 302, descriptorIndex := 303, attributes := #[] }, { accessFlags := 24, nameIndex := 19, descriptorIndex := 20, attributes := #[] }, { accessFlags := 24, nameIndex := 89, descriptorIndex := 86, attributes := #[] }, { accessFlags := 24, nameIndex := 85, descriptorIndex := 86, attributes := #[] }, { accessFlags := 18, nameIndex := 207, descriptorIndex := 194, attributes := #[] }, { accessFlags := 25, nameIndex := 316, descriptorIndex := 194, attributes := #[] }, { accessFlags := 25, nameIndex := 318, descriptorIndex := 194, attributes := #[] }, { accessFlags := 26, nameIndex := 320, descriptorIndex := 321, attributes := #[] }])
  fields := #[{ name := "MIN_VALUE", type := .int, accessFlags := 25, slot := 0, constantValue := 0 }, { name := "MAX_VALUE", type := .int, accessFlags := 25, slot := 1, constantValue := 0 }, { name := "TYPE", type := (.object "java/lang/Class"), accessFlags := 25, slot := 2, constantValue := 0 }, { name := "digits", type := (.array .char), accessFlags := 24, slot := 3, constantValue := 0 }, { name := "DigitTens", type := (.array .byte), accessFlags := 24, slot := 4, constantValue := 0 }, { name := "DigitOnes", type := (.array .byte), accessFlags := 24, slot := 5, constantValue := 0 }, { name := "value", type := .int, accessFlags := 18, slot := 0, constantValue := 0 }, { name := "SIZE", type := .int, accessFlags := 25, slot := 6, constantValue := 0 }, { name := "BYTES", type := .int, accessFlags := 25, slot := 7, constantValue := 0 }, { name := "serialVersionUID", type := .long, accessFlags := 26, slot := 8, constantValue := 0 }]
  methods := #[k9m0]
  instanceTypes := #[.int]
  staticTypes := #[.int, .int, (.object "java/lang/Class"), (.array .char), (.array .byte), (.array .byte), .int, .int, .long]
  resolved := Array.replicate 453 none
  statics := none }

def pool10 : Array CpInfo := pool [(1, u "java/lang/Cloneable"), (0, .class_ 1), (0, u "java/lang/Object"), (0, .class_ 3)] 3

/-- java/lang/Cloneable -/
def k10 : Class := { plain "java/lang/Cloneable" (some 0) with
  accessFlags := 1537
  interfaces := #[]
  cf := some (fileOf pool10 2 #[] #[] 1537 4 #[] #[])
  fields := #[]
  methods := #[]
  instanceTypes := #[]
  staticTypes := #[]
  resolved := Array.replicate 8 none
  statics := none }

/-- the primitive byte -/
def k11 : Class := { plain "byte" none with kind := .primitive 'B', accessFlags := 0x411 }
/-- [B -/
def k12 : Class := { plain "[B" (some 0) with kind := .array 11 .byte, interfaces := #[10, 4], accessFlags := 1041 }

/-- the primitive int -/
def k13 : Class := { plain "int" none with kind := .primitive 'I', accessFlags := 0x411 }
/-- [I -/
def k14 : Class := { plain "[I" (some 0) with kind := .array 13 .int, interfaces := #[10, 4], accessFlags := 1041 }

/-- the primitive long -/
def k15 : Class := { plain "long" none with kind := .primitive 'J', accessFlags := 0x411 }
/-- [J -/
def k16 : Class := { plain "[J" (some 0) with kind := .array 15 .long, interfaces := #[10, 4], accessFlags := 1041 }

def heap : Heap := #[]
def classes : Array Class := #[k0, k1, k2, k3, k4, k5, k6, k7, k8, k9, k10, k11, k12, k13, k14, k15, k16]
def interned : List (Array UInt16 × Addr) := []
def slotsUsed : Nat := 0
def theMethod : MethodId := ⟨1, 1⟩
def args0 : Array Value := #[.int 5, .long 6, .long 7, .long 8, .long 9, .long 10]
def aboutOver (below : List Frame) : State where
  vm := { classes := classes, interned := interned.toArray }
  heap := heap
  slotsUsed := slotsUsed
  threads := #[{ frames := .invoking theMethod args0 :: below }]
def below0 : List Frame := [.native { method := ⟨0, 0⟩, args := #[] }]
def about1 : State := aboutOver below0
def p0 : Program := .bare "" "" ""
def e0 : Env := launch0.env 0 0 0
theorem w_frames : about1.frames = Frame.invoking theMethod args0 :: below0 := rfl
set_option maxRecDepth 65536 in
theorem w_args : argsFit about1.vm theMethod args0 = true := by decide +kernel
set_option maxRecDepth 65536 in
theorem w_heap : heapFits about1 = true := by decide +kernel
set_option maxRecDepth 65536 in
theorem w_runnable : about1.curStatus? = some .runnable := by decide +kernel
set_option maxRecDepth 65536 in
theorem w_alone : about1.alone = true := by decide +kernel
set_option maxRecDepth 65536 in
theorem w_named : about1.methodNamed? x = some theMethod := by decide +kernel
set_option maxRecDepth 65536 in
theorem w_hears : about1.hears theMethod below0 = true := by decide +kernel
set_option maxRecDepth 65536 in
theorem w_ripe : about1.ripe theMethod args0 below0 = true := by decide +kernel
theorem w_running : about1.status = .running := rfl
set_option maxRecDepth 65536 in
theorem w_room : about1.hasRoom e0.platform room_1 = true :=
  launch0.hasRoom_least _ room_1 (by decide +kernel) (by decide +kernel) (by decide +kernel) (by decide +kernel) (by decide +kernel) (by decide +kernel)
theorem allAtoms_all (ts : List Jvm.Cond) (a : Array Jvm.Value) (st : Jvm.State) : (allAtoms ts).before a st = ts.all (fun c => c.before a st) := by
  induction ts with
  | nil => rfl
  | cons c t ih =>
    show (Jvm.Cond.and c (allAtoms t)).before a st = _
    rw [Jvm.Cond.before_and, ih, List.all_cons]
def words1 : List Jvm.Cond := Jvm.Cond.code x code maxLocals ret :: tables_1
/-- a 'code' word, met by the world's own term for the bytes: nothing is compared byte by byte -/
theorem code_word {y : MethodName} {bytes : ByteArray} {mx : Nat} {rt : Option FieldType} {a : Array Value} {s : State} {m : MethodId} {meth : Method} {c : Code} (h1 : s.methodNamed? y = some m) (h2 : s.vm.method? m = some meth) (h3 : meth.code = some c) (h4 : c.code = bytes)
    (h5 : (c.maxLocals == mx && c.exceptionTable.isEmpty && decide (c.maxStack ≤ mostOperands) && decide (meth.sig.returnType = rt) && !meth.locks && decide (parseMethodDescriptor y.desc = some meth.sig)) = true) : (Jvm.Cond.code y bytes mx rt).before a s = true := by
  simp only [Bool.and_eq_true, beq_iff_eq, Bool.not_eq_true', decide_eq_true_eq] at h5
  obtain ⟨⟨⟨⟨⟨g1, g2⟩, g3⟩, g4⟩, g5⟩, g6⟩ := h5
  simp [Cond.before, Cond.holds, Cond.value, h1, h2, h3, h4, g1, g2, g3, g4, g5, g6]
def isCode : Jvm.Cond → Bool
  | .code _ _ _ _ => true
  | _ => false
theorem all_split {L : List Jvm.Cond} {P : Jvm.Cond → Bool} (h1 : L.all (fun c => isCode c || P c) = true) (h2 : ∀ c ∈ L.filter isCode, P c = true) : L.all P = true := by
  refine List.all_eq_true.mpr fun c hc => ?_
  have h := List.all_eq_true.mp h1 c hc
  rcases Bool.eq_false_or_eq_true (isCode c) with hi | hi
  · exact h2 c (List.mem_filter.mpr ⟨hc, hi⟩)
  · simpa [hi] using h
set_option maxRecDepth 65536 in
theorem w_c0 : (Jvm.Cond.code x code maxLocals ret).before args0 about1 = true := code_word (m := ⟨1, 1⟩) (meth := k1m1) (c := k1c1) (by decide +kernel) rfl rfl rfl (by decide +kernel)
set_option maxRecDepth 65536 in
theorem w_c1 : (Jvm.Cond.code ({ cls := "com/example/bitstride/bitstride/search/MismatchCounts", name := "<init>", desc := "(III)V" } : Jvm.MethodName) prog_21_method_1_code (8 : Nat) (Option.none : Option Jvm.ClassFile.FieldType)).before args0 about1 = true := code_word (m := ⟨3, 0⟩) (meth := k3m0) (c := k3c0) (by decide +kernel) rfl rfl rfl (by decide +kernel)
set_option maxRecDepth 65536 in
theorem w_c2 : (Jvm.Cond.code ({ cls := "java/lang/Object", name := "<init>", desc := "()V" } : Jvm.MethodName) object_method_1_code (1 : Nat) (Option.none : Option Jvm.ClassFile.FieldType)).before args0 about1 = true := code_word (m := ⟨0, 0⟩) (meth := k0m0) (c := k0c0) (by decide +kernel) rfl rfl rfl (by decide +kernel)
set_option maxRecDepth 65536 in
theorem w_c3 : (Jvm.Cond.code ({ cls := "java/lang/Integer", name := "numberOfLeadingZeros", desc := "(I)I" } : Jvm.MethodName) jdk_33_method_47_code (2 : Nat) (Option.some Jvm.ClassFile.FieldType.int)).before args0 about1 = true := code_word (m := ⟨9, 0⟩) (meth := k9m0) (c := k9c0) (by decide +kernel) rfl rfl rfl (by decide +kernel)
set_option maxRecDepth 65536 in
theorem w_c4 : (Jvm.Cond.code ({ cls := "com/example/bitstride/bitstride/search/MismatchCounts", name := "restart", desc := "()V" } : Jvm.MethodName) prog_21_method_2_code (4 : Nat) (Option.none : Option Jvm.ClassFile.FieldType)).before args0 about1 = true := code_word (m := ⟨3, 1⟩) (meth := k3m1) (c := k3c1) (by decide +kernel) rfl rfl rfl (by decide +kernel)
set_option maxRecDepth 65536 in
theorem w_c5 : (Jvm.Cond.code ({ cls := "com/example/bitstride/bitstride/search/MismatchCounts", name := "step", desc := "([J)J" } : Jvm.MethodName) prog_21_method_3_code (13 : Nat) (Option.some Jvm.ClassFile.FieldType.long)).before args0 about1 = true := code_word (m := ⟨3, 2⟩) (meth := k3m2) (c := k3c2) (by decide +kernel) rfl rfl rfl (by decide +kernel)
set_option maxRecDepth 65536 in
theorem w_c6 : (Jvm.Cond.code ({ cls := "com/example/bitstride/bitstride/search/MismatchCountsStepPinLaw", name := "expect", desc := "([JIII)J" } : Jvm.MethodName) method_5_code (6 : Nat) (Option.some Jvm.ClassFile.FieldType.long)).before args0 about1 = true := code_word (m := ⟨1, 4⟩) (meth := k1m4) (c := k1c4) (by decide +kernel) rfl rfl rfl (by decide +kernel)
set_option maxRecDepth 65536 in
theorem w_c7 : (Jvm.Cond.code ({ cls := "com/example/bitstride/bitstride/search/MismatchCountsStepPinLaw", name := "term", desc := "([JIII)J" } : Jvm.MethodName) method_4_code (4 : Nat) (Option.some Jvm.ClassFile.FieldType.long)).before args0 about1 = true := code_word (m := ⟨1, 3⟩) (meth := k1m3) (c := k1c3) (by decide +kernel) rfl rfl rfl (by decide +kernel)
set_option maxRecDepth 65536 in
theorem w_c8 : (Jvm.Cond.code ({ cls := "com/example/bitstride/bitstride/search/MismatchCountsStepPinLaw", name := "mis", desc := "(JI)J" } : Jvm.MethodName) method_3_code (3 : Nat) (Option.some Jvm.ClassFile.FieldType.long)).before args0 about1 = true := code_word (m := ⟨1, 2⟩) (meth := k1m2) (c := k1c2) (by decide +kernel) rfl rfl rfl (by decide +kernel)
def codes1 : List Jvm.Cond := [Jvm.Cond.code x code maxLocals ret, Jvm.Cond.code ({ cls := "com/example/bitstride/bitstride/search/MismatchCounts", name := "<init>", desc := "(III)V" } : Jvm.MethodName) prog_21_method_1_code (8 : Nat) (Option.none : Option Jvm.ClassFile.FieldType), Jvm.Cond.code ({ cls := "java/lang/Object", name := "<init>", desc := "()V" } : Jvm.MethodName) object_method_1_code (1 : Nat) (Option.none : Option Jvm.ClassFile.FieldType), Jvm.Cond.code ({ cls := "java/lang/Integer", name := "numberOfLeadingZeros", desc := "(I)I" } : Jvm.MethodName) jdk_33_method_47_code (2 : Nat) (Option.some Jvm.ClassFile.FieldType.int), Jvm.Cond.code ({ cls := "com/example/bitstride/bitstride/search/MismatchCounts", name := "restart", desc := "()V" } : Jvm.MethodName) prog_21_method_2_code (4 : Nat) (Option.none : Option Jvm.ClassFile.FieldType), Jvm.Cond.code ({ cls := "com/example/bitstride/bitstride/search/MismatchCounts", name := "step", desc := "([J)J" } : Jvm.MethodName) prog_21_method_3_code (13 : Nat) (Option.some Jvm.ClassFile.FieldType.long), Jvm.Cond.code ({ cls := "com/example/bitstride/bitstride/search/MismatchCountsStepPinLaw", name := "expect", desc := "([JIII)J" } : Jvm.MethodName) method_5_code (6 : Nat) (Option.some Jvm.ClassFile.FieldType.long), Jvm.Cond.code ({ cls := "com/example/bitstride/bitstride/search/MismatchCountsStepPinLaw", name := "term", desc := "([JIII)J" } : Jvm.MethodName) method_4_code (4 : Nat) (Option.some Jvm.ClassFile.FieldType.long), Jvm.Cond.code ({ cls := "com/example/bitstride/bitstride/search/MismatchCountsStepPinLaw", name := "mis", desc := "(JI)J" } : Jvm.MethodName) method_3_code (3 : Nat) (Option.some Jvm.ClassFile.FieldType.long)]
set_option maxRecDepth 65536 in
theorem codes_eq : words1.filter isCode = codes1 := rfl
theorem w_codes : ∀ c ∈ words1.filter isCode, c.before args0 about1 = true := by
  rw [codes_eq]
  intro c hc
  simp only [codes1, List.mem_cons, List.not_mem_nil, or_false] at hc
  rcases hc with rfl | rfl | rfl | rfl | rfl | rfl | rfl | rfl | rfl
  · exact w_c0
  · exact w_c1
  · exact w_c2
  · exact w_c3
  · exact w_c4
  · exact w_c5
  · exact w_c6
  · exact w_c7
  · exact w_c8
set_option maxRecDepth 65536 in
theorem w_t1 : (words1.take 24).all (fun c => isCode c || c.before args0 about1) = true := by decide +kernel
set_option maxRecDepth 65536 in
theorem w_t2 : (words1.drop 24).all (fun c => isCode c || c.before args0 about1) = true := by decide +kernel
theorem w_tables : (allAtoms (Jvm.Cond.code x code maxLocals ret :: tables_1)).before args0 about1 = true := by
  rw [allAtoms_all]
  show words1.all (fun c => c.before args0 about1) = true
  refine all_split ?_ w_codes
  rw [← List.take_append_drop 24 words1, List.all_append, w_t1, w_t2]
  rfl
set_option maxRecDepth 65536 in
theorem w_case : (Jvm.Cond.and given_1 narrow_1).before args0 about1 = true := by decide +kernel
theorem w_applies : (headSpec (Jvm.Cond.code x code maxLocals ret :: tables_1) room_1).applies x e0.platform about1 = true :=
  (Spec.applies_iff w_frames).mpr ⟨w_running, w_runnable, w_alone, w_named, w_hears, w_ripe, w_room, w_tables⟩
theorem atStart : AtStart classFile x code maxLocals ret World_1 tables_1 room_1 Calls_1 rest_1 Pre_1 launch0 p0 e0 about1 theMethod args0 below0 :=
  ⟨lists_1, trivial, launch0.admits_env _ _ _, launch0.least_env, fairChoices_fair.cas, fairChoices_fair.clock, w_frames, w_args, w_heap, w_applies, trivial, trivial, w_case⟩
end start1
theorem witness_1 : WitnessClaimed_1 := ⟨start1.p0, start1.e0, start1.about1, start1.theMethod, start1.args0, start1.below0, start1.atStart⟩
end Jvm.Pilot.@@N@@
