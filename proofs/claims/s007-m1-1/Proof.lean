import JvmDerived
import JvmDerived.Pilot.@@N@@Statement
import JvmDerived.Pilot.@@N@@Code
set_option linter.unusedVariables false
set_option linter.unusedSimpArgs false
namespace Jvm.RoadKit
open Sem ClassFile Op Lib Jvm.Stand Jvm.Free Jvm.LawKit
section New
variable {p : Program} {l : Launch} {e : Env} {R : Room} {s : State} {m : MethodId} {args : Array Value} {below : List Frame} {meth : Method} {c : Code} {T : State} {locs : List Loc} {cells slots : Nat}
theorem retI (X : Stand p l e R s m args below meth c T locs cells slots) (hx : p.tables.exec = Jvm.exec) {pc : Nat} {Ls : Array Slot} {z : Int32} {rest : List Value} (hret : meth.sig.returnType = some .int) (hd : decode c.code pc = .ok (.ireturn, 1)) {fs : List Frame}
    (hl : ∀ (f : JFrame) (acts : List Action), f.method = m → f.locked = none → f.entered = [] → (doReturn e (T.setTop f) acts (some (.int z))).1 = T.setFrames fs) : Steps p.tables e below (T.setTop (mkF m pc Ls (.int z :: rest))) (T.setFrames fs) := by
  have hm' : T.vm.method? m = some meth := X.method'
  have hn : narrow .int (.int z) = .int z := rfl
  show Steps p.tables e below (T.setTop { method := m, pc := pc, locals := Ls, stack := _ :: rest, locked := none }) _
  jvm_step X.here [X.here.top, hx, hd, hm', hret, hn]
  first | (intro acts; rw [hl _ acts rfl rfl rfl]) | rw [hl _ _ rfl rfl rfl]
  exact Steps.refl _
end New
end Jvm.RoadKit
namespace Jvm.Pilot.@@N@@
open Jvm Jvm.ClassFile Sem Op Lib Jvm.Free Jvm.Stand Jvm.LawKit Jvm.RoadKit Bundle Jvm.Pilot.@@N@@.Jvm.D
section OwnKit
variable {Z : State} {a0 : Array Value} {n0 : Nat} {p : Program} {l : Launch} {e : Env} {R : Room} {s : State} {m : MethodId} {args : Array Value} {below : List Frame} {meth : Method} {c : Code} {code : ByteArray} {ml : Nat} {ret : Option FieldType} {y : MethodName} {T : State} {h h' : Heap} {k j : Nat} {Q : Option Value → Heap → Prop} {pc nx tgt : Nat} {Ls : Array Slot} {S : List Value}
/-- Java's shifts -/
abbrev jshl (x q : Int32) : Int32 := x <<< (q &&& 31)
abbrev jshr (x q : Int32) : Int32 := x >>> (q &&& 31)
abbrev jushr (x q : Int32) : Int32 := (x.toUInt32 >>> (q &&& 31).toUInt32).toInt32
abbrev jshlL (x : Int64) (q : Int32) : Int64 := x <<< (q &&& 0x3f).toInt64
abbrev jshrL (x : Int64) (q : Int32) : Int64 := x >>> (q &&& 0x3f).toInt64
abbrev jushrL (x : Int64) (q : Int32) : Int64 := (x.toUInt64 >>> (q &&& 0x3f).toInt64.toUInt64).toInt64
abbrev jbyte (x : Int32) : Int32 := x.toInt8.toInt32
/-- the instruction at pc, and the pc behind it -/
def Dec (code : ByteArray) (pc : Nat) (i : Instr) (len nx : Nat) : Prop := decode code pc = .ok (i, len) ∧ nx = pc + len
/-- a jump at pc: the pc behind it, and where it goes -/
def Jmp (code : ByteArray) (pc : Nat) (i : Instr) (o : Int) (nx tgt : Nat) : Prop := decode code pc = .ok (i, 3) ∧ nx = pc + 3 ∧ 0 ≤ (pc : Int) + o ∧ ((pc : Int) + o).toNat = tgt
/-- where a body's run stands: the heap, the cells and slots made; nothing older than n0 was written -/
def Pos (Z : State) (a0 : Array Value) (n0 : Nat) (p : Program) (l : Launch) (e : Env) (R : Room) (s : State) (m : MethodId) (args : Array Value) (below : List Frame) (meth : Method) (c : Code) (code : ByteArray) (ml : Nat) (ret : Option FieldType) (y : MethodName) (T : State) (h : Heap) (k j : Nat) : Prop :=
  p.tables.exec = Jvm.exec ∧ Z.Warmed39 s.vm ∧ c.code = code ∧ c.maxLocals = ml ∧ meth.sig.returnType = ret ∧ s.vm.findClass y.cls = some m.cls ∧ meth.name = y.name ∧ meth.locks = false ∧ T.heap = h ∧ n0 ≤ h.size ∧ (∀ d ∈ tables_1, d.before a0 Z = true) ∧ ∃ locs, Fr n0 locs ∧ Stand p l e R s m args below meth c T locs k j
/-- from the frame f over T the body comes to its end, and Q says with what -/
def Wp (n0 : Nat) (p : Program) (e : Env) (R : Room) (s : State) (below : List Frame) (Q : Option Value → Heap → Prop) (T : State) (f : JFrame) : Prop :=
  ∃ t o, Steps p.tables e below (T.setTop f) t ∧ t.status = .running ∧ Ended t below o ∧ ∃ v L, o = .returned v ∧ (Fr n0 L ∧ n0 ≤ t.heap.size ∧ Q v t.heap) ∧ FrameEnd s o t L R.cells R.slots
/-- a body's contract at one array of arguments and one heap -/
def Ctr (l : Launch) (Z : State) (n0 : Nat) (y : MethodName) (code : ByteArray) (ml : Nat) (ret : Option FieldType) (R : Room) (ws : List Jvm.Cond) (as : Array Value) (h : Heap) (Q : Option Value → Heap → Prop) : Prop :=
  MetFree l y (head1 (Jvm.Cond.code y code ml ret :: ws) R) (fun a U => a = as ∧ Z.Warmed39 U.vm ∧ U.heap = h) (fun _ _ _ _ _ => True) (fun _ U o U' => ∃ v L, o = .returned v ∧ (Fr n0 L ∧ n0 ≤ U'.heap.size ∧ Q v U'.heap) ∧ FrameEnd U o U' L R.cells R.slots)
/-- an array of n places: place i holds g i; it is no older than n0 -/
def Ba (Z : State) (n0 : Nat) (h : Heap) (a : Addr) (ty : FieldType) (n : Nat) (g : Nat → Value) : Prop :=
  n0 ≤ a ∧ n < 2147483648 ∧ ∃ c : Cell, Arr Z h a c ty ∧ c.slots.size = n ∧ ∀ i, i < n → c.slots[i]? = some (g i)
def bI (b : Nat → Int32) : Nat → Value := fun i => .int (b i)
def bJ (b : Nat → Int64) : Nat → Value := fun i => .long (b i)
def upd {α : Type} (b : Nat → α) (i : Nat) (v : α) : Nat → α := fun q => if q = i then v else b q
theorem upd_at {α : Type} (b : Nat → α) (i : Nat) (v : α) : upd b i v i = v := if_pos rfl
theorem upd_ne {α : Type} (b : Nat → α) {i q : Nat} (v : α) (h : q ≠ i) : upd b i v q = b q := if_neg h
theorem Ba.lt {a : Addr} {ty : FieldType} {n : Nat} {g : Nat → Value} (B : Ba Z n0 h a ty n g) : a < h.size := by obtain ⟨-, -, c, A, -⟩ := B; exact A.lt
theorem Ba.ext {a : Addr} {ty : FieldType} {n : Nat} {g : Nat → Value} (B : Ba Z n0 h a ty n g) (E : Ext h h') : Ba Z n0 h' a ty n g := by obtain ⟨q1, q2, c, A, r⟩ := B; exact ⟨q1, q2, c, A.ext E, r⟩
theorem Ba.keep {a : Addr} {ty : FieldType} {n : Nat} {g : Nat → Value} {ws : List Addr} (B : Ba Z n0 h a ty n g) (K : Keep h h' ws) (q : a ∉ ws) : Ba Z n0 h' a ty n g := by obtain ⟨q1, q2, c, A, r⟩ := B; exact ⟨q1, q2, c, ⟨K.2.1 a c A.1 q, A.2⟩, r⟩
theorem Ba.congr {a : Addr} {ty : FieldType} {n : Nat} {g g' : Nat → Value} (B : Ba Z n0 h a ty n g) (q : ∀ i, i < n → g i = g' i) : Ba Z n0 h a ty n g' := by obtain ⟨q1, q2, c, A, r1, r2⟩ := B; exact ⟨q1, q2, c, A, r1, fun i hi => by rw [r2 i hi, q i hi]⟩
theorem ofNat_toInt {n : Nat} (h : n < 2147483648) : (Int32.ofNat n).toInt = n := Int32.toInt_ofNat_of_lt (by omega)
theorem ofNat_clamp {n : Nat} (h : n < 2147483648) : (Int32.ofNat n).toNatClampNeg = n := by rw [Int32.toNatClampNeg, ofNat_toInt h]; rfl
theorem ofNat_nn {n : Nat} (h : n < 2147483648) : ¬ Int32.ofNat n < 0 := by rw [Int32.lt_iff_toInt_lt, ofNat_toInt h, show (0 : Int32).toInt = 0 from rfl]; omega
theorem ofNat_lt {a b : Nat} (ha : a < 2147483648) (hb : b < 2147483648) : Int32.ofNat a < Int32.ofNat b ↔ a < b := by rw [Int32.lt_iff_toInt_lt, ofNat_toInt ha, ofNat_toInt hb]; omega
theorem eq_ofNat {x : Int32} {n : Nat} (hn : n < 2147483648) (h : x.toInt = n) : x = Int32.ofNat n := Int32.toInt_inj.mp (by rw [h, ofNat_toInt hn])
theorem inb {c : Cell} {n i : Nat} (hn : n < 2147483648) (hc : c.slots.size = n) (hi : i < n) : ¬ (Int32.ofNat i < 0 ∨ c.slots.size ≤ (Int32.ofNat i).toNatClampNeg) := by
  rw [hc, ofNat_clamp (by omega)]
  exact fun q => q.elim (ofNat_nn (by omega)) (fun q => by omega)
theorem Pos.sz (X : Pos Z a0 n0 p l e R s m args below meth c code ml ret y T h k j) : n0 ≤ h.size := X.2.2.2.2.2.2.2.2.2.1
theorem Wp.go {T' : State} {f f' : JFrame} (st : ∀ target, Steps p.tables e below (T'.setTop f') target → Steps p.tables e below (T.setTop f) target) (q : Wp n0 p e R s below Q T' f') : Wp n0 p e R s below Q T f := by
  obtain ⟨t, o, h1, r⟩ := q; exact ⟨t, o, st t h1, r⟩
theorem Wp.cast {f f' : JFrame} (q : f = f') (w : Wp n0 p e R s below Q T f') : Wp n0 p e R s below Q T f := q ▸ w
theorem ctr_of {ws : List Jvm.Cond} {as : Array Value} (hp : plainFor y = true) (hw : ∀ d ∈ tables_1, d.before a0 Z = true) (hn : n0 ≤ h.size)
    (body : ∀ p e s m below meth c T, Pos Z a0 n0 p l e R s m as below meth c code ml ret y T h 0 0 → Wp n0 p e R s below Q T (entryFrame m as ml)) : Ctr l Z n0 y code ml ret R ws as h Q := by
  refine MetFree.of_bodySF hp hisR ?_
  intro p e s m args below meth c s₁ Bd hml0 hP hK
  obtain ⟨rfl, hZ, hh⟩ := hP
  exact body p e s m below meth c s₁ ⟨Bd.exec, hZ, Bd.bytes, hml0, Bd.returns, findClass_of_methodNamed Bd.named, (name_of_methodNamed Bd.named Bd.method).1, Bd.notSynchronized, by rw [← hh, Bd.state]; rfl, hn, hw, [], Fr.nil _, Stand.of_body Bd⟩
theorem w_iadd (X : Pos Z a0 n0 p l e R s m args below meth c code ml ret y T h k j) {x z : Int32} (hd : Dec code pc .iadd 1 nx) (q : Wp n0 p e R s below Q T (mkF m nx Ls (.int (x + z) :: S))) : Wp n0 p e R s below Q T (mkF m pc Ls (.int z :: .int x :: S)) := by
  obtain ⟨hx, hZ, hby, hml, hret, hown, hnm, hlk, eT, hn0, hw, locs, N, Y⟩ := X
  obtain ⟨hd, rfl⟩ := hd
  exact Wp.go (fun _ q => XS.iadd Y.here hx rfl (hb hby hd) rfl q) q
theorem w_isub (X : Pos Z a0 n0 p l e R s m args below meth c code ml ret y T h k j) {x z : Int32} (hd : Dec code pc .isub 1 nx) (q : Wp n0 p e R s below Q T (mkF m nx Ls (.int (x - z) :: S))) : Wp n0 p e R s below Q T (mkF m pc Ls (.int z :: .int x :: S)) := by
  obtain ⟨hx, hZ, hby, hml, hret, hown, hnm, hlk, eT, hn0, hw, locs, N, Y⟩ := X
  obtain ⟨hd, rfl⟩ := hd
  exact Wp.go (fun _ q => XS.isub Y.here hx rfl (hb hby hd) rfl q) q
theorem w_imul (X : Pos Z a0 n0 p l e R s m args below meth c code ml ret y T h k j) {x z : Int32} (hd : Dec code pc .imul 1 nx) (q : Wp n0 p e R s below Q T (mkF m nx Ls (.int (x * z) :: S))) : Wp n0 p e R s below Q T (mkF m pc Ls (.int z :: .int x :: S)) := by
  obtain ⟨hx, hZ, hby, hml, hret, hown, hnm, hlk, eT, hn0, hw, locs, N, Y⟩ := X
  obtain ⟨hd, rfl⟩ := hd
  exact Wp.go (fun _ q => XS.imul Y.here hx rfl (hb hby hd) rfl q) q
theorem w_iand (X : Pos Z a0 n0 p l e R s m args below meth c code ml ret y T h k j) {x z : Int32} (hd : Dec code pc .iand 1 nx) (q : Wp n0 p e R s below Q T (mkF m nx Ls (.int (x &&& z) :: S))) : Wp n0 p e R s below Q T (mkF m pc Ls (.int z :: .int x :: S)) := by
  obtain ⟨hx, hZ, hby, hml, hret, hown, hnm, hlk, eT, hn0, hw, locs, N, Y⟩ := X
  obtain ⟨hd, rfl⟩ := hd
  exact Wp.go (fun _ q => XS.iand Y.here hx rfl (hb hby hd) rfl q) q
theorem w_ior (X : Pos Z a0 n0 p l e R s m args below meth c code ml ret y T h k j) {x z : Int32} (hd : Dec code pc .ior 1 nx) (q : Wp n0 p e R s below Q T (mkF m nx Ls (.int (x ||| z) :: S))) : Wp n0 p e R s below Q T (mkF m pc Ls (.int z :: .int x :: S)) := by
  obtain ⟨hx, hZ, hby, hml, hret, hown, hnm, hlk, eT, hn0, hw, locs, N, Y⟩ := X
  obtain ⟨hd, rfl⟩ := hd
  exact Wp.go (fun _ q => XS.ior Y.here hx rfl (hb hby hd) rfl q) q
theorem w_ixor (X : Pos Z a0 n0 p l e R s m args below meth c code ml ret y T h k j) {x z : Int32} (hd : Dec code pc .ixor 1 nx) (q : Wp n0 p e R s below Q T (mkF m nx Ls (.int (x ^^^ z) :: S))) : Wp n0 p e R s below Q T (mkF m pc Ls (.int z :: .int x :: S)) := by
  obtain ⟨hx, hZ, hby, hml, hret, hown, hnm, hlk, eT, hn0, hw, locs, N, Y⟩ := X
  obtain ⟨hd, rfl⟩ := hd
  exact Wp.go (fun _ q => XS.ixor Y.here hx rfl (hb hby hd) rfl q) q
theorem w_ishl (X : Pos Z a0 n0 p l e R s m args below meth c code ml ret y T h k j) {x z : Int32} (hd : Dec code pc .ishl 1 nx) (q : Wp n0 p e R s below Q T (mkF m nx Ls (.int (jshl x z) :: S))) : Wp n0 p e R s below Q T (mkF m pc Ls (.int z :: .int x :: S)) := by
  obtain ⟨hx, hZ, hby, hml, hret, hown, hnm, hlk, eT, hn0, hw, locs, N, Y⟩ := X
  obtain ⟨hd, rfl⟩ := hd
  exact Wp.go (fun _ q => XS.ishl Y.here hx rfl (hb hby hd) rfl q) q
theorem w_ishr (X : Pos Z a0 n0 p l e R s m args below meth c code ml ret y T h k j) {x z : Int32} (hd : Dec code pc .ishr 1 nx) (q : Wp n0 p e R s below Q T (mkF m nx Ls (.int (jshr x z) :: S))) : Wp n0 p e R s below Q T (mkF m pc Ls (.int z :: .int x :: S)) := by
  obtain ⟨hx, hZ, hby, hml, hret, hown, hnm, hlk, eT, hn0, hw, locs, N, Y⟩ := X
  obtain ⟨hd, rfl⟩ := hd
  exact Wp.go (fun _ q => XS.ishr Y.here hx rfl (hb hby hd) rfl q) q
theorem w_iushr (X : Pos Z a0 n0 p l e R s m args below meth c code ml ret y T h k j) {x z : Int32} (hd : Dec code pc .iushr 1 nx) (q : Wp n0 p e R s below Q T (mkF m nx Ls (.int (jushr x z) :: S))) : Wp n0 p e R s below Q T (mkF m pc Ls (.int z :: .int x :: S)) := by
  obtain ⟨hx, hZ, hby, hml, hret, hown, hnm, hlk, eT, hn0, hw, locs, N, Y⟩ := X
  obtain ⟨hd, rfl⟩ := hd
  exact Wp.go (fun _ q => XS.iushr Y.here hx rfl (hb hby hd) rfl q) q
theorem w_ladd (X : Pos Z a0 n0 p l e R s m args below meth c code ml ret y T h k j) {x z : Int64} (hd : Dec code pc .ladd 1 nx) (q : Wp n0 p e R s below Q T (mkF m nx Ls (.long (x + z) :: S))) : Wp n0 p e R s below Q T (mkF m pc Ls (.long z :: .long x :: S)) := by
  obtain ⟨hx, hZ, hby, hml, hret, hown, hnm, hlk, eT, hn0, hw, locs, N, Y⟩ := X
  obtain ⟨hd, rfl⟩ := hd
  exact Wp.go (fun _ q => XS.ladd Y.here hx rfl (hb hby hd) rfl q) q
theorem w_lsub (X : Pos Z a0 n0 p l e R s m args below meth c code ml ret y T h k j) {x z : Int64} (hd : Dec code pc .lsub 1 nx) (q : Wp n0 p e R s below Q T (mkF m nx Ls (.long (x - z) :: S))) : Wp n0 p e R s below Q T (mkF m pc Ls (.long z :: .long x :: S)) := by
  obtain ⟨hx, hZ, hby, hml, hret, hown, hnm, hlk, eT, hn0, hw, locs, N, Y⟩ := X
  obtain ⟨hd, rfl⟩ := hd
  exact Wp.go (fun _ q => XS.lsub Y.here hx rfl (hb hby hd) rfl q) q
theorem w_lmul (X : Pos Z a0 n0 p l e R s m args below meth c code ml ret y T h k j) {x z : Int64} (hd : Dec code pc .lmul 1 nx) (q : Wp n0 p e R s below Q T (mkF m nx Ls (.long (x * z) :: S))) : Wp n0 p e R s below Q T (mkF m pc Ls (.long z :: .long x :: S)) := by
  obtain ⟨hx, hZ, hby, hml, hret, hown, hnm, hlk, eT, hn0, hw, locs, N, Y⟩ := X
  obtain ⟨hd, rfl⟩ := hd
  exact Wp.go (fun _ q => XS.lmul Y.here hx rfl (hb hby hd) rfl q) q
theorem w_land (X : Pos Z a0 n0 p l e R s m args below meth c code ml ret y T h k j) {x z : Int64} (hd : Dec code pc .land 1 nx) (q : Wp n0 p e R s below Q T (mkF m nx Ls (.long (x &&& z) :: S))) : Wp n0 p e R s below Q T (mkF m pc Ls (.long z :: .long x :: S)) := by
  obtain ⟨hx, hZ, hby, hml, hret, hown, hnm, hlk, eT, hn0, hw, locs, N, Y⟩ := X
  obtain ⟨hd, rfl⟩ := hd
  exact Wp.go (fun _ q => XS.land Y.here hx rfl (hb hby hd) rfl q) q
theorem w_lor (X : Pos Z a0 n0 p l e R s m args below meth c code ml ret y T h k j) {x z : Int64} (hd : Dec code pc .lor 1 nx) (q : Wp n0 p e R s below Q T (mkF m nx Ls (.long (x ||| z) :: S))) : Wp n0 p e R s below Q T (mkF m pc Ls (.long z :: .long x :: S)) := by
  obtain ⟨hx, hZ, hby, hml, hret, hown, hnm, hlk, eT, hn0, hw, locs, N, Y⟩ := X
  obtain ⟨hd, rfl⟩ := hd
  exact Wp.go (fun _ q => XS.lor Y.here hx rfl (hb hby hd) rfl q) q
theorem w_lxor (X : Pos Z a0 n0 p l e R s m args below meth c code ml ret y T h k j) {x z : Int64} (hd : Dec code pc .lxor 1 nx) (q : Wp n0 p e R s below Q T (mkF m nx Ls (.long (x ^^^ z) :: S))) : Wp n0 p e R s below Q T (mkF m pc Ls (.long z :: .long x :: S)) := by
  obtain ⟨hx, hZ, hby, hml, hret, hown, hnm, hlk, eT, hn0, hw, locs, N, Y⟩ := X
  obtain ⟨hd, rfl⟩ := hd
  exact Wp.go (fun _ q => XS.lxor Y.here hx rfl (hb hby hd) rfl q) q
theorem w_lshl (X : Pos Z a0 n0 p l e R s m args below meth c code ml ret y T h k j) {x : Int64} {z : Int32} (hd : Dec code pc .lshl 1 nx) (q : Wp n0 p e R s below Q T (mkF m nx Ls (.long (jshlL x z) :: S))) : Wp n0 p e R s below Q T (mkF m pc Ls (.int z :: .long x :: S)) := by
  obtain ⟨hx, hZ, hby, hml, hret, hown, hnm, hlk, eT, hn0, hw, locs, N, Y⟩ := X
  obtain ⟨hd, rfl⟩ := hd
  exact Wp.go (fun _ q => XS.lshl Y.here hx rfl (hb hby hd) rfl q) q
theorem w_lshr (X : Pos Z a0 n0 p l e R s m args below meth c code ml ret y T h k j) {x : Int64} {z : Int32} (hd : Dec code pc .lshr 1 nx) (q : Wp n0 p e R s below Q T (mkF m nx Ls (.long (jshrL x z) :: S))) : Wp n0 p e R s below Q T (mkF m pc Ls (.int z :: .long x :: S)) := by
  obtain ⟨hx, hZ, hby, hml, hret, hown, hnm, hlk, eT, hn0, hw, locs, N, Y⟩ := X
  obtain ⟨hd, rfl⟩ := hd
  exact Wp.go (fun _ q => XS.lshr Y.here hx rfl (hb hby hd) rfl q) q
theorem w_lushr (X : Pos Z a0 n0 p l e R s m args below meth c code ml ret y T h k j) {x : Int64} {z : Int32} (hd : Dec code pc .lushr 1 nx) (q : Wp n0 p e R s below Q T (mkF m nx Ls (.long (jushrL x z) :: S))) : Wp n0 p e R s below Q T (mkF m pc Ls (.int z :: .long x :: S)) := by
  obtain ⟨hx, hZ, hby, hml, hret, hown, hnm, hlk, eT, hn0, hw, locs, N, Y⟩ := X
  obtain ⟨hd, rfl⟩ := hd
  exact Wp.go (fun _ q => XS.lushr Y.here hx rfl (hb hby hd) rfl q) q
theorem w_idiv (X : Pos Z a0 n0 p l e R s m args below meth c code ml ret y T h k j) {x z : Int32} (hd : Dec code pc .idiv 1 nx) (hz : z ≠ 0) (q : Wp n0 p e R s below Q T (mkF m nx Ls (.int (x / z) :: S))) : Wp n0 p e R s below Q T (mkF m pc Ls (.int z :: .int x :: S)) := by
  obtain ⟨hx, hZ, hby, hml, hret, hown, hnm, hlk, eT, hn0, hw, locs, N, Y⟩ := X
  obtain ⟨hd, rfl⟩ := hd
  exact Wp.go (fun _ q => XS.idiv Y.here hx rfl (hb hby hd) rfl hz q) q
theorem w_irem (X : Pos Z a0 n0 p l e R s m args below meth c code ml ret y T h k j) {x z : Int32} (hd : Dec code pc .irem 1 nx) (hz : z ≠ 0) (q : Wp n0 p e R s below Q T (mkF m nx Ls (.int (x % z) :: S))) : Wp n0 p e R s below Q T (mkF m pc Ls (.int z :: .int x :: S)) := by
  obtain ⟨hx, hZ, hby, hml, hret, hown, hnm, hlk, eT, hn0, hw, locs, N, Y⟩ := X
  obtain ⟨hd, rfl⟩ := hd
  exact Wp.go (fun _ q => iremM Y hx rfl (hb hby hd) rfl hz q) q
theorem w_ldiv (X : Pos Z a0 n0 p l e R s m args below meth c code ml ret y T h k j) {x z : Int64} (hd : Dec code pc .ldiv 1 nx) (hz : z ≠ 0) (q : Wp n0 p e R s below Q T (mkF m nx Ls (.long (x / z) :: S))) : Wp n0 p e R s below Q T (mkF m pc Ls (.long z :: .long x :: S)) := by
  obtain ⟨hx, hZ, hby, hml, hret, hown, hnm, hlk, eT, hn0, hw, locs, N, Y⟩ := X
  obtain ⟨hd, rfl⟩ := hd
  exact Wp.go (fun _ q => XS.ldiv Y.here hx rfl (hb hby hd) rfl hz q) q
theorem w_lrem (X : Pos Z a0 n0 p l e R s m args below meth c code ml ret y T h k j) {x z : Int64} (hd : Dec code pc .lrem 1 nx) (hz : z ≠ 0) (q : Wp n0 p e R s below Q T (mkF m nx Ls (.long (x - (x / z) * z) :: S))) : Wp n0 p e R s below Q T (mkF m pc Ls (.long z :: .long x :: S)) := by
  obtain ⟨hx, hZ, hby, hml, hret, hown, hnm, hlk, eT, hn0, hw, locs, N, Y⟩ := X
  obtain ⟨hd, rfl⟩ := hd
  exact Wp.go (fun _ q => XS.lrem Y.here hx rfl (hb hby hd) rfl hz q) q
theorem w_ineg (X : Pos Z a0 n0 p l e R s m args below meth c code ml ret y T h k j) {x : Int32} (hd : Dec code pc .ineg 1 nx) (q : Wp n0 p e R s below Q T (mkF m nx Ls (.int (-x) :: S))) : Wp n0 p e R s below Q T (mkF m pc Ls (.int x :: S)) := by
  obtain ⟨hx, hZ, hby, hml, hret, hown, hnm, hlk, eT, hn0, hw, locs, N, Y⟩ := X
  obtain ⟨hd, rfl⟩ := hd
  exact Wp.go (fun _ q => XS.ineg Y.here hx rfl (hb hby hd) rfl q) q
theorem w_lneg (X : Pos Z a0 n0 p l e R s m args below meth c code ml ret y T h k j) {x : Int64} (hd : Dec code pc .lneg 1 nx) (q : Wp n0 p e R s below Q T (mkF m nx Ls (.long (-x) :: S))) : Wp n0 p e R s below Q T (mkF m pc Ls (.long x :: S)) := by
  obtain ⟨hx, hZ, hby, hml, hret, hown, hnm, hlk, eT, hn0, hw, locs, N, Y⟩ := X
  obtain ⟨hd, rfl⟩ := hd
  exact Wp.go (fun _ q => XS.lneg Y.here hx rfl (hb hby hd) rfl q) q
theorem w_i2l (X : Pos Z a0 n0 p l e R s m args below meth c code ml ret y T h k j) {x : Int32} (hd : Dec code pc .i2l 1 nx) (q : Wp n0 p e R s below Q T (mkF m nx Ls (.long (x.toInt64) :: S))) : Wp n0 p e R s below Q T (mkF m pc Ls (.int x :: S)) := by
  obtain ⟨hx, hZ, hby, hml, hret, hown, hnm, hlk, eT, hn0, hw, locs, N, Y⟩ := X
  obtain ⟨hd, rfl⟩ := hd
  exact Wp.go (fun _ q => XS.i2l Y.here hx rfl (hb hby hd) rfl q) q
theorem w_l2i (X : Pos Z a0 n0 p l e R s m args below meth c code ml ret y T h k j) {x : Int64} (hd : Dec code pc .l2i 1 nx) (q : Wp n0 p e R s below Q T (mkF m nx Ls (.int (x.toInt32) :: S))) : Wp n0 p e R s below Q T (mkF m pc Ls (.long x :: S)) := by
  obtain ⟨hx, hZ, hby, hml, hret, hown, hnm, hlk, eT, hn0, hw, locs, N, Y⟩ := X
  obtain ⟨hd, rfl⟩ := hd
  exact Wp.go (fun _ q => XS.l2i Y.here hx rfl (hb hby hd) rfl q) q
theorem w_i2b (X : Pos Z a0 n0 p l e R s m args below meth c code ml ret y T h k j) {x : Int32} (hd : Dec code pc .i2b 1 nx) (q : Wp n0 p e R s below Q T (mkF m nx Ls (.int (jbyte x) :: S))) : Wp n0 p e R s below Q T (mkF m pc Ls (.int x :: S)) := by
  obtain ⟨hx, hZ, hby, hml, hret, hown, hnm, hlk, eT, hn0, hw, locs, N, Y⟩ := X
  obtain ⟨hd, rfl⟩ := hd
  exact Wp.go (fun _ q => XS.i2b Y.here hx rfl (hb hby hd) rfl q) q
theorem w_iconst (X : Pos Z a0 n0 p l e R s m args below meth c code ml ret y T h k j) {i : Int} {v : Int32} (hd : Dec code pc (.iconst i) 1 nx) (hv : Int32.ofInt i = v) (q : Wp n0 p e R s below Q T (mkF m nx Ls (.int v :: S))) : Wp n0 p e R s below Q T (mkF m pc Ls S) := by
  obtain ⟨hx, hZ, hby, hml, hret, hown, hnm, hlk, eT, hn0, hw, locs, N, Y⟩ := X
  obtain ⟨hd, rfl⟩ := hd
  subst hv
  exact Wp.go (fun _ q => XS.iconst Y.here hx rfl (hb hby hd) q) q
theorem w_bipush (X : Pos Z a0 n0 p l e R s m args below meth c code ml ret y T h k j) {i : Int} {v : Int32} (hd : Dec code pc (.bipush i) 2 nx) (hv : (Int8.ofInt i).toInt32 = v) (q : Wp n0 p e R s below Q T (mkF m nx Ls (.int v :: S))) : Wp n0 p e R s below Q T (mkF m pc Ls S) := by
  obtain ⟨hx, hZ, hby, hml, hret, hown, hnm, hlk, eT, hn0, hw, locs, N, Y⟩ := X
  obtain ⟨hd, rfl⟩ := hd
  subst hv
  exact Wp.go (fun _ q => XS.bipush Y.here hx rfl (hb hby hd) q) q
theorem w_sipush (X : Pos Z a0 n0 p l e R s m args below meth c code ml ret y T h k j) {i : Int} {v : Int32} (hd : Dec code pc (.sipush i) 3 nx) (hv : (Int16.ofInt i).toInt32 = v) (q : Wp n0 p e R s below Q T (mkF m nx Ls (.int v :: S))) : Wp n0 p e R s below Q T (mkF m pc Ls S) := by
  obtain ⟨hx, hZ, hby, hml, hret, hown, hnm, hlk, eT, hn0, hw, locs, N, Y⟩ := X
  obtain ⟨hd, rfl⟩ := hd
  subst hv
  exact Wp.go (fun _ q => XS.sipush Y.here hx rfl (hb hby hd) q) q
theorem w_lconst0 (X : Pos Z a0 n0 p l e R s m args below meth c code ml ret y T h k j) (hd : Dec code pc (.lconst 0) 1 nx) (q : Wp n0 p e R s below Q T (mkF m nx Ls (.long 0 :: S))) : Wp n0 p e R s below Q T (mkF m pc Ls S) := by
  obtain ⟨hx, hZ, hby, hml, hret, hown, hnm, hlk, eT, hn0, hw, locs, N, Y⟩ := X
  obtain ⟨hd, rfl⟩ := hd
  exact Wp.go (fun _ q => XS.lconst Y.here hx rfl (hb hby hd) q) q
theorem w_lconst1 (X : Pos Z a0 n0 p l e R s m args below meth c code ml ret y T h k j) (hd : Dec code pc (.lconst 1) 1 nx) (q : Wp n0 p e R s below Q T (mkF m nx Ls (.long 1 :: S))) : Wp n0 p e R s below Q T (mkF m pc Ls S) := by
  obtain ⟨hx, hZ, hby, hml, hret, hown, hnm, hlk, eT, hn0, hw, locs, N, Y⟩ := X
  obtain ⟨hd, rfl⟩ := hd
  exact Wp.go (fun _ q => XS.lconst Y.here hx rfl (hb hby hd) q) q
theorem w_null (X : Pos Z a0 n0 p l e R s m args below meth c code ml ret y T h k j) (hd : Dec code pc .aconst_null 1 nx) (q : Wp n0 p e R s below Q T (mkF m nx Ls (.null :: S))) : Wp n0 p e R s below Q T (mkF m pc Ls S) := by
  obtain ⟨hx, hZ, hby, hml, hret, hown, hnm, hlk, eT, hn0, hw, locs, N, Y⟩ := X
  obtain ⟨hd, rfl⟩ := hd
  exact Wp.go (fun _ q => XS.aconstNull Y.here hx rfl (hb hby hd) q) q
theorem w_iloadN (X : Pos Z a0 n0 p l e R s m args below meth c code ml ret y T h k j) {w : Fin 4} {v : Int32} (hd : Dec code pc (.iload_n w) 1 nx) (hl : Ls[w.val]? = some (.val (.int v))) (q : Wp n0 p e R s below Q T (mkF m nx Ls (.int v :: S))) : Wp n0 p e R s below Q T (mkF m pc Ls S) := by
  obtain ⟨hx, hZ, hby, hml, hret, hown, hnm, hlk, eT, hn0, hw, locs, N, Y⟩ := X
  obtain ⟨hd, rfl⟩ := hd
  exact Wp.go (fun _ q => XS.iloadN Y.here hx rfl (hb hby hd) hl q) q
theorem w_iload (X : Pos Z a0 n0 p l e R s m args below meth c code ml ret y T h k j) {w : Nat} {v : Int32} (hd : Dec code pc (.iload w) 2 nx) (hl : Ls[w]? = some (.val (.int v))) (q : Wp n0 p e R s below Q T (mkF m nx Ls (.int v :: S))) : Wp n0 p e R s below Q T (mkF m pc Ls S) := by
  obtain ⟨hx, hZ, hby, hml, hret, hown, hnm, hlk, eT, hn0, hw, locs, N, Y⟩ := X
  obtain ⟨hd, rfl⟩ := hd
  exact Wp.go (fun _ q => XS.iload Y.here hx rfl (hb hby hd) hl q) q
theorem w_lloadN (X : Pos Z a0 n0 p l e R s m args below meth c code ml ret y T h k j) {w : Fin 4} {v : Int64} (hd : Dec code pc (.lload_n w) 1 nx) (hl : Ls[w.val]? = some (.val (.long v))) (q : Wp n0 p e R s below Q T (mkF m nx Ls (.long v :: S))) : Wp n0 p e R s below Q T (mkF m pc Ls S) := by
  obtain ⟨hx, hZ, hby, hml, hret, hown, hnm, hlk, eT, hn0, hw, locs, N, Y⟩ := X
  obtain ⟨hd, rfl⟩ := hd
  exact Wp.go (fun _ q => XS.lloadN Y.here hx rfl (hb hby hd) hl q) q
theorem w_lload (X : Pos Z a0 n0 p l e R s m args below meth c code ml ret y T h k j) {w : Nat} {v : Int64} (hd : Dec code pc (.lload w) 2 nx) (hl : Ls[w]? = some (.val (.long v))) (q : Wp n0 p e R s below Q T (mkF m nx Ls (.long v :: S))) : Wp n0 p e R s below Q T (mkF m pc Ls S) := by
  obtain ⟨hx, hZ, hby, hml, hret, hown, hnm, hlk, eT, hn0, hw, locs, N, Y⟩ := X
  obtain ⟨hd, rfl⟩ := hd
  exact Wp.go (fun _ q => XS.lload Y.here hx rfl (hb hby hd) hl q) q
theorem w_aloadN (X : Pos Z a0 n0 p l e R s m args below meth c code ml ret y T h k j) {w : Fin 4} {v : Value} (hd : Dec code pc (.aload_n w) 1 nx) (hl : Ls[w.val]? = some (.val v)) (hv : v.isRef = true) (q : Wp n0 p e R s below Q T (mkF m nx Ls (v :: S))) : Wp n0 p e R s below Q T (mkF m pc Ls S) := by
  obtain ⟨hx, hZ, hby, hml, hret, hown, hnm, hlk, eT, hn0, hw, locs, N, Y⟩ := X
  obtain ⟨hd, rfl⟩ := hd
  exact Wp.go (fun _ q => XS.aloadN Y.here hx rfl (hb hby hd) hl hv q) q
theorem w_astoreN (X : Pos Z a0 n0 p l e R s m args below meth c code ml ret y T h k j) {w : Fin 4} {v : Value} {l' : Array Slot} (hd : Dec code pc (.astore_n w) 1 nx) (hv : v.isRef = true) (hl : storeLocals Ls w.val v = some l') (q : Wp n0 p e R s below Q T (mkF m nx l' S)) : Wp n0 p e R s below Q T (mkF m pc Ls (v :: S)) := by
  obtain ⟨hx, hZ, hby, hml, hret, hown, hnm, hlk, eT, hn0, hw, locs, N, Y⟩ := X
  obtain ⟨hd, rfl⟩ := hd
  exact Wp.go (fun _ q => XS.astoreN Y.here hx rfl (hb hby hd) rfl hv hl q) q
theorem w_istoreN (X : Pos Z a0 n0 p l e R s m args below meth c code ml ret y T h k j) {w : Fin 4} {v : Int32} {l' : Array Slot} (hd : Dec code pc (.istore_n w) 1 nx) (hl : storeLocals Ls w.val (.int v) = some l') (q : Wp n0 p e R s below Q T (mkF m nx l' S)) : Wp n0 p e R s below Q T (mkF m pc Ls (.int v :: S)) := by
  obtain ⟨hx, hZ, hby, hml, hret, hown, hnm, hlk, eT, hn0, hw, locs, N, Y⟩ := X
  obtain ⟨hd, rfl⟩ := hd
  exact Wp.go (fun _ q => XS.istoreN Y.here hx rfl (hb hby hd) rfl hl q) q
theorem w_istoreNE (X : Pos Z a0 n0 p l e R s m args below meth c code ml ret y T h k j) {w : Fin 4} {v : Int32} {l' : Int32 → Array Slot} (hd : Dec code pc (.istore_n w) 1 nx) (hl : ∀ z, storeLocals Ls w.val (.int z) = some (l' z)) (q : ∀ z, z = v → Wp n0 p e R s below Q T (mkF m nx (l' z) S)) : Wp n0 p e R s below Q T (mkF m pc Ls (.int v :: S)) := w_istoreN X hd (hl v) (q v rfl)
theorem w_lstoreN (X : Pos Z a0 n0 p l e R s m args below meth c code ml ret y T h k j) {w : Fin 4} {v : Int64} {l' : Array Slot} (hd : Dec code pc (.lstore_n w) 1 nx) (hl : storeLocals Ls w.val (.long v) = some l') (q : Wp n0 p e R s below Q T (mkF m nx l' S)) : Wp n0 p e R s below Q T (mkF m pc Ls (.long v :: S)) := by
  obtain ⟨hx, hZ, hby, hml, hret, hown, hnm, hlk, eT, hn0, hw, locs, N, Y⟩ := X
  obtain ⟨hd, rfl⟩ := hd
  exact Wp.go (fun _ q => XS.lstoreN Y.here hx rfl (hb hby hd) rfl hl q) q
theorem w_lstoreNE (X : Pos Z a0 n0 p l e R s m args below meth c code ml ret y T h k j) {w : Fin 4} {v : Int64} {l' : Int64 → Array Slot} (hd : Dec code pc (.lstore_n w) 1 nx) (hl : ∀ z, storeLocals Ls w.val (.long z) = some (l' z)) (q : ∀ z, z = v → Wp n0 p e R s below Q T (mkF m nx (l' z) S)) : Wp n0 p e R s below Q T (mkF m pc Ls (.long v :: S)) := w_lstoreN X hd (hl v) (q v rfl)
theorem w_aload (X : Pos Z a0 n0 p l e R s m args below meth c code ml ret y T h k j) {w : Nat} {v : Value} (hd : Dec code pc (.aload w) 2 nx) (hl : Ls[w]? = some (.val v)) (hv : v.isRef = true) (q : Wp n0 p e R s below Q T (mkF m nx Ls (v :: S))) : Wp n0 p e R s below Q T (mkF m pc Ls S) := by
  obtain ⟨hx, hZ, hby, hml, hret, hown, hnm, hlk, eT, hn0, hw, locs, N, Y⟩ := X
  obtain ⟨hd, rfl⟩ := hd
  exact Wp.go (fun _ q => XS.aload Y.here hx rfl (hb hby hd) hl hv q) q
theorem w_astore (X : Pos Z a0 n0 p l e R s m args below meth c code ml ret y T h k j) {w : Nat} {v : Value} {l' : Array Slot} (hd : Dec code pc (.astore w) 2 nx) (hv : v.isRef = true) (hl : storeLocals Ls w v = some l') (q : Wp n0 p e R s below Q T (mkF m nx l' S)) : Wp n0 p e R s below Q T (mkF m pc Ls (v :: S)) := by
  obtain ⟨hx, hZ, hby, hml, hret, hown, hnm, hlk, eT, hn0, hw, locs, N, Y⟩ := X
  obtain ⟨hd, rfl⟩ := hd
  exact Wp.go (fun _ q => XS.astore Y.here hx rfl (hb hby hd) rfl hv hl q) q
theorem w_istore (X : Pos Z a0 n0 p l e R s m args below meth c code ml ret y T h k j) {w : Nat} {v : Int32} {l' : Array Slot} (hd : Dec code pc (.istore w) 2 nx) (hl : storeLocals Ls w (.int v) = some l') (q : Wp n0 p e R s below Q T (mkF m nx l' S)) : Wp n0 p e R s below Q T (mkF m pc Ls (.int v :: S)) := by
  obtain ⟨hx, hZ, hby, hml, hret, hown, hnm, hlk, eT, hn0, hw, locs, N, Y⟩ := X
  obtain ⟨hd, rfl⟩ := hd
  exact Wp.go (fun _ q => XS.istore Y.here hx rfl (hb hby hd) rfl hl q) q
theorem w_istoreE (X : Pos Z a0 n0 p l e R s m args below meth c code ml ret y T h k j) {w : Nat} {v : Int32} {l' : Int32 → Array Slot} (hd : Dec code pc (.istore w) 2 nx) (hl : ∀ z, storeLocals Ls w (.int z) = some (l' z)) (q : ∀ z, z = v → Wp n0 p e R s below Q T (mkF m nx (l' z) S)) : Wp n0 p e R s below Q T (mkF m pc Ls (.int v :: S)) := w_istore X hd (hl v) (q v rfl)
theorem w_lstore (X : Pos Z a0 n0 p l e R s m args below meth c code ml ret y T h k j) {w : Nat} {v : Int64} {l' : Array Slot} (hd : Dec code pc (.lstore w) 2 nx) (hl : storeLocals Ls w (.long v) = some l') (q : Wp n0 p e R s below Q T (mkF m nx l' S)) : Wp n0 p e R s below Q T (mkF m pc Ls (.long v :: S)) := by
  obtain ⟨hx, hZ, hby, hml, hret, hown, hnm, hlk, eT, hn0, hw, locs, N, Y⟩ := X
  obtain ⟨hd, rfl⟩ := hd
  exact Wp.go (fun _ q => XS.lstore Y.here hx rfl (hb hby hd) rfl hl q) q
theorem w_lstoreE (X : Pos Z a0 n0 p l e R s m args below meth c code ml ret y T h k j) {w : Nat} {v : Int64} {l' : Int64 → Array Slot} (hd : Dec code pc (.lstore w) 2 nx) (hl : ∀ z, storeLocals Ls w (.long z) = some (l' z)) (q : ∀ z, z = v → Wp n0 p e R s below Q T (mkF m nx (l' z) S)) : Wp n0 p e R s below Q T (mkF m pc Ls (.long v :: S)) := w_lstore X hd (hl v) (q v rfl)
theorem w_istoreNS (X : Pos Z a0 n0 p l e R s m args below meth c code ml ret y T h k j) {w : Fin 4} {v : Int32} {l' : Array Slot} {o : Slot} (hd : Dec code pc (.istore_n w) 1 nx) (hold : Ls[w.val]? = some o) (ho : One o) (hl : Ls.setIfInBounds w.val (.val (.int v)) = l') (q : Wp n0 p e R s below Q T (mkF m nx l' S)) : Wp n0 p e R s below Q T (mkF m pc Ls (.int v :: S)) := w_istoreN X hd ((XS.store1 hold ho rfl).trans (congrArg some hl)) q
theorem w_istoreS (X : Pos Z a0 n0 p l e R s m args below meth c code ml ret y T h k j) {w : Nat} {v : Int32} {l' : Array Slot} {o : Slot} (hd : Dec code pc (.istore w) 2 nx) (hold : Ls[w]? = some o) (ho : One o) (hl : Ls.setIfInBounds w (.val (.int v)) = l') (q : Wp n0 p e R s below Q T (mkF m nx l' S)) : Wp n0 p e R s below Q T (mkF m pc Ls (.int v :: S)) := w_istore X hd ((XS.store1 hold ho rfl).trans (congrArg some hl)) q
theorem w_iinc (X : Pos Z a0 n0 p l e R s m args below meth c code ml ret y T h k j) {w : Nat} {i : Int} {d v r : Int32} {l' : Array Slot} (hd : Dec code pc (.iinc w i) 3 nx) (hl : Ls[w]? = some (.val (.int v))) (hi : Int32.ofInt i = d) (hr : v + d = r) (hl' : storeLocals Ls w (.int r) = some l') (q : Wp n0 p e R s below Q T (mkF m nx l' S)) : Wp n0 p e R s below Q T (mkF m pc Ls S) := by
  obtain ⟨hx, hZ, hby, hml, hret, hown, hnm, hlk, eT, hn0, hw, locs, N, Y⟩ := X
  obtain ⟨hd, rfl⟩ := hd
  subst hi hr
  exact Wp.go (fun _ q => XS.iinc Y.here hx rfl (hb hby hd) hl hl' q) q
theorem w_dup (X : Pos Z a0 n0 p l e R s m args below meth c code ml ret y T h k j) {v : Value} (hd : Dec code pc .dup 1 nx) (hv : v.category = 1) (q : Wp n0 p e R s below Q T (mkF m nx Ls (v :: v :: S))) : Wp n0 p e R s below Q T (mkF m pc Ls (v :: S)) := by
  obtain ⟨hx, hZ, hby, hml, hret, hown, hnm, hlk, eT, hn0, hw, locs, N, Y⟩ := X
  obtain ⟨hd, rfl⟩ := hd
  exact Wp.go (fun _ q => XS.dup Y.here hx rfl (hb hby hd) rfl hv q) q
theorem w_pop (X : Pos Z a0 n0 p l e R s m args below meth c code ml ret y T h k j) {v : Value} (hd : Dec code pc .pop 1 nx) (hv : v.category = 1) (q : Wp n0 p e R s below Q T (mkF m nx Ls S)) : Wp n0 p e R s below Q T (mkF m pc Ls (v :: S)) := by
  obtain ⟨hx, hZ, hby, hml, hret, hown, hnm, hlk, eT, hn0, hw, locs, N, Y⟩ := X
  obtain ⟨hd, rfl⟩ := hd
  exact Wp.go (fun _ q => XS.pop Y.here hx rfl (hb hby hd) rfl hv q) q
theorem w_dupX1 (X : Pos Z a0 n0 p l e R s m args below meth c code ml ret y T h k j) {v w : Value} (hd : Dec code pc .dup_x1 1 nx) (hv : v.category = 1) (hw' : w.category = 1) (q : Wp n0 p e R s below Q T (mkF m nx Ls (v :: w :: v :: S))) : Wp n0 p e R s below Q T (mkF m pc Ls (v :: w :: S)) := by
  obtain ⟨hx, hZ, hby, hml, hret, hown, hnm, hlk, eT, hn0, hw, locs, N, Y⟩ := X
  obtain ⟨hd, rfl⟩ := hd
  exact Wp.go (fun _ q => XS.dupX1 Y.here hx rfl (hb hby hd) rfl hv hw' q) q
theorem w_dup2 (X : Pos Z a0 n0 p l e R s m args below meth c code ml ret y T h k j) {v w : Value} (hd : Dec code pc .dup2 1 nx) (hv : v.category = 1) (hw' : w.category = 1) (q : Wp n0 p e R s below Q T (mkF m nx Ls (v :: w :: v :: w :: S))) : Wp n0 p e R s below Q T (mkF m pc Ls (v :: w :: S)) := by
  obtain ⟨hx, hZ, hby, hml, hret, hown, hnm, hlk, eT, hn0, hw, locs, N, Y⟩ := X
  obtain ⟨hd, rfl⟩ := hd
  exact Wp.go (fun _ q => Jvm.Free.XT.dup2 Y.here hx rfl (hb hby hd) rfl hv hw' q) q
theorem w_goto (X : Pos Z a0 n0 p l e R s m args below meth c code ml ret y T h k j) {o : Int} (hd : Jmp code pc (.goto o) o nx tgt) (q : Wp n0 p e R s below Q T (mkF m tgt Ls S)) : Wp n0 p e R s below Q T (mkF m pc Ls S) := by
  obtain ⟨hx, hZ, hby, hml, hret, hown, hnm, hlk, eT, hn0, hw, locs, N, Y⟩ := X
  obtain ⟨hd, -, ho, hp⟩ := hd
  exact Wp.go (fun _ q => XS.goto Y.here hx rfl (pc0 := pc) (pc' := tgt) rfl (hb hby hd) ho hp q) q
theorem w_icmpeq (X : Pos Z a0 n0 p l e R s m args below meth c code ml ret y T h k j) {x z : Int32} {o : Int} (hd : Jmp code pc (.if_icmp .eq o) o nx tgt) (qt : x = z → Wp n0 p e R s below Q T (mkF m tgt Ls S)) (qf : ¬ x = z → Wp n0 p e R s below Q T (mkF m nx Ls S)) : Wp n0 p e R s below Q T (mkF m pc Ls (.int z :: .int x :: S)) := by
  obtain ⟨hx, hZ, hby, hml, hret, hown, hnm, hlk, eT, hn0, hw, locs, N, Y⟩ := X
  obtain ⟨hd, rfl, ho, hp⟩ := hd
  by_cases hc : x = z
  · exact Wp.go (fun _ q => XS.icmpYes Y.here hx rfl (pc0 := pc) (pc' := tgt) rfl (hb hby hd) rfl (Jvm.Free.XT.ii_eq_t hc) ho hp q) (qt hc)
  · exact Wp.go (fun _ q => XS.icmpNo Y.here hx rfl (hb hby hd) rfl (Jvm.Free.XT.ii_eq_f hc) q) (qf hc)
theorem w_ifeq (X : Pos Z a0 n0 p l e R s m args below meth c code ml ret y T h k j) {x : Int32} {o : Int} (hd : Jmp code pc (.ifCond .eq o) o nx tgt) (qt : x = 0 → Wp n0 p e R s below Q T (mkF m tgt Ls S)) (qf : ¬ x = 0 → Wp n0 p e R s below Q T (mkF m nx Ls S)) : Wp n0 p e R s below Q T (mkF m pc Ls (.int x :: S)) := by
  obtain ⟨hx, hZ, hby, hml, hret, hown, hnm, hlk, eT, hn0, hw, locs, N, Y⟩ := X
  obtain ⟨hd, rfl, ho, hp⟩ := hd
  by_cases hc : x = 0
  · exact Wp.go (fun _ q => XS.ifYes Y.here hx rfl (pc0 := pc) (pc' := tgt) rfl (hb hby hd) rfl (Jvm.Free.XT.i0_eq_t hc) ho hp q) (qt hc)
  · exact Wp.go (fun _ q => XS.ifNo Y.here hx rfl (hb hby hd) rfl (Jvm.Free.XT.i0_eq_f hc) q) (qf hc)
theorem w_lcmpeq (X : Pos Z a0 n0 p l e R s m args below meth c code ml ret y T h k j) {x z : Int64} {o : Int} {mid : Nat} (hd0 : Dec code pc .lcmp 1 mid) (hd : Jmp code mid (.ifCond .eq o) o nx tgt) (qt : x = z → Wp n0 p e R s below Q T (mkF m tgt Ls S)) (qf : ¬ x = z → Wp n0 p e R s below Q T (mkF m nx Ls S)) : Wp n0 p e R s below Q T (mkF m pc Ls (.long z :: .long x :: S)) := by
  obtain ⟨hx, hZ, hby, hml, hret, hown, hnm, hlk, eT, hn0, hw, locs, N, Y⟩ := X
  obtain ⟨hd0, rfl⟩ := hd0
  obtain ⟨hd, rfl, ho, hp⟩ := hd
  refine Wp.go (fun _ q => Jvm.Free.XT.lcmp Y.here hx rfl (hb hby hd0) rfl q) ?_
  by_cases hc : x = z
  · exact Wp.go (fun _ q => XS.ifYes Y.here hx rfl (pc0 := pc + 1) (pc' := tgt) rfl (hb hby hd) rfl (Jvm.Free.XT.ll_eq_t hc) ho hp q) (qt hc)
  · exact Wp.go (fun _ q => XS.ifNo Y.here hx rfl (hb hby hd) rfl (Jvm.Free.XT.ll_eq_f hc) q) (qf hc)
theorem w_icmpne (X : Pos Z a0 n0 p l e R s m args below meth c code ml ret y T h k j) {x z : Int32} {o : Int} (hd : Jmp code pc (.if_icmp .ne o) o nx tgt) (qt : ¬ x = z → Wp n0 p e R s below Q T (mkF m tgt Ls S)) (qf : x = z → Wp n0 p e R s below Q T (mkF m nx Ls S)) : Wp n0 p e R s below Q T (mkF m pc Ls (.int z :: .int x :: S)) := by
  obtain ⟨hx, hZ, hby, hml, hret, hown, hnm, hlk, eT, hn0, hw, locs, N, Y⟩ := X
  obtain ⟨hd, rfl, ho, hp⟩ := hd
  by_cases hc : x = z
  · exact Wp.go (fun _ q => XS.icmpNo Y.here hx rfl (hb hby hd) rfl (Jvm.Free.XT.ii_ne_f hc) q) (qf hc)
  · exact Wp.go (fun _ q => XS.icmpYes Y.here hx rfl (pc0 := pc) (pc' := tgt) rfl (hb hby hd) rfl (Jvm.Free.XT.ii_ne_t hc) ho hp q) (qt hc)
theorem w_ifne (X : Pos Z a0 n0 p l e R s m args below meth c code ml ret y T h k j) {x : Int32} {o : Int} (hd : Jmp code pc (.ifCond .ne o) o nx tgt) (qt : ¬ x = 0 → Wp n0 p e R s below Q T (mkF m tgt Ls S)) (qf : x = 0 → Wp n0 p e R s below Q T (mkF m nx Ls S)) : Wp n0 p e R s below Q T (mkF m pc Ls (.int x :: S)) := by
  obtain ⟨hx, hZ, hby, hml, hret, hown, hnm, hlk, eT, hn0, hw, locs, N, Y⟩ := X
  obtain ⟨hd, rfl, ho, hp⟩ := hd
  by_cases hc : x = 0
  · exact Wp.go (fun _ q => XS.ifNo Y.here hx rfl (hb hby hd) rfl (Jvm.Free.XT.i0_ne_f hc) q) (qf hc)
  · exact Wp.go (fun _ q => XS.ifYes Y.here hx rfl (pc0 := pc) (pc' := tgt) rfl (hb hby hd) rfl (Jvm.Free.XT.i0_ne_t hc) ho hp q) (qt hc)
theorem w_lcmpne (X : Pos Z a0 n0 p l e R s m args below meth c code ml ret y T h k j) {x z : Int64} {o : Int} {mid : Nat} (hd0 : Dec code pc .lcmp 1 mid) (hd : Jmp code mid (.ifCond .ne o) o nx tgt) (qt : ¬ x = z → Wp n0 p e R s below Q T (mkF m tgt Ls S)) (qf : x = z → Wp n0 p e R s below Q T (mkF m nx Ls S)) : Wp n0 p e R s below Q T (mkF m pc Ls (.long z :: .long x :: S)) := by
  obtain ⟨hx, hZ, hby, hml, hret, hown, hnm, hlk, eT, hn0, hw, locs, N, Y⟩ := X
  obtain ⟨hd0, rfl⟩ := hd0
  obtain ⟨hd, rfl, ho, hp⟩ := hd
  refine Wp.go (fun _ q => Jvm.Free.XT.lcmp Y.here hx rfl (hb hby hd0) rfl q) ?_
  by_cases hc : x = z
  · exact Wp.go (fun _ q => XS.ifNo Y.here hx rfl (hb hby hd) rfl (Jvm.Free.XT.ll_ne_f hc) q) (qf hc)
  · exact Wp.go (fun _ q => XS.ifYes Y.here hx rfl (pc0 := pc + 1) (pc' := tgt) rfl (hb hby hd) rfl (Jvm.Free.XT.ll_ne_t hc) ho hp q) (qt hc)
theorem w_icmplt (X : Pos Z a0 n0 p l e R s m args below meth c code ml ret y T h k j) {x z : Int32} {o : Int} (hd : Jmp code pc (.if_icmp .lt o) o nx tgt) (qt : x < z → Wp n0 p e R s below Q T (mkF m tgt Ls S)) (qf : ¬ x < z → Wp n0 p e R s below Q T (mkF m nx Ls S)) : Wp n0 p e R s below Q T (mkF m pc Ls (.int z :: .int x :: S)) := by
  obtain ⟨hx, hZ, hby, hml, hret, hown, hnm, hlk, eT, hn0, hw, locs, N, Y⟩ := X
  obtain ⟨hd, rfl, ho, hp⟩ := hd
  by_cases hc : x < z
  · exact Wp.go (fun _ q => XS.icmpYes Y.here hx rfl (pc0 := pc) (pc' := tgt) rfl (hb hby hd) rfl (Jvm.Free.XT.ii_lt_t hc) ho hp q) (qt hc)
  · exact Wp.go (fun _ q => XS.icmpNo Y.here hx rfl (hb hby hd) rfl (Jvm.Free.XT.ii_lt_f hc) q) (qf hc)
theorem w_iflt (X : Pos Z a0 n0 p l e R s m args below meth c code ml ret y T h k j) {x : Int32} {o : Int} (hd : Jmp code pc (.ifCond .lt o) o nx tgt) (qt : x < 0 → Wp n0 p e R s below Q T (mkF m tgt Ls S)) (qf : ¬ x < 0 → Wp n0 p e R s below Q T (mkF m nx Ls S)) : Wp n0 p e R s below Q T (mkF m pc Ls (.int x :: S)) := by
  obtain ⟨hx, hZ, hby, hml, hret, hown, hnm, hlk, eT, hn0, hw, locs, N, Y⟩ := X
  obtain ⟨hd, rfl, ho, hp⟩ := hd
  by_cases hc : x < 0
  · exact Wp.go (fun _ q => XS.ifYes Y.here hx rfl (pc0 := pc) (pc' := tgt) rfl (hb hby hd) rfl (Jvm.Free.XT.i0_lt_t hc) ho hp q) (qt hc)
  · exact Wp.go (fun _ q => XS.ifNo Y.here hx rfl (hb hby hd) rfl (Jvm.Free.XT.i0_lt_f hc) q) (qf hc)
theorem w_lcmplt (X : Pos Z a0 n0 p l e R s m args below meth c code ml ret y T h k j) {x z : Int64} {o : Int} {mid : Nat} (hd0 : Dec code pc .lcmp 1 mid) (hd : Jmp code mid (.ifCond .lt o) o nx tgt) (qt : x < z → Wp n0 p e R s below Q T (mkF m tgt Ls S)) (qf : ¬ x < z → Wp n0 p e R s below Q T (mkF m nx Ls S)) : Wp n0 p e R s below Q T (mkF m pc Ls (.long z :: .long x :: S)) := by
  obtain ⟨hx, hZ, hby, hml, hret, hown, hnm, hlk, eT, hn0, hw, locs, N, Y⟩ := X
  obtain ⟨hd0, rfl⟩ := hd0
  obtain ⟨hd, rfl, ho, hp⟩ := hd
  refine Wp.go (fun _ q => Jvm.Free.XT.lcmp Y.here hx rfl (hb hby hd0) rfl q) ?_
  by_cases hc : x < z
  · exact Wp.go (fun _ q => XS.ifYes Y.here hx rfl (pc0 := pc + 1) (pc' := tgt) rfl (hb hby hd) rfl (Jvm.Free.XT.ll_lt_t hc) ho hp q) (qt hc)
  · exact Wp.go (fun _ q => XS.ifNo Y.here hx rfl (hb hby hd) rfl (Jvm.Free.XT.ll_lt_f hc) q) (qf hc)
theorem w_icmpge (X : Pos Z a0 n0 p l e R s m args below meth c code ml ret y T h k j) {x z : Int32} {o : Int} (hd : Jmp code pc (.if_icmp .ge o) o nx tgt) (qt : ¬ x < z → Wp n0 p e R s below Q T (mkF m tgt Ls S)) (qf : x < z → Wp n0 p e R s below Q T (mkF m nx Ls S)) : Wp n0 p e R s below Q T (mkF m pc Ls (.int z :: .int x :: S)) := by
  obtain ⟨hx, hZ, hby, hml, hret, hown, hnm, hlk, eT, hn0, hw, locs, N, Y⟩ := X
  obtain ⟨hd, rfl, ho, hp⟩ := hd
  by_cases hc : x < z
  · exact Wp.go (fun _ q => XS.icmpNo Y.here hx rfl (hb hby hd) rfl (Jvm.Free.XT.ii_ge_f hc) q) (qf hc)
  · exact Wp.go (fun _ q => XS.icmpYes Y.here hx rfl (pc0 := pc) (pc' := tgt) rfl (hb hby hd) rfl (Jvm.Free.XT.ii_ge_t hc) ho hp q) (qt hc)
theorem w_ifge (X : Pos Z a0 n0 p l e R s m args below meth c code ml ret y T h k j) {x : Int32} {o : Int} (hd : Jmp code pc (.ifCond .ge o) o nx tgt) (qt : ¬ x < 0 → Wp n0 p e R s below Q T (mkF m tgt Ls S)) (qf : x < 0 → Wp n0 p e R s below Q T (mkF m nx Ls S)) : Wp n0 p e R s below Q T (mkF m pc Ls (.int x :: S)) := by
  obtain ⟨hx, hZ, hby, hml, hret, hown, hnm, hlk, eT, hn0, hw, locs, N, Y⟩ := X
  obtain ⟨hd, rfl, ho, hp⟩ := hd
  by_cases hc : x < 0
  · exact Wp.go (fun _ q => XS.ifNo Y.here hx rfl (hb hby hd) rfl (Jvm.Free.XT.i0_ge_f hc) q) (qf hc)
  · exact Wp.go (fun _ q => XS.ifYes Y.here hx rfl (pc0 := pc) (pc' := tgt) rfl (hb hby hd) rfl (Jvm.Free.XT.i0_ge_t hc) ho hp q) (qt hc)
theorem w_lcmpge (X : Pos Z a0 n0 p l e R s m args below meth c code ml ret y T h k j) {x z : Int64} {o : Int} {mid : Nat} (hd0 : Dec code pc .lcmp 1 mid) (hd : Jmp code mid (.ifCond .ge o) o nx tgt) (qt : ¬ x < z → Wp n0 p e R s below Q T (mkF m tgt Ls S)) (qf : x < z → Wp n0 p e R s below Q T (mkF m nx Ls S)) : Wp n0 p e R s below Q T (mkF m pc Ls (.long z :: .long x :: S)) := by
  obtain ⟨hx, hZ, hby, hml, hret, hown, hnm, hlk, eT, hn0, hw, locs, N, Y⟩ := X
  obtain ⟨hd0, rfl⟩ := hd0
  obtain ⟨hd, rfl, ho, hp⟩ := hd
  refine Wp.go (fun _ q => Jvm.Free.XT.lcmp Y.here hx rfl (hb hby hd0) rfl q) ?_
  by_cases hc : x < z
  · exact Wp.go (fun _ q => XS.ifNo Y.here hx rfl (hb hby hd) rfl (Jvm.Free.XT.ll_ge_f hc) q) (qf hc)
  · exact Wp.go (fun _ q => XS.ifYes Y.here hx rfl (pc0 := pc + 1) (pc' := tgt) rfl (hb hby hd) rfl (Jvm.Free.XT.ll_ge_t hc) ho hp q) (qt hc)
theorem w_icmpgt (X : Pos Z a0 n0 p l e R s m args below meth c code ml ret y T h k j) {x z : Int32} {o : Int} (hd : Jmp code pc (.if_icmp .gt o) o nx tgt) (qt : z < x → Wp n0 p e R s below Q T (mkF m tgt Ls S)) (qf : ¬ z < x → Wp n0 p e R s below Q T (mkF m nx Ls S)) : Wp n0 p e R s below Q T (mkF m pc Ls (.int z :: .int x :: S)) := by
  obtain ⟨hx, hZ, hby, hml, hret, hown, hnm, hlk, eT, hn0, hw, locs, N, Y⟩ := X
  obtain ⟨hd, rfl, ho, hp⟩ := hd
  by_cases hc : z < x
  · exact Wp.go (fun _ q => XS.icmpYes Y.here hx rfl (pc0 := pc) (pc' := tgt) rfl (hb hby hd) rfl (Jvm.Free.XT.ii_gt_t hc) ho hp q) (qt hc)
  · exact Wp.go (fun _ q => XS.icmpNo Y.here hx rfl (hb hby hd) rfl (Jvm.Free.XT.ii_gt_f hc) q) (qf hc)
theorem w_ifgt (X : Pos Z a0 n0 p l e R s m args below meth c code ml ret y T h k j) {x : Int32} {o : Int} (hd : Jmp code pc (.ifCond .gt o) o nx tgt) (qt : 0 < x → Wp n0 p e R s below Q T (mkF m tgt Ls S)) (qf : ¬ 0 < x → Wp n0 p e R s below Q T (mkF m nx Ls S)) : Wp n0 p e R s below Q T (mkF m pc Ls (.int x :: S)) := by
  obtain ⟨hx, hZ, hby, hml, hret, hown, hnm, hlk, eT, hn0, hw, locs, N, Y⟩ := X
  obtain ⟨hd, rfl, ho, hp⟩ := hd
  by_cases hc : 0 < x
  · exact Wp.go (fun _ q => XS.ifYes Y.here hx rfl (pc0 := pc) (pc' := tgt) rfl (hb hby hd) rfl (Jvm.Free.XT.i0_gt_t hc) ho hp q) (qt hc)
  · exact Wp.go (fun _ q => XS.ifNo Y.here hx rfl (hb hby hd) rfl (Jvm.Free.XT.i0_gt_f hc) q) (qf hc)
theorem w_lcmpgt (X : Pos Z a0 n0 p l e R s m args below meth c code ml ret y T h k j) {x z : Int64} {o : Int} {mid : Nat} (hd0 : Dec code pc .lcmp 1 mid) (hd : Jmp code mid (.ifCond .gt o) o nx tgt) (qt : z < x → Wp n0 p e R s below Q T (mkF m tgt Ls S)) (qf : ¬ z < x → Wp n0 p e R s below Q T (mkF m nx Ls S)) : Wp n0 p e R s below Q T (mkF m pc Ls (.long z :: .long x :: S)) := by
  obtain ⟨hx, hZ, hby, hml, hret, hown, hnm, hlk, eT, hn0, hw, locs, N, Y⟩ := X
  obtain ⟨hd0, rfl⟩ := hd0
  obtain ⟨hd, rfl, ho, hp⟩ := hd
  refine Wp.go (fun _ q => Jvm.Free.XT.lcmp Y.here hx rfl (hb hby hd0) rfl q) ?_
  by_cases hc : z < x
  · exact Wp.go (fun _ q => XS.ifYes Y.here hx rfl (pc0 := pc + 1) (pc' := tgt) rfl (hb hby hd) rfl (Jvm.Free.XT.ll_gt_t hc) ho hp q) (qt hc)
  · exact Wp.go (fun _ q => XS.ifNo Y.here hx rfl (hb hby hd) rfl (Jvm.Free.XT.ll_gt_f hc) q) (qf hc)
theorem w_icmple (X : Pos Z a0 n0 p l e R s m args below meth c code ml ret y T h k j) {x z : Int32} {o : Int} (hd : Jmp code pc (.if_icmp .le o) o nx tgt) (qt : ¬ z < x → Wp n0 p e R s below Q T (mkF m tgt Ls S)) (qf : z < x → Wp n0 p e R s below Q T (mkF m nx Ls S)) : Wp n0 p e R s below Q T (mkF m pc Ls (.int z :: .int x :: S)) := by
  obtain ⟨hx, hZ, hby, hml, hret, hown, hnm, hlk, eT, hn0, hw, locs, N, Y⟩ := X
  obtain ⟨hd, rfl, ho, hp⟩ := hd
  by_cases hc : z < x
  · exact Wp.go (fun _ q => XS.icmpNo Y.here hx rfl (hb hby hd) rfl (Jvm.Free.XT.ii_le_f hc) q) (qf hc)
  · exact Wp.go (fun _ q => XS.icmpYes Y.here hx rfl (pc0 := pc) (pc' := tgt) rfl (hb hby hd) rfl (Jvm.Free.XT.ii_le_t hc) ho hp q) (qt hc)
theorem w_ifle (X : Pos Z a0 n0 p l e R s m args below meth c code ml ret y T h k j) {x : Int32} {o : Int} (hd : Jmp code pc (.ifCond .le o) o nx tgt) (qt : ¬ 0 < x → Wp n0 p e R s below Q T (mkF m tgt Ls S)) (qf : 0 < x → Wp n0 p e R s below Q T (mkF m nx Ls S)) : Wp n0 p e R s below Q T (mkF m pc Ls (.int x :: S)) := by
  obtain ⟨hx, hZ, hby, hml, hret, hown, hnm, hlk, eT, hn0, hw, locs, N, Y⟩ := X
  obtain ⟨hd, rfl, ho, hp⟩ := hd
  by_cases hc : 0 < x
  · exact Wp.go (fun _ q => XS.ifNo Y.here hx rfl (hb hby hd) rfl (Jvm.Free.XT.i0_le_f hc) q) (qf hc)
  · exact Wp.go (fun _ q => XS.ifYes Y.here hx rfl (pc0 := pc) (pc' := tgt) rfl (hb hby hd) rfl (Jvm.Free.XT.i0_le_t hc) ho hp q) (qt hc)
theorem w_lcmple (X : Pos Z a0 n0 p l e R s m args below meth c code ml ret y T h k j) {x z : Int64} {o : Int} {mid : Nat} (hd0 : Dec code pc .lcmp 1 mid) (hd : Jmp code mid (.ifCond .le o) o nx tgt) (qt : ¬ z < x → Wp n0 p e R s below Q T (mkF m tgt Ls S)) (qf : z < x → Wp n0 p e R s below Q T (mkF m nx Ls S)) : Wp n0 p e R s below Q T (mkF m pc Ls (.long z :: .long x :: S)) := by
  obtain ⟨hx, hZ, hby, hml, hret, hown, hnm, hlk, eT, hn0, hw, locs, N, Y⟩ := X
  obtain ⟨hd0, rfl⟩ := hd0
  obtain ⟨hd, rfl, ho, hp⟩ := hd
  refine Wp.go (fun _ q => Jvm.Free.XT.lcmp Y.here hx rfl (hb hby hd0) rfl q) ?_
  by_cases hc : z < x
  · exact Wp.go (fun _ q => XS.ifNo Y.here hx rfl (hb hby hd) rfl (Jvm.Free.XT.ll_le_f hc) q) (qf hc)
  · exact Wp.go (fun _ q => XS.ifYes Y.here hx rfl (pc0 := pc + 1) (pc' := tgt) rfl (hb hby hd) rfl (Jvm.Free.XT.ll_le_t hc) ho hp q) (qt hc)
theorem w_ldc (X : Pos Z a0 n0 p l e R s m args below meth c code ml ret y T h k j) {i : Nat} {v : Int32} (hd : Dec code pc (.ldc i) 2 nx) (wc : (Jvm.Cond.constant y.cls i v).before a0 Z = true) (q : Wp n0 p e R s below Q T (mkF m nx Ls (.int v :: S))) : Wp n0 p e R s below Q T (mkF m pc Ls S) := by
  obtain ⟨hx, hZ, hby, hml, hret, hown, hnm, hlk, eT, hn0, hw, locs, N, Y⟩ := X
  obtain ⟨hd, rfl⟩ := hd
  exact Wp.go (Y.ldcInt hx hown (mvT hZ wc) rfl (hb hby hd)) q
theorem w_ldc2 (X : Pos Z a0 n0 p l e R s m args below meth c code ml ret y T h k j) {i : Nat} {v : Int64} (hd : Dec code pc (.ldc2_w i) 3 nx) (wc : (Jvm.Cond.constantLong y.cls i v).before a0 Z = true) (q : Wp n0 p e R s below Q T (mkF m nx Ls (.long v :: S))) : Wp n0 p e R s below Q T (mkF m pc Ls S) := by
  obtain ⟨hx, hZ, hby, hml, hret, hown, hnm, hlk, eT, hn0, hw, locs, N, Y⟩ := X
  obtain ⟨hd, rfl⟩ := hd
  exact Wp.go (Y.ldc2Long hx hown (mvT hZ wc) rfl (hb hby hd)) q
theorem w_ldcw (X : Pos Z a0 n0 p l e R s m args below meth c code ml ret y T h k j) {i : Nat} {v : Int32} (hd : Dec code pc (.ldc_w i) 3 nx) (wc : (Jvm.Cond.constant y.cls i v).before a0 Z = true) (q : Wp n0 p e R s below Q T (mkF m nx Ls (.int v :: S))) : Wp n0 p e R s below Q T (mkF m pc Ls S) := by
  obtain ⟨hx, hZ, hby, hml, hret, hown, hnm, hlk, eT, hn0, hw, locs, N, Y⟩ := X
  obtain ⟨hd, rfl⟩ := hd
  exact Wp.go (Y.ldcwInt hx hown (mvT hZ wc) rfl (hb hby hd)) q
theorem w_wiinc (X : Pos Z a0 n0 p l e R s m args below meth c code ml ret y T h k j) {w : Nat} {i : Int} {d v r : Int32} {l' : Array Slot} (hd : Dec code pc (.iinc w i) 6 nx) (hl : Ls[w]? = some (.val (.int v))) (hi : Int32.ofInt i = d) (hr : v + d = r) (hl' : storeLocals Ls w (.int r) = some l') (q : Wp n0 p e R s below Q T (mkF m nx l' S)) : Wp n0 p e R s below Q T (mkF m pc Ls S) := by
  obtain ⟨hx, hZ, hby, hml, hret, hown, hnm, hlk, eT, hn0, hw, locs, N, Y⟩ := X
  obtain ⟨hd, rfl⟩ := hd
  subst hi hr
  refine Wp.go (fun _ q => ?_) q
  have hd' := hb hby hd
  have h := Y.here
  jvm_step h [h.top, hx, hd', hl, hl']
  exact q
theorem w_ireturn (X : Pos Z a0 n0 p l e R s m args below meth c code ml (some .int) y T h k j) {z : Int32} (hd : Dec code pc .ireturn 1 nx) (hk : k ≤ R.cells) (hj : j ≤ R.slots) (hq : Q (some (.int z)) h) : Wp n0 p e R s below Q T (mkF m pc Ls (.int z :: S)) := by
  obtain ⟨hx, hZ, hby, hml, hret, hown, hnm, hlk, eT, hn0, hw, locs, N, Y⟩ := X
  obtain ⟨hd, -⟩ := hd
  obtain ⟨fs, hr, hrun, hended, hW, hsame⟩ := Y.leave (v := (some (.int z))) (fun h => by rw [hret] at h; cases h) hlk
  exact ⟨_, _, retI Y hx hret (hb hby hd) hr, hrun, hended, _, _, rfl, ⟨N, by show n0 ≤ T.heap.size; rw [eT]; exact hn0, by show Q _ T.heap; rw [eT]; exact hq⟩, ⟨_, rfl⟩, hW, hsame.mono hk hj⟩
theorem w_breturn (X : Pos Z a0 n0 p l e R s m args below meth c code ml (some .byte) y T h k j) {z : Int32} (hd : Dec code pc .ireturn 1 nx) (hk : k ≤ R.cells) (hj : j ≤ R.slots) (hq : Q (some (.int (nar .byte z))) h) : Wp n0 p e R s below Q T (mkF m pc Ls (.int z :: S)) := by
  obtain ⟨hx, hZ, hby, hml, hret, hown, hnm, hlk, eT, hn0, hw, locs, N, Y⟩ := X
  obtain ⟨hd, -⟩ := hd
  obtain ⟨fs, hr, hrun, hended, hW, hsame⟩ := Y.leave (v := (some (.int (nar .byte z)))) (fun h => by rw [hret] at h; cases h) hlk
  exact ⟨_, _, retN Y hx (t := .byte) hret (by simp) (hb hby hd) hr, hrun, hended, _, _, rfl, ⟨N, by show n0 ≤ T.heap.size; rw [eT]; exact hn0, by show Q _ T.heap; rw [eT]; exact hq⟩, ⟨_, rfl⟩, hW, hsame.mono hk hj⟩
theorem w_zreturn (X : Pos Z a0 n0 p l e R s m args below meth c code ml (some .boolean) y T h k j) {z : Int32} (hd : Dec code pc .ireturn 1 nx) (hk : k ≤ R.cells) (hj : j ≤ R.slots) (hq : Q (some (.int (nar .boolean z))) h) : Wp n0 p e R s below Q T (mkF m pc Ls (.int z :: S)) := by
  obtain ⟨hx, hZ, hby, hml, hret, hown, hnm, hlk, eT, hn0, hw, locs, N, Y⟩ := X
  obtain ⟨hd, -⟩ := hd
  obtain ⟨fs, hr, hrun, hended, hW, hsame⟩ := Y.leave (v := (some (.int (nar .boolean z)))) (fun h => by rw [hret] at h; cases h) hlk
  exact ⟨_, _, retN Y hx (t := .boolean) hret (by simp) (hb hby hd) hr, hrun, hended, _, _, rfl, ⟨N, by show n0 ≤ T.heap.size; rw [eT]; exact hn0, by show Q _ T.heap; rw [eT]; exact hq⟩, ⟨_, rfl⟩, hW, hsame.mono hk hj⟩
theorem w_lreturn (X : Pos Z a0 n0 p l e R s m args below meth c code ml (some .long) y T h k j) {z : Int64} (hd : Dec code pc .lreturn 1 nx) (hk : k ≤ R.cells) (hj : j ≤ R.slots) (hq : Q (some (.long z)) h) : Wp n0 p e R s below Q T (mkF m pc Ls [.long z]) := by
  obtain ⟨hx, hZ, hby, hml, hret, hown, hnm, hlk, eT, hn0, hw, locs, N, Y⟩ := X
  obtain ⟨hd, -⟩ := hd
  obtain ⟨fs, hr, hrun, hended, hW, hsame⟩ := Y.leave (v := (some (.long z))) (fun h => by rw [hret] at h; cases h) hlk
  exact ⟨_, _, Y.lreturnOut hx hret (hb hby hd) hr, hrun, hended, _, _, rfl, ⟨N, by show n0 ≤ T.heap.size; rw [eT]; exact hn0, by show Q _ T.heap; rw [eT]; exact hq⟩, ⟨_, rfl⟩, hW, hsame.mono hk hj⟩
theorem w_return (X : Pos Z a0 n0 p l e R s m args below meth c code ml none y T h k j)  (hd : Dec code pc .return_ 1 nx) (hk : k ≤ R.cells) (hj : j ≤ R.slots) (hq : Q none h) : Wp n0 p e R s below Q T (mkF m pc Ls []) := by
  obtain ⟨hx, hZ, hby, hml, hret, hown, hnm, hlk, eT, hn0, hw, locs, N, Y⟩ := X
  obtain ⟨hd, -⟩ := hd
  obtain ⟨fs, hr, hrun, hended, hW, hsame⟩ := Y.leave (v := none) (fun _ => rfl) hlk
  exact ⟨_, _, Y.returnOut hx hret (hb hby hd) hr, hrun, hended, _, _, rfl, ⟨N, by show n0 ≤ T.heap.size; rw [eT]; exact hn0, by show Q _ T.heap; rw [eT]; exact hq⟩, ⟨_, rfl⟩, hW, hsame.mono hk hj⟩
theorem w_arraylength (X : Pos Z a0 n0 p l e R s m args below meth c code ml ret y T h k j) {a : Addr} {ty : FieldType} {n : Nat} {g : Nat → Value} (hd : Dec code pc .arraylength 1 nx) (B : Ba Z n0 h a ty n g) (q : Wp n0 p e R s below Q T (mkF m nx Ls (.int (Int32.ofNat n) :: S))) : Wp n0 p e R s below Q T (mkF m pc Ls (.ref a :: S)) := by
  obtain ⟨hx, hZ, hby, hml, hret, hown, hnm, hlk, eT, hn0, hw, locs, N, Y⟩ := X
  obtain ⟨hd, rfl⟩ := hd
  obtain ⟨-, hn, cl, A, hs, -⟩ := B
  subst hs
  exact Wp.go (fun _ q => Y.arraylength hx (g := mkF m pc Ls (.ref a :: S)) (cell := cl) (by rw [eT]; exact A.1) (State.isArrayOf_alike hZ.alike A.2.1) rfl rfl (hb hby hd) _ q) q
theorem w_baload (X : Pos Z a0 n0 p l e R s m args below meth c code ml ret y T h k j) {a : Addr} {n : Nat} {b : Nat → Int32} {x : Int32} (hd : Dec code pc .baload 1 nx) (B : Ba Z n0 h a .byte n (bI b)) (i : Nat) (hi : x = Int32.ofNat i) (hlt : i < n) (q : Wp n0 p e R s below Q T (mkF m nx Ls (.int (b i) :: S))) : Wp n0 p e R s below Q T (mkF m pc Ls (.int x :: .ref a :: S)) := by
  obtain ⟨hx, hZ, hby, hml, hret, hown, hnm, hlk, eT, hn0, hw, locs, N, Y⟩ := X
  obtain ⟨hd, rfl⟩ := hd
  obtain ⟨-, hn, cl, A, hs, hv⟩ := B
  subst hi
  exact Wp.go (fun _ q => Y.baloadBytes hx (g := mkF m pc Ls (.int (Int32.ofNat i) :: .ref a :: S)) (j := Int32.ofNat i) (v := .int (b i)) (by rw [eT]; exact A.1) (State.isArrayOf_alike hZ.alike A.2.1) A.2.2 (inb hn hs hlt) (by rw [ofNat_clamp (by omega)]; exact hv i hlt) rfl rfl (hb hby hd) _ q) q
theorem w_iaload (X : Pos Z a0 n0 p l e R s m args below meth c code ml ret y T h k j) {a : Addr} {n : Nat} {b : Nat → Int32} {x : Int32} (hd : Dec code pc .iaload 1 nx) (B : Ba Z n0 h a .int n (bI b)) (i : Nat) (hi : x = Int32.ofNat i) (hlt : i < n) (q : Wp n0 p e R s below Q T (mkF m nx Ls (.int (b i) :: S))) : Wp n0 p e R s below Q T (mkF m pc Ls (.int x :: .ref a :: S)) := by
  obtain ⟨hx, hZ, hby, hml, hret, hown, hnm, hlk, eT, hn0, hw, locs, N, Y⟩ := X
  obtain ⟨hd, rfl⟩ := hd
  obtain ⟨-, hn, cl, A, hs, hv⟩ := B
  subst hi
  exact Wp.go (fun _ q => Y.iaload hx (g := mkF m pc Ls (.int (Int32.ofNat i) :: .ref a :: S)) (j := Int32.ofNat i) (v := .int (b i)) (by rw [eT]; exact A.1) (State.isArrayOf_alike hZ.alike A.2.1) A.2.2 (inb hn hs hlt) (by rw [ofNat_clamp (by omega)]; exact hv i hlt) rfl rfl (hb hby hd) _ q) q
theorem w_laload (X : Pos Z a0 n0 p l e R s m args below meth c code ml ret y T h k j) {a : Addr} {n : Nat} {b : Nat → Int64} {x : Int32} (hd : Dec code pc .laload 1 nx) (B : Ba Z n0 h a .long n (bJ b)) (i : Nat) (hi : x = Int32.ofNat i) (hlt : i < n) (q : Wp n0 p e R s below Q T (mkF m nx Ls (.long (b i) :: S))) : Wp n0 p e R s below Q T (mkF m pc Ls (.int x :: .ref a :: S)) := by
  obtain ⟨hx, hZ, hby, hml, hret, hown, hnm, hlk, eT, hn0, hw, locs, N, Y⟩ := X
  obtain ⟨hd, rfl⟩ := hd
  obtain ⟨-, hn, cl, A, hs, hv⟩ := B
  subst hi
  exact Wp.go (fun _ q => Y.laload hx (g := mkF m pc Ls (.int (Int32.ofNat i) :: .ref a :: S)) (j := Int32.ofNat i) (v := .long (b i)) (by rw [eT]; exact A.1) (State.isArrayOf_alike hZ.alike A.2.1) A.2.2 (inb hn hs hlt) (by rw [ofNat_clamp (by omega)]; exact hv i hlt) rfl rfl (hb hby hd) _ q) q
theorem w_bastore (X : Pos Z a0 n0 p l e R s m args below meth c code ml ret y T h k j) {a : Addr} {n : Nat} {b : Nat → Int32} {x : Int32} {v : Int32} (hd : Dec code pc .bastore 1 nx) (B : Ba Z n0 h a .byte n (bI b)) (i : Nat) (hi : x = Int32.ofNat i) (hlt : i < n)
    (q : ∀ T' h', Pos Z a0 n0 p l e R s m args below meth c code ml ret y T' h' k j → Keep h h' [a] → Ba Z n0 h' a .byte n (bI (upd b i (jbyte v))) → Wp n0 p e R s below Q T' (mkF m nx Ls S)) : Wp n0 p e R s below Q T (mkF m pc Ls (.int v :: .int x :: .ref a :: S)) := by
  obtain ⟨hx, hZ, hby, hml, hret, hown, hnm, hlk, eT, hn0, hw, locs, N, Y⟩ := X
  obtain ⟨hd, rfl⟩ := hd
  obtain ⟨hna, hn, cl, A, hs, hv⟩ := B
  subst hi
  obtain ⟨T', h', Y', e', W', st⟩ := stB Y hx hZ eT A (j := Int32.ofNat i) (inb hn hs hlt) (g := mkF m pc Ls (.int v :: .int (Int32.ofNat i) :: .ref a :: S)) rfl rfl (hb hby hd)
  refine Wp.go st (q T' h' ⟨hx, hZ, hby, hml, hret, hown, hnm, hlk, e', by rw [W'.size]; exact hn0, hw, _, Fr.snoc Y' N hna, Y'⟩ (Keep.of_wr W') ⟨hna, hn, _, A.same W', (sz_set _ _ _).trans hs, fun q hq => ?_⟩)
  rw [ofNat_clamp (by omega)]
  by_cases hqi : q = i
  · subst hqi
    simp [Cell.setSlot, hs, hq, upd, bI, nar]
  · simp [Cell.setSlot, upd, hqi, bI, Array.getElem?_setIfInBounds_ne (Ne.symm hqi), hv q hq]
theorem w_iastore (X : Pos Z a0 n0 p l e R s m args below meth c code ml ret y T h k j) {a : Addr} {n : Nat} {b : Nat → Int32} {x : Int32} {v : Int32} (hd : Dec code pc .iastore 1 nx) (B : Ba Z n0 h a .int n (bI b)) (i : Nat) (hi : x = Int32.ofNat i) (hlt : i < n)
    (q : ∀ T' h', Pos Z a0 n0 p l e R s m args below meth c code ml ret y T' h' k j → Keep h h' [a] → Ba Z n0 h' a .int n (bI (upd b i (v))) → Wp n0 p e R s below Q T' (mkF m nx Ls S)) : Wp n0 p e R s below Q T (mkF m pc Ls (.int v :: .int x :: .ref a :: S)) := by
  obtain ⟨hx, hZ, hby, hml, hret, hown, hnm, hlk, eT, hn0, hw, locs, N, Y⟩ := X
  obtain ⟨hd, rfl⟩ := hd
  obtain ⟨hna, hn, cl, A, hs, hv⟩ := B
  subst hi
  obtain ⟨T', h', Y', e', W', st⟩ := stI Y hx hZ eT A (j := Int32.ofNat i) (inb hn hs hlt) (g := mkF m pc Ls (.int v :: .int (Int32.ofNat i) :: .ref a :: S)) rfl rfl (hb hby hd)
  refine Wp.go st (q T' h' ⟨hx, hZ, hby, hml, hret, hown, hnm, hlk, e', by rw [W'.size]; exact hn0, hw, _, Fr.snoc Y' N hna, Y'⟩ (Keep.of_wr W') ⟨hna, hn, _, A.same W', (sz_set _ _ _).trans hs, fun q hq => ?_⟩)
  rw [ofNat_clamp (by omega)]
  by_cases hqi : q = i
  · subst hqi
    simp [Cell.setSlot, hs, hq, upd, bI]
  · simp [Cell.setSlot, upd, hqi, bI, Array.getElem?_setIfInBounds_ne (Ne.symm hqi), hv q hq]
theorem w_lastore (X : Pos Z a0 n0 p l e R s m args below meth c code ml ret y T h k j) {a : Addr} {n : Nat} {b : Nat → Int64} {x : Int32} {v : Int64} (hd : Dec code pc .lastore 1 nx) (B : Ba Z n0 h a .long n (bJ b)) (i : Nat) (hi : x = Int32.ofNat i) (hlt : i < n)
    (q : ∀ T' h', Pos Z a0 n0 p l e R s m args below meth c code ml ret y T' h' k j → Keep h h' [a] → Ba Z n0 h' a .long n (bJ (upd b i (v))) → Wp n0 p e R s below Q T' (mkF m nx Ls S)) : Wp n0 p e R s below Q T (mkF m pc Ls (.long v :: .int x :: .ref a :: S)) := by
  obtain ⟨hx, hZ, hby, hml, hret, hown, hnm, hlk, eT, hn0, hw, locs, N, Y⟩ := X
  obtain ⟨hd, rfl⟩ := hd
  obtain ⟨hna, hn, cl, A, hs, hv⟩ := B
  subst hi
  obtain ⟨T', h', Y', e', W', st⟩ := stJ Y hx hZ eT A (j := Int32.ofNat i) (inb hn hs hlt) (g := mkF m pc Ls (.long v :: .int (Int32.ofNat i) :: .ref a :: S)) rfl rfl (hb hby hd)
  refine Wp.go st (q T' h' ⟨hx, hZ, hby, hml, hret, hown, hnm, hlk, e', by rw [W'.size]; exact hn0, hw, _, Fr.snoc Y' N hna, Y'⟩ (Keep.of_wr W') ⟨hna, hn, _, A.same W', (sz_set _ _ _).trans hs, fun q hq => ?_⟩)
  rw [ofNat_clamp (by omega)]
  by_cases hqi : q = i
  · subst hqi
    simp [Cell.setSlot, hs, hq, upd, bJ]
  · simp [Cell.setSlot, upd, hqi, bJ, Array.getElem?_setIfInBounds_ne (Ne.symm hqi), hv q hq]
theorem w_newB (X : Pos Z a0 n0 p l e R s m args below meth c code ml ret y T h k j) {x : Int32} (hd : Dec code pc (.newarray .byte) 2 nx) (wa : (Jvm.Cond.arrayClass .byte).before a0 Z = true) (n cap : Nat) (hx' : x = Int32.ofNat n) (hcap : n ≤ cap) (hb' : cap * 8 ≤ 536870912) (hk : k + 1 ≤ R.cells) (hj : j + cap ≤ R.slots)
    (q : ∀ T' h' a, Pos Z a0 n0 p l e R s m args below meth c code ml ret y T' h' (k + 1) (j + cap) → a = h.size → Ext h h' → Ba Z n0 h' a .byte n (bI fun _ => 0) → Wp n0 p e R s below Q T' (mkF m nx Ls (.ref a :: S))) : Wp n0 p e R s below Q T (mkF m pc Ls (.int x :: S)) := by
  obtain ⟨hx, hZ, hby, hml, hret, hown, hnm, hlk, eT, hn0, hw, locs, N, Y⟩ := X
  obtain ⟨hd, rfl⟩ := hd
  subst hx'
  obtain ⟨T', h', cA, Y', e', E', A', st⟩ := newP Y hx hZ (aty := .byte) wa eT (g := mkF m pc Ls (.int (Int32.ofNat n) :: S)) rfl (hb hby hd) rfl (ofNat_nn (by omega)) (cap := cap) (by rw [ofNat_clamp (by omega)]; exact hcap) hb' hk hj
  refine Wp.go st (q T' h' _ ⟨hx, hZ, hby, hml, hret, hown, hnm, hlk, e', Nat.le_trans hn0 E'.1, hw, _, N, Y'⟩ rfl E' ⟨hn0, by omega, _, A', by rw [sz_new, ofNat_clamp (by omega)], fun i hi => ?_⟩)
  have := get_new (cA := cA) (ty := .byte) (n := Int32.ofNat n) (k := Int32.ofNat i) (by rw [ofNat_clamp (by omega), ofNat_clamp (by omega)]; exact fun q => q.elim (ofNat_nn (by omega)) (fun q => by omega))
  rw [ofNat_clamp (by omega)] at this
  exact this
theorem w_newI (X : Pos Z a0 n0 p l e R s m args below meth c code ml ret y T h k j) {x : Int32} (hd : Dec code pc (.newarray .int) 2 nx) (wa : (Jvm.Cond.arrayClass .int).before a0 Z = true) (n cap : Nat) (hx' : x = Int32.ofNat n) (hcap : n ≤ cap) (hb' : cap * 8 ≤ 536870912) (hk : k + 1 ≤ R.cells) (hj : j + cap ≤ R.slots)
    (q : ∀ T' h' a, Pos Z a0 n0 p l e R s m args below meth c code ml ret y T' h' (k + 1) (j + cap) → a = h.size → Ext h h' → Ba Z n0 h' a .int n (bI fun _ => 0) → Wp n0 p e R s below Q T' (mkF m nx Ls (.ref a :: S))) : Wp n0 p e R s below Q T (mkF m pc Ls (.int x :: S)) := by
  obtain ⟨hx, hZ, hby, hml, hret, hown, hnm, hlk, eT, hn0, hw, locs, N, Y⟩ := X
  obtain ⟨hd, rfl⟩ := hd
  subst hx'
  obtain ⟨T', h', cA, Y', e', E', A', st⟩ := newP Y hx hZ (aty := .int) wa eT (g := mkF m pc Ls (.int (Int32.ofNat n) :: S)) rfl (hb hby hd) rfl (ofNat_nn (by omega)) (cap := cap) (by rw [ofNat_clamp (by omega)]; exact hcap) hb' hk hj
  refine Wp.go st (q T' h' _ ⟨hx, hZ, hby, hml, hret, hown, hnm, hlk, e', Nat.le_trans hn0 E'.1, hw, _, N, Y'⟩ rfl E' ⟨hn0, by omega, _, A', by rw [sz_new, ofNat_clamp (by omega)], fun i hi => ?_⟩)
  have := get_new (cA := cA) (ty := .int) (n := Int32.ofNat n) (k := Int32.ofNat i) (by rw [ofNat_clamp (by omega), ofNat_clamp (by omega)]; exact fun q => q.elim (ofNat_nn (by omega)) (fun q => by omega))
  rw [ofNat_clamp (by omega)] at this
  exact this
theorem w_newJ (X : Pos Z a0 n0 p l e R s m args below meth c code ml ret y T h k j) {x : Int32} (hd : Dec code pc (.newarray .long) 2 nx) (wa : (Jvm.Cond.arrayClass .long).before a0 Z = true) (n cap : Nat) (hx' : x = Int32.ofNat n) (hcap : n ≤ cap) (hb' : cap * 8 ≤ 536870912) (hk : k + 1 ≤ R.cells) (hj : j + cap ≤ R.slots)
    (q : ∀ T' h' a, Pos Z a0 n0 p l e R s m args below meth c code ml ret y T' h' (k + 1) (j + cap) → a = h.size → Ext h h' → Ba Z n0 h' a .long n (bJ fun _ => 0) → Wp n0 p e R s below Q T' (mkF m nx Ls (.ref a :: S))) : Wp n0 p e R s below Q T (mkF m pc Ls (.int x :: S)) := by
  obtain ⟨hx, hZ, hby, hml, hret, hown, hnm, hlk, eT, hn0, hw, locs, N, Y⟩ := X
  obtain ⟨hd, rfl⟩ := hd
  subst hx'
  obtain ⟨T', h', cA, Y', e', E', A', st⟩ := newP Y hx hZ (aty := .long) wa eT (g := mkF m pc Ls (.int (Int32.ofNat n) :: S)) rfl (hb hby hd) rfl (ofNat_nn (by omega)) (cap := cap) (by rw [ofNat_clamp (by omega)]; exact hcap) hb' hk hj
  refine Wp.go st (q T' h' _ ⟨hx, hZ, hby, hml, hret, hown, hnm, hlk, e', Nat.le_trans hn0 E'.1, hw, _, N, Y'⟩ rfl E' ⟨hn0, by omega, _, A', by rw [sz_new, ofNat_clamp (by omega)], fun i hi => ?_⟩)
  have := get_new (cA := cA) (ty := .long) (n := Int32.ofNat n) (k := Int32.ofNat i) (by rw [ofNat_clamp (by omega), ofNat_clamp (by omega)]; exact fun q => q.elim (ofNat_nn (by omega)) (fun q => by omega))
  rw [ofNat_clamp (by omega)] at this
  exact this
theorem w_static (X : Pos Z a0 n0 p l e R s m args below meth c code ml ret y T h k j) {z : MethodName} {cz : ByteArray} {mz : Nat} {rz : Option FieldType} {rm : Room} {Qz : Option Value → Heap → Prop} {ps : List FieldType} {rr : Option FieldType} {i : Nat} {argsL : List Value} (hd : Dec code pc (.invokestatic i) 3 nx) (C : Ctr l Z n0 z cz mz rz rm [] argsL.toArray h Qz) (wl : (Jvm.Cond.methodLink y.cls i z).before a0 Z = true) (ws : (Jvm.Cond.static z).before a0 Z = true) (wi : (Jvm.Cond.initialized z.cls).before a0 Z = true) (wc : (Jvm.Cond.code z cz mz rz).before a0 Z = true)
    (hz : z.cls ≠ "java/lang/invoke/MethodHandle" ∧ z.cls ≠ "java/lang/invoke/VarHandle") (hpd : parseMethodDescriptor z.desc = some ⟨ps, rr⟩) (hlen : argsL.length = ps.length) {S0 : List Value} (hS : S0 = argsL.reverse ++ S) (hsz : Ls.size = ml)
    (hf : rm.frames + 1 ≤ R.frames) (hlo : (S.map fun v => v.category).sum + (mz + 11) + rm.locals ≤ R.locals) (hk : k + rm.cells ≤ R.cells) (hj : j + rm.slots ≤ R.slots)
    (q : ∀ v T' h', Pos Z a0 n0 p l e R s m args below meth c code ml ret y T' h' (k + rm.cells) (j + rm.slots) → Qz v h' → Wp n0 p e R s below Q T' (mkF m nx Ls (v.toList ++ S))) : Wp n0 p e R s below Q T (mkF m pc Ls S0) := by
  obtain ⟨hx, hZ, hby, hml, hret, hown, hnm, hlk, eT, hn0, hw, locs, N, Y⟩ := X
  obtain ⟨hd, rfl⟩ := hd
  obtain ⟨v, _, ⟨T', L', k', j'⟩, -, Y', ⟨Lc, hQ, l1, l2, l3⟩, st⟩ := Jvm.LawKit.callS Y hx (y := z) hown (mvT hZ wl) (mvT hZ ws) (mvT hZ wi) (mvT hZ wc) hz (backOf (W := (S.map fun v => v.category).sum) (Q := fun v h L => Fr n0 L ∧ n0 ≤ h.size ∧ Qz v h) C hZ wc wi hf hlo) (g := mkF m pc Ls S0) rfl (by rw [hml]; exact hsz) (argsL := argsL) (rest := S) (lenOf hpd hlen) hS (by show 2 * 0 + _ ≤ _; omega) (hb hby hd) (fun _ _ => ⟨rfl, eT, hk, hj⟩)
  dsimp only [Pt.U, Pt.locs, Pt.cells, Pt.slots] at Y' l1 l2 l3 st hQ
  subst l1 l2 l3
  obtain ⟨N', hn', hQ⟩ := hQ
  exact Wp.go st (q v T' _ ⟨hx, hZ, hby, hml, hret, hown, hnm, hlk, rfl, hn', hw, _, Fr.app N N', Y'⟩ hQ)
theorem w_virtual (X : Pos Z a0 n0 p l e R s m args below meth c code ml ret y T h k j) {z : MethodName} {cz : ByteArray} {mz : Nat} {rz : Option FieldType} {rm : Room} {Qz : Option Value → Heap → Prop} {ps : List FieldType} {rr : Option FieldType} {i : Nat} {argsL : List Value} {a : Addr} (hd : Dec code pc (.invokevirtual i) 3 nx) (C : Ctr l Z n0 z cz mz rz rm [] (.ref a :: argsL).toArray h Qz) (E : Exa Z h a z.cls) (wl : (Jvm.Cond.methodLink y.cls i z).before a0 Z = true) (wdc : (Jvm.Cond.declares z).before a0 Z = true) (wse : (Jvm.Cond.selects z.cls z z).before a0 Z = true) (wim : (Jvm.Cond.instanceMethod z).before a0 Z = true) (wi : (Jvm.Cond.initialized z.cls).before a0 Z = true) (wc : (Jvm.Cond.code z cz mz rz).before a0 Z = true)
    (hz : z.cls ≠ "java/lang/invoke/MethodHandle" ∧ z.cls ≠ "java/lang/invoke/VarHandle") (hpd : parseMethodDescriptor z.desc = some ⟨ps, rr⟩) (hlen : argsL.length = ps.length) {S0 : List Value} (hS : S0 = argsL.reverse ++ .ref a :: S) (hsz : Ls.size = ml)
    (hf : rm.frames + 1 ≤ R.frames) (hlo : (S.map fun v => v.category).sum + (mz + 11) + rm.locals ≤ R.locals) (hk : k + rm.cells ≤ R.cells) (hj : j + rm.slots ≤ R.slots)
    (q : ∀ v T' h', Pos Z a0 n0 p l e R s m args below meth c code ml ret y T' h' (k + rm.cells) (j + rm.slots) → Qz v h' → Wp n0 p e R s below Q T' (mkF m nx Ls (v.toList ++ S))) : Wp n0 p e R s below Q T (mkF m pc Ls S0) := by
  obtain ⟨hx, hZ, hby, hml, hret, hown, hnm, hlk, eT, hn0, hw, locs, N, Y⟩ := X
  obtain ⟨hd, rfl⟩ := hd
  obtain ⟨cq, kq, qa, qb, qc⟩ := isOf hZ eT E
  have Ctr' := backOf (l := l) (R := R) (p := p) (e := e) (below := below) (s := s) (args := args) (len := 3) (W := (S.map fun v => v.category).sum) (Q := fun v h L => Fr n0 L ∧ n0 ≤ h.size ∧ Qz v h) C hZ wc wi hf hlo
  obtain ⟨v, _, ⟨T', L', k', j'⟩, -, Y', ⟨Lc, hQ, l1, l2, l3⟩, st⟩ := Y.virtualBack hx (y := z) (z := z) hown (mvT hZ wl) (mvT hZ wdc) (notFace_of_selects (args := #[]) (mvT hZ wse)) (mvT hZ wse) (mvT hZ wim) hz Ctr' qa qc (g := mkF m pc Ls S0) rfl (by rw [hml]; exact hsz) (Steps.refl _) (argsL := argsL) (rest := S) (lenOf hpd hlen) hS (by show 2 * 0 + _ ≤ _; omega) (hb hby hd) (fun _ _ => ⟨rfl, eT, hk, hj⟩)
  dsimp only [Pt.U, Pt.locs, Pt.cells, Pt.slots] at Y' l1 l2 l3 st hQ
  subst l1 l2 l3
  obtain ⟨N', hn', hQ⟩ := hQ
  exact Wp.go (fun _ t => st.trans t) (q v T' _ ⟨hx, hZ, hby, hml, hret, hown, hnm, hlk, rfl, hn', hw, _, Fr.app N N', Y'⟩ hQ)
theorem w_special (X : Pos Z a0 n0 p l e R s m args below meth c code ml ret y T h k j) {z : MethodName} {cz : ByteArray} {mz : Nat} {rm : Room} {Qz : Option Value → Heap → Prop} {ps : List FieldType} {rr : Option FieldType} {i : Nat} {argsL : List Value} {a : Addr} (hd : Dec code pc (.invokespecial i) 3 nx) (C : Ctr l Z n0 z cz mz none rm [] (.ref a :: argsL).toArray h Qz) (hz1 : z.name = "<init>") (wl : (Jvm.Cond.methodLink y.cls i z).before a0 Z = true) (wim : (Jvm.Cond.instanceMethod z).before a0 Z = true) (wi : (Jvm.Cond.initialized z.cls).before a0 Z = true) (wc : (Jvm.Cond.code z cz mz none).before a0 Z = true)
    (hz : z.cls ≠ "java/lang/invoke/MethodHandle" ∧ z.cls ≠ "java/lang/invoke/VarHandle") (hpd : parseMethodDescriptor z.desc = some ⟨ps, rr⟩) (hlen : argsL.length = ps.length) {S0 : List Value} (hS : S0 = argsL.reverse ++ .ref a :: S) (hsz : Ls.size = ml)
    (hf : rm.frames + 1 ≤ R.frames) (hlo : (S.map fun v => v.category).sum + (mz + 11) + rm.locals ≤ R.locals) (hk : k + rm.cells ≤ R.cells) (hj : j + rm.slots ≤ R.slots)
    (q : ∀ v T' h', Pos Z a0 n0 p l e R s m args below meth c code ml ret y T' h' (k + rm.cells) (j + rm.slots) → Qz v h' → Wp n0 p e R s below Q T' (mkF m nx Ls (v.toList ++ S))) : Wp n0 p e R s below Q T (mkF m pc Ls S0) := by
  obtain ⟨hx, hZ, hby, hml, hret, hown, hnm, hlk, eT, hn0, hw, locs, N, Y⟩ := X
  obtain ⟨hd, rfl⟩ := hd
  have Ctr' := backOf (l := l) (R := R) (p := p) (e := e) (below := below) (s := s) (args := args) (len := 3) (W := (S.map fun v => v.category).sum) (Q := fun v h L => Fr n0 L ∧ n0 ≤ h.size ∧ Qz v h) C hZ wc wi hf hlo
  obtain ⟨v, _, ⟨T', L', k', j'⟩, -, Y', ⟨Lc, hQ, l1, l2, l3⟩, st⟩ := Y.specialBack hx (y := z) hz1 hown (mvT hZ wl) (mvT hZ wim) (mvT hZ wc) hz Ctr' (g := mkF m pc Ls S0) rfl (by rw [hml]; exact hsz) (Steps.refl _) (a := a) (argsL := argsL) (rest := S) (lenOf hpd hlen) hS (by show 2 * 0 + _ ≤ _; omega) (hb hby hd) (fun _ _ => ⟨rfl, eT, hk, hj⟩)
  dsimp only [Pt.U, Pt.locs, Pt.cells, Pt.slots] at Y' l1 l2 l3 st hQ
  subst l1 l2 l3
  obtain ⟨N', hn', hQ⟩ := hQ
  exact Wp.go (fun _ t => st.trans t) (q v T' _ ⟨hx, hZ, hby, hml, hret, hown, hnm, hlk, rfl, hn', hw, _, Fr.app N N', Y'⟩ hQ)
theorem w_new (X : Pos Z a0 n0 p l e R s m args below meth c code ml ret y T h k j) {i n : Nat} {C : String} (hd : Dec code pc (.new i) 3 nx) (w : (Jvm.Cond.classLink y.cls i C).before a0 Z = true) (wi : (Jvm.Cond.instantiable C n).before a0 Z = true) (wz : (Jvm.Cond.initialized C).before a0 Z = true) (hk : k + 1 ≤ R.cells) (hj : j + n ≤ R.slots)
    (q : ∀ T' h' a, Pos Z a0 n0 p l e R s m args below meth c code ml ret y T' h' (k + 1) (j + n) → a = h.size → n0 ≤ a → Ext h h' → Exa Z h' a C → (∀ {O nm d : String} {ty : FieldType}, Laid Z a0 C O nm d → parseFieldDescriptor d = some ty → Fld Z h' a O nm d (defaultValue ty)) → Wp n0 p e R s below Q T' (mkF m nx Ls (.ref a :: S))) : Wp n0 p e R s below Q T (mkF m pc Ls S) := by
  obtain ⟨hx, hZ, hby, hml, hret, hown, hnm, hlk, eT, hn0, hw, locs, N, Y⟩ := X
  obtain ⟨hd, rfl⟩ := hd
  obtain ⟨T', h', Y', e', E', A', D', -, st⟩ := newO Y hx hZ hown w wi wz eT (g := mkF m pc Ls S) rfl (hb hby hd) hk hj
  exact Wp.go st (q T' h' _ ⟨hx, hZ, hby, hml, hret, hown, hnm, hlk, e', Nat.le_trans hn0 E'.1, hw, _, N, Y'⟩ rfl hn0 E' A' D')
theorem w_getF (X : Pos Z a0 n0 p l e R s m args below meth c code ml ret y T h k j) {i : Nat} {O nm d : String} {a : Addr} {v : Value} (hd : Dec code pc (.getfield i) 3 nx) (w : (Jvm.Cond.fieldLink y.cls i O nm d).before a0 Z = true) (F : Fld Z h a O nm d v)
    (q : ∀ T', Pos Z a0 n0 p l e R s m args below meth c code ml ret y T' h k j → Wp n0 p e R s below Q T' (mkF m nx Ls (v :: S))) : Wp n0 p e R s below Q T (mkF m pc Ls (.ref a :: S)) := by
  obtain ⟨hx, hZ, hby, hml, hret, hown, hnm, hlk, eT, hn0, hw, locs, N, Y⟩ := X
  obtain ⟨hd, rfl⟩ := hd
  obtain ⟨T', Y', e', st⟩ := getF Y hx hZ hown (host := "") (Or.inl w) Via.refl eT F (g := mkF m pc Ls (.ref a :: S)) rfl rfl (hb hby hd)
  exact Wp.go st (q T' ⟨hx, hZ, hby, hml, hret, hown, hnm, hlk, e', hn0, hw, _, N, Y'⟩)
theorem w_putF (X : Pos Z a0 n0 p l e R s m args below meth c code ml ret y T h k j) {i kk : Nat} {C O nm d : String} {ty : FieldType} {a : Addr} {v old : Value} (hd : Dec code pc (.putfield i) 3 nx) (w : (Jvm.Cond.fieldLink y.cls i O nm d).before a0 Z = true) (F : Fld Z h a O nm d old) (E : Exa Z h a C) (hna : n0 ≤ a) (L : (Jvm.Cond.lays C O nm d).before a0 Z = true ∨ ((Jvm.Cond.laysFinal C O nm d).before a0 Z = true ∧ y.cls = O ∧ y.name = "<init>")) (wi : (Jvm.Cond.instantiable C kk).before a0 Z = true) (hty : parseFieldDescriptor d = some ty) (hn : narrow ty v = v) (hf : fits ty v = true)
    (q : ∀ T' h', Pos Z a0 n0 p l e R s m args below meth c code ml ret y T' h' k j → Wr h h' a (Jvm.RoadKit.slotOf Z O nm d) v → Wp n0 p e R s below Q T' (mkF m nx Ls S)) : Wp n0 p e R s below Q T (mkF m pc Ls (v :: .ref a :: S)) := by
  obtain ⟨hx, hZ, hby, hml, hret, hown, hnm, hlk, eT, hn0, hw, locs, N, Y⟩ := X
  obtain ⟨hd, rfl⟩ := hd
  obtain ⟨T', h', Y', e', W', st⟩ := putF Y hx hZ hown (host := "") (Or.inl w) Via.refl eT F E (L.imp id fun q => ⟨q.1, q.2.1, hnm.trans q.2.2⟩) wi hty hn hf (g := mkF m pc Ls (v :: .ref a :: S)) rfl rfl (hb hby hd)
  exact Wp.go st (q T' h' ⟨hx, hZ, hby, hml, hret, hown, hnm, hlk, e', by rw [W'.size]; exact hn0, hw, _, Fr.snoc Y' N hna, Y'⟩ W')
end OwnKit
section OwnInit
variable {Z : State} {a0 : Array Value} {n0 : Nat} {p : Program} {l : Launch} {e : Env} {R : Room} {s : State} {m : MethodId} {args : Array Value} {below : List Frame} {meth : Method} {c : Code} {code : ByteArray} {ml : Nat} {ret : Option FieldType} {y : MethodName} {T : State} {h h' : Heap} {k j : Nat} {Q : Option Value → Heap → Prop} {pc nx tgt : Nat} {Ls : Array Slot} {S : List Value}
theorem w_initO (X : Pos Z a0 n0 p l e R s m args below meth c code ml ret y T h k j) {i : Nat} {a : Addr} (hd : Dec code pc (.invokespecial i) 3 nx) (w1 : (Jvm.Cond.methodLink y.cls i Lib.objectInit).before a0 Z = true) (w2 : (Jvm.Cond.instanceMethod Lib.objectInit).before a0 Z = true) (w3 : (Jvm.Cond.code Lib.objectInit object_method_1_code 1 none).before a0 Z = true) (hsz : Ls.size = ml) (hf : 1 ≤ R.frames) (hlo : (S.map fun v => v.category).sum + 12 ≤ R.locals)
    (q : ∀ T', Pos Z a0 n0 p l e R s m args below meth c code ml ret y T' h k j → Wp n0 p e R s below Q T' (mkF m nx Ls S)) : Wp n0 p e R s below Q T (mkF m pc Ls (.ref a :: S)) := by
  obtain ⟨hx, hZ, hby, hml, hret, hown, hnm, hlk, eT, hn0, hw, locs, N, Y⟩ := X
  obtain ⟨hd, rfl⟩ := hd
  obtain ⟨T', Y', e', st⟩ := initO Y hx hZ hown w1 w2 w3 eT (g := mkF m pc Ls (.ref a :: S)) rfl (by rw [hml]; exact hsz) rfl (hb hby hd) hf (W := (S.map fun v => v.category).sum) (by show 2 * 0 + _ ≤ _; omega) hlo
  exact Wp.go st (q T' ⟨hx, hZ, hby, hml, hret, hown, hnm, hlk, e', hn0, hw, _, N, Y'⟩)
end OwnInit
theorem D0_0 : Dec code 0 (.iload_n 2) 1 1 := ⟨at_0, rfl⟩
theorem D0_1 : Dec code 1 (.iconst 3) 1 2 := ⟨at_1, rfl⟩
theorem D0_2 : Dec code 2 .iand 1 3 := ⟨at_2, rfl⟩
theorem D0_3 : Dec code 3 (.istore_n 3) 1 4 := ⟨at_3, rfl⟩
theorem D0_4 : Dec code 4 (.iload_n 3) 1 5 := ⟨at_4, rfl⟩
theorem D0_5 : Jmp code 5 (.ifCond .ne 11) 11 8 16 := ⟨at_5, rfl, by decide, by decide⟩
theorem D0_8 : Dec code 8 (.iconst 1) 1 9 := ⟨at_8, rfl⟩
theorem D0_9 : Dec code 9 (.newarray .byte) 2 11 := ⟨at_9, rfl⟩
theorem D0_11 : Dec code 11 (.astore 4) 2 13 := ⟨at_11, rfl⟩
theorem D0_13 : Jmp code 13 (.goto 34) 34 16 47 := ⟨at_13, rfl, by decide, by decide⟩
theorem D0_16 : Dec code 16 (.iload_n 3) 1 17 := ⟨at_16, rfl⟩
theorem D0_17 : Dec code 17 (.iconst 1) 1 18 := ⟨at_17, rfl⟩
theorem D0_18 : Jmp code 18 (.if_icmp .ne 11) 11 21 29 := ⟨at_18, rfl, by decide, by decide⟩
theorem D0_21 : Dec code 21 (.iconst 2) 1 22 := ⟨at_21, rfl⟩
theorem D0_22 : Dec code 22 (.newarray .byte) 2 24 := ⟨at_22, rfl⟩
theorem D0_24 : Dec code 24 (.astore 4) 2 26 := ⟨at_24, rfl⟩
theorem D0_26 : Jmp code 26 (.goto 21) 21 29 47 := ⟨at_26, rfl, by decide, by decide⟩
theorem D0_29 : Dec code 29 (.iload_n 3) 1 30 := ⟨at_29, rfl⟩
theorem D0_30 : Dec code 30 (.iconst 2) 1 31 := ⟨at_30, rfl⟩
theorem D0_31 : Jmp code 31 (.if_icmp .ne 11) 11 34 42 := ⟨at_31, rfl, by decide, by decide⟩
theorem D0_34 : Dec code 34 (.iconst 3) 1 35 := ⟨at_34, rfl⟩
theorem D0_35 : Dec code 35 (.newarray .byte) 2 37 := ⟨at_35, rfl⟩
theorem D0_37 : Dec code 37 (.astore 4) 2 39 := ⟨at_37, rfl⟩
theorem D0_39 : Jmp code 39 (.goto 8) 8 42 47 := ⟨at_39, rfl, by decide, by decide⟩
theorem D0_42 : Dec code 42 (.iconst 4) 1 43 := ⟨at_42, rfl⟩
theorem D0_43 : Dec code 43 (.newarray .byte) 2 45 := ⟨at_43, rfl⟩
theorem D0_45 : Dec code 45 (.astore 4) 2 47 := ⟨at_45, rfl⟩
theorem D0_47 : Dec code 47 (.aload 4) 2 49 := ⟨at_47, rfl⟩
theorem D0_49 : Dec code 49 (.iconst 0) 1 50 := ⟨at_49, rfl⟩
theorem D0_50 : Dec code 50 (.iload_n 0) 1 51 := ⟨at_50, rfl⟩
theorem D0_51 : Dec code 51 (.iload_n 1) 1 52 := ⟨at_51, rfl⟩
theorem D0_52 : Dec code 52 (.invokestatic 7) 3 55 := ⟨at_52, rfl⟩
theorem D0_55 : Dec code 55 (.aload 4) 2 57 := ⟨at_55, rfl⟩
theorem D0_57 : Dec code 57 (.iconst 1) 1 58 := ⟨at_57, rfl⟩
theorem D0_58 : Dec code 58 (.iload_n 0) 1 59 := ⟨at_58, rfl⟩
theorem D0_59 : Dec code 59 (.iload_n 1) 1 60 := ⟨at_59, rfl⟩
theorem D0_60 : Dec code 60 (.invokestatic 7) 3 63 := ⟨at_60, rfl⟩
theorem D0_63 : Dec code 63 (.aload 4) 2 65 := ⟨at_63, rfl⟩
theorem D0_65 : Dec code 65 (.iconst 2) 1 66 := ⟨at_65, rfl⟩
theorem D0_66 : Dec code 66 (.iload_n 0) 1 67 := ⟨at_66, rfl⟩
theorem D0_67 : Dec code 67 (.iload_n 1) 1 68 := ⟨at_67, rfl⟩
theorem D0_68 : Dec code 68 (.invokestatic 7) 3 71 := ⟨at_68, rfl⟩
theorem D0_71 : Dec code 71 (.aload 4) 2 73 := ⟨at_71, rfl⟩
theorem D0_73 : Dec code 73 (.iconst 3) 1 74 := ⟨at_73, rfl⟩
theorem D0_74 : Dec code 74 (.iload_n 0) 1 75 := ⟨at_74, rfl⟩
theorem D0_75 : Dec code 75 (.iload_n 1) 1 76 := ⟨at_75, rfl⟩
theorem D0_76 : Dec code 76 (.invokestatic 7) 3 79 := ⟨at_76, rfl⟩
theorem D0_79 : Dec code 79 (.new 13) 3 82 := ⟨at_79, rfl⟩
theorem D0_82 : Dec code 82 .dup 1 83 := ⟨at_82, rfl⟩
theorem D0_83 : Dec code 83 (.aload 4) 2 85 := ⟨at_83, rfl⟩
theorem D0_85 : Dec code 85 (.invokespecial 15) 3 88 := ⟨at_85, rfl⟩
theorem D0_88 : Dec code 88 (.astore 5) 2 90 := ⟨at_88, rfl⟩
theorem D0_90 : Dec code 90 (.aload 5) 2 92 := ⟨at_90, rfl⟩
theorem D0_92 : Dec code 92 (.invokevirtual 18) 3 95 := ⟨at_92, rfl⟩
theorem D0_95 : Dec code 95 (.aload 4) 2 97 := ⟨at_95, rfl⟩
theorem D0_97 : Dec code 97 (.iconst 0) 1 98 := ⟨at_97, rfl⟩
theorem D0_98 : Dec code 98 (.invokestatic 21) 3 101 := ⟨at_98, rfl⟩
theorem D0_101 : Dec code 101 (.istore 6) 2 103 := ⟨at_101, rfl⟩
theorem D0_103 : Dec code 103 (.aload 5) 2 105 := ⟨at_103, rfl⟩
theorem D0_105 : Dec code 105 (.invokevirtual 25) 3 108 := ⟨at_105, rfl⟩
theorem D0_108 : Jmp code 108 (.ifCond .ne 26) 26 111 134 := ⟨at_108, rfl, by decide, by decide⟩
theorem D0_111 : Dec code 111 (.aload 5) 2 113 := ⟨at_111, rfl⟩
theorem D0_113 : Dec code 113 (.invokevirtual 29) 3 116 := ⟨at_113, rfl⟩
theorem D0_116 : Dec code 116 (.iload 6) 2 118 := ⟨at_116, rfl⟩
theorem D0_118 : Jmp code 118 (.if_icmp .ne 16) 16 121 134 := ⟨at_118, rfl, by decide, by decide⟩
theorem D0_121 : Dec code 121 (.aload 5) 2 123 := ⟨at_121, rfl⟩
theorem D0_123 : Dec code 123 (.invokevirtual 32) 3 126 := ⟨at_123, rfl⟩
theorem D0_126 : Dec code 126 (.iconst 1) 1 127 := ⟨at_126, rfl⟩
theorem D0_127 : Jmp code 127 (.if_icmp .ne 7) 7 130 134 := ⟨at_127, rfl, by decide, by decide⟩
theorem D0_130 : Dec code 130 (.iconst 1) 1 131 := ⟨at_130, rfl⟩
theorem D0_131 : Jmp code 131 (.goto 4) 4 134 135 := ⟨at_131, rfl, by decide, by decide⟩
theorem D0_135 : Dec code 135 (.istore 7) 2 137 := ⟨at_135, rfl⟩
theorem D0_137 : Dec code 137 (.aload 5) 2 139 := ⟨at_137, rfl⟩
theorem D0_139 : Dec code 139 (.invokevirtual 35) 3 142 := ⟨at_139, rfl⟩
theorem D0_142 : Dec code 142 (.istore 8) 2 144 := ⟨at_142, rfl⟩
theorem D0_144 : Dec code 144 (.iload 7) 2 146 := ⟨at_144, rfl⟩
theorem D0_146 : Jmp code 146 (.ifCond .eq 27) 27 149 173 := ⟨at_146, rfl, by decide, by decide⟩
theorem D0_149 : Dec code 149 (.iload 8) 2 151 := ⟨at_149, rfl⟩
theorem D0_151 : Dec code 151 (.iload 6) 2 153 := ⟨at_151, rfl⟩
theorem D0_153 : Dec code 153 (.iconst 1) 1 154 := ⟨at_153, rfl⟩
theorem D0_154 : Dec code 154 .iadd 1 155 := ⟨at_154, rfl⟩
theorem D0_155 : Dec code 155 (.aload 4) 2 157 := ⟨at_155, rfl⟩
theorem D0_157 : Dec code 157 .arraylength 1 158 := ⟨at_157, rfl⟩
theorem D0_158 : Jmp code 158 (.if_icmp .ge 7) 7 161 165 := ⟨at_158, rfl, by decide, by decide⟩
theorem D0_161 : Dec code 161 (.iconst 1) 1 162 := ⟨at_161, rfl⟩
theorem D0_162 : Jmp code 162 (.goto 4) 4 165 166 := ⟨at_162, rfl, by decide, by decide⟩
theorem D0_165 : Dec code 165 (.iconst 0) 1 166 := ⟨at_165, rfl⟩
theorem D0_166 : Jmp code 166 (.if_icmp .ne 7) 7 169 173 := ⟨at_166, rfl, by decide, by decide⟩
theorem D0_169 : Dec code 169 (.iconst 1) 1 170 := ⟨at_169, rfl⟩
theorem D0_170 : Jmp code 170 (.goto 4) 4 173 174 := ⟨at_170, rfl, by decide, by decide⟩
theorem D0_174 : Dec code 174 (.istore 7) 2 176 := ⟨at_174, rfl⟩
theorem D0_176 : Dec code 176 (.iload 8) 2 178 := ⟨at_176, rfl⟩
theorem D0_178 : Jmp code 178 (.ifCond .eq 64) 64 181 242 := ⟨at_178, rfl, by decide, by decide⟩
theorem D0_181 : Dec code 181 (.aload 5) 2 183 := ⟨at_181, rfl⟩
theorem D0_183 : Dec code 183 (.invokevirtual 18) 3 186 := ⟨at_183, rfl⟩
theorem D0_186 : Dec code 186 (.iload 6) 2 188 := ⟨at_186, rfl⟩
theorem D0_188 : Dec code 188 (.iconst 1) 1 189 := ⟨at_188, rfl⟩
theorem D0_189 : Dec code 189 .iadd 1 190 := ⟨at_189, rfl⟩
theorem D0_190 : Dec code 190 (.istore 9) 2 192 := ⟨at_190, rfl⟩
theorem D0_192 : Dec code 192 (.aload 4) 2 194 := ⟨at_192, rfl⟩
theorem D0_194 : Dec code 194 (.iload 9) 2 196 := ⟨at_194, rfl⟩
theorem D0_196 : Dec code 196 (.invokestatic 21) 3 199 := ⟨at_196, rfl⟩
theorem D0_199 : Dec code 199 (.istore 10) 2 201 := ⟨at_199, rfl⟩
theorem D0_201 : Dec code 201 (.iload 7) 2 203 := ⟨at_201, rfl⟩
theorem D0_203 : Jmp code 203 (.ifCond .eq 36) 36 206 239 := ⟨at_203, rfl, by decide, by decide⟩
theorem D0_206 : Dec code 206 (.aload 5) 2 208 := ⟨at_206, rfl⟩
theorem D0_208 : Dec code 208 (.invokevirtual 25) 3 211 := ⟨at_208, rfl⟩
theorem D0_211 : Dec code 211 (.iload 9) 2 213 := ⟨at_211, rfl⟩
theorem D0_213 : Jmp code 213 (.if_icmp .ne 26) 26 216 239 := ⟨at_213, rfl, by decide, by decide⟩
theorem D0_216 : Dec code 216 (.aload 5) 2 218 := ⟨at_216, rfl⟩
theorem D0_218 : Dec code 218 (.invokevirtual 29) 3 221 := ⟨at_218, rfl⟩
theorem D0_221 : Dec code 221 (.iload 10) 2 223 := ⟨at_221, rfl⟩
theorem D0_223 : Jmp code 223 (.if_icmp .ne 16) 16 226 239 := ⟨at_223, rfl, by decide, by decide⟩
theorem D0_226 : Dec code 226 (.aload 5) 2 228 := ⟨at_226, rfl⟩
theorem D0_228 : Dec code 228 (.invokevirtual 32) 3 231 := ⟨at_228, rfl⟩
theorem D0_231 : Dec code 231 (.iconst 2) 1 232 := ⟨at_231, rfl⟩
theorem D0_232 : Jmp code 232 (.if_icmp .ne 7) 7 235 239 := ⟨at_232, rfl, by decide, by decide⟩
theorem D0_235 : Dec code 235 (.iconst 1) 1 236 := ⟨at_235, rfl⟩
theorem D0_236 : Jmp code 236 (.goto 4) 4 239 240 := ⟨at_236, rfl, by decide, by decide⟩
theorem D0_240 : Dec code 240 (.istore 7) 2 242 := ⟨at_240, rfl⟩
theorem D0_242 : Dec code 242 (.iload 7) 2 244 := ⟨at_242, rfl⟩
theorem D0_244 : Dec code 244 .ireturn 1 245 := ⟨at_244, rfl⟩
theorem D1_0 : Dec method_2_code 0 (.iload_n 1) 1 1 := ⟨by decide +kernel, rfl⟩
theorem D1_1 : Dec method_2_code 1 (.aload_n 0) 1 2 := ⟨by decide +kernel, rfl⟩
theorem D1_2 : Dec method_2_code 2 .arraylength 1 3 := ⟨by decide +kernel, rfl⟩
theorem D1_3 : Jmp method_2_code 3 (.if_icmp .ge 29) 29 6 32 := ⟨by decide +kernel, rfl, by decide, by decide⟩
theorem D1_6 : Dec method_2_code 6 (.iload_n 3) 1 7 := ⟨by decide +kernel, rfl⟩
theorem D1_7 : Dec method_2_code 7 (.iload_n 1) 1 8 := ⟨by decide +kernel, rfl⟩
theorem D1_8 : Dec method_2_code 8 .ishr 1 9 := ⟨by decide +kernel, rfl⟩
theorem D1_9 : Dec method_2_code 9 (.iconst 1) 1 10 := ⟨by decide +kernel, rfl⟩
theorem D1_10 : Dec method_2_code 10 .iand 1 11 := ⟨by decide +kernel, rfl⟩
theorem D1_11 : Jmp method_2_code 11 (.ifCond .eq 11) 11 14 22 := ⟨by decide +kernel, rfl, by decide, by decide⟩
theorem D1_14 : Dec method_2_code 14 (.aload_n 0) 1 15 := ⟨by decide +kernel, rfl⟩
theorem D1_15 : Dec method_2_code 15 (.iload_n 1) 1 16 := ⟨by decide +kernel, rfl⟩
theorem D1_16 : Dec method_2_code 16 (.bipush 10) 2 18 := ⟨by decide +kernel, rfl⟩
theorem D1_18 : Dec method_2_code 18 .bastore 1 19 := ⟨by decide +kernel, rfl⟩
theorem D1_19 : Jmp method_2_code 19 (.goto 13) 13 22 32 := ⟨by decide +kernel, rfl, by decide, by decide⟩
theorem D1_22 : Dec method_2_code 22 (.aload_n 0) 1 23 := ⟨by decide +kernel, rfl⟩
theorem D1_23 : Dec method_2_code 23 (.iload_n 1) 1 24 := ⟨by decide +kernel, rfl⟩
theorem D1_24 : Dec method_2_code 24 (.iload_n 2) 1 25 := ⟨by decide +kernel, rfl⟩
theorem D1_25 : Dec method_2_code 25 (.bipush 8) 2 27 := ⟨by decide +kernel, rfl⟩
theorem D1_27 : Dec method_2_code 27 (.iload_n 1) 1 28 := ⟨by decide +kernel, rfl⟩
theorem D1_28 : Dec method_2_code 28 .imul 1 29 := ⟨by decide +kernel, rfl⟩
theorem D1_29 : Dec method_2_code 29 .ishr 1 30 := ⟨by decide +kernel, rfl⟩
theorem D1_30 : Dec method_2_code 30 .i2b 1 31 := ⟨by decide +kernel, rfl⟩
theorem D1_31 : Dec method_2_code 31 .bastore 1 32 := ⟨by decide +kernel, rfl⟩
theorem D1_32 : Dec method_2_code 32 .return_ 1 33 := ⟨by decide +kernel, rfl⟩
theorem D2_0 : Dec prog_32_method_1_code 0 (.aload_n 0) 1 1 := ⟨by decide +kernel, rfl⟩
theorem D2_1 : Dec prog_32_method_1_code 1 (.invokespecial 1) 3 4 := ⟨by decide +kernel, rfl⟩
theorem D2_4 : Dec prog_32_method_1_code 4 (.aload_n 0) 1 5 := ⟨by decide +kernel, rfl⟩
theorem D2_5 : Dec prog_32_method_1_code 5 (.aload_n 1) 1 6 := ⟨by decide +kernel, rfl⟩
theorem D2_6 : Dec prog_32_method_1_code 6 (.putfield 7) 3 9 := ⟨by decide +kernel, rfl⟩
theorem D2_9 : Dec prog_32_method_1_code 9 .return_ 1 10 := ⟨by decide +kernel, rfl⟩
theorem D4_0 : Dec prog_32_method_3_code 0 (.aload_n 0) 1 1 := ⟨by decide +kernel, rfl⟩
theorem D4_1 : Dec prog_32_method_3_code 1 (.aload_n 0) 1 2 := ⟨by decide +kernel, rfl⟩
theorem D4_2 : Dec prog_32_method_3_code 2 (.getfield 13) 3 5 := ⟨by decide +kernel, rfl⟩
theorem D4_5 : Dec prog_32_method_3_code 5 (.putfield 17) 3 8 := ⟨by decide +kernel, rfl⟩
theorem D4_8 : Dec prog_32_method_3_code 8 (.aload_n 0) 1 9 := ⟨by decide +kernel, rfl⟩
theorem D4_9 : Dec prog_32_method_3_code 9 (.aload_n 0) 1 10 := ⟨by decide +kernel, rfl⟩
theorem D4_10 : Dec prog_32_method_3_code 10 (.getfield 17) 3 13 := ⟨by decide +kernel, rfl⟩
theorem D4_13 : Dec prog_32_method_3_code 13 (.putfield 20) 3 16 := ⟨by decide +kernel, rfl⟩
theorem D4_16 : Dec prog_32_method_3_code 16 (.aload_n 0) 1 17 := ⟨by decide +kernel, rfl⟩
theorem D4_17 : Dec prog_32_method_3_code 17 (.getfield 20) 3 20 := ⟨by decide +kernel, rfl⟩
theorem D4_20 : Dec prog_32_method_3_code 20 (.aload_n 0) 1 21 := ⟨by decide +kernel, rfl⟩
theorem D4_21 : Dec prog_32_method_3_code 21 (.getfield 7) 3 24 := ⟨by decide +kernel, rfl⟩
theorem D4_24 : Dec prog_32_method_3_code 24 .arraylength 1 25 := ⟨by decide +kernel, rfl⟩
theorem D4_25 : Jmp prog_32_method_3_code 25 (.if_icmp .ge 30) 30 28 55 := ⟨by decide +kernel, rfl, by decide, by decide⟩
theorem D4_28 : Dec prog_32_method_3_code 28 (.aload_n 0) 1 29 := ⟨by decide +kernel, rfl⟩
theorem D4_29 : Dec prog_32_method_3_code 29 (.getfield 7) 3 32 := ⟨by decide +kernel, rfl⟩
theorem D4_32 : Dec prog_32_method_3_code 32 (.aload_n 0) 1 33 := ⟨by decide +kernel, rfl⟩
theorem D4_33 : Dec prog_32_method_3_code 33 (.getfield 20) 3 36 := ⟨by decide +kernel, rfl⟩
theorem D4_36 : Dec prog_32_method_3_code 36 .baload 1 37 := ⟨by decide +kernel, rfl⟩
theorem D4_37 : Dec prog_32_method_3_code 37 (.bipush 10) 2 39 := ⟨by decide +kernel, rfl⟩
theorem D4_39 : Jmp prog_32_method_3_code 39 (.if_icmp .eq 16) 16 42 55 := ⟨by decide +kernel, rfl, by decide, by decide⟩
theorem D4_42 : Dec prog_32_method_3_code 42 (.aload_n 0) 1 43 := ⟨by decide +kernel, rfl⟩
theorem D4_43 : Dec prog_32_method_3_code 43 .dup 1 44 := ⟨by decide +kernel, rfl⟩
theorem D4_44 : Dec prog_32_method_3_code 44 (.getfield 20) 3 47 := ⟨by decide +kernel, rfl⟩
theorem D4_47 : Dec prog_32_method_3_code 47 (.iconst 1) 1 48 := ⟨by decide +kernel, rfl⟩
theorem D4_48 : Dec prog_32_method_3_code 48 .iadd 1 49 := ⟨by decide +kernel, rfl⟩
theorem D4_49 : Dec prog_32_method_3_code 49 (.putfield 20) 3 52 := ⟨by decide +kernel, rfl⟩
theorem D4_52 : Jmp prog_32_method_3_code 52 (.goto (-36)) (-36) 55 16 := ⟨by decide +kernel, rfl, by decide, by decide⟩
theorem D4_55 : Dec prog_32_method_3_code 55 (.aload_n 0) 1 56 := ⟨by decide +kernel, rfl⟩
theorem D4_56 : Dec prog_32_method_3_code 56 (.aload_n 0) 1 57 := ⟨by decide +kernel, rfl⟩
theorem D4_57 : Dec prog_32_method_3_code 57 (.getfield 20) 3 60 := ⟨by decide +kernel, rfl⟩
theorem D4_60 : Dec prog_32_method_3_code 60 (.iconst 1) 1 61 := ⟨by decide +kernel, rfl⟩
theorem D4_61 : Dec prog_32_method_3_code 61 .iadd 1 62 := ⟨by decide +kernel, rfl⟩
theorem D4_62 : Dec prog_32_method_3_code 62 (.putfield 13) 3 65 := ⟨by decide +kernel, rfl⟩
theorem D4_65 : Dec prog_32_method_3_code 65 (.aload_n 0) 1 66 := ⟨by decide +kernel, rfl⟩
theorem D4_66 : Dec prog_32_method_3_code 66 .dup 1 67 := ⟨by decide +kernel, rfl⟩
theorem D4_67 : Dec prog_32_method_3_code 67 (.getfield 23) 3 70 := ⟨by decide +kernel, rfl⟩
theorem D4_70 : Dec prog_32_method_3_code 70 (.iconst 1) 1 71 := ⟨by decide +kernel, rfl⟩
theorem D4_71 : Dec prog_32_method_3_code 71 .iadd 1 72 := ⟨by decide +kernel, rfl⟩
theorem D4_72 : Dec prog_32_method_3_code 72 (.putfield 23) 3 75 := ⟨by decide +kernel, rfl⟩
theorem D4_75 : Dec prog_32_method_3_code 75 .return_ 1 76 := ⟨by decide +kernel, rfl⟩
theorem D5_0 : Dec method_3_code 0 (.aload_n 0) 1 1 := ⟨by decide +kernel, rfl⟩
theorem D5_1 : Dec method_3_code 1 .arraylength 1 2 := ⟨by decide +kernel, rfl⟩
theorem D5_2 : Dec method_3_code 2 (.istore_n 2) 1 3 := ⟨by decide +kernel, rfl⟩
theorem D5_3 : Dec method_3_code 3 (.iload_n 1) 1 4 := ⟨by decide +kernel, rfl⟩
theorem D5_4 : Jmp method_3_code 4 (.ifCond .gt 18) 18 7 22 := ⟨by decide +kernel, rfl, by decide, by decide⟩
theorem D5_7 : Dec method_3_code 7 (.iconst 0) 1 8 := ⟨by decide +kernel, rfl⟩
theorem D5_8 : Dec method_3_code 8 (.iload_n 2) 1 9 := ⟨by decide +kernel, rfl⟩
theorem D5_9 : Jmp method_3_code 9 (.if_icmp .ge 13) 13 12 22 := ⟨by decide +kernel, rfl, by decide, by decide⟩
theorem D5_12 : Dec method_3_code 12 (.aload_n 0) 1 13 := ⟨by decide +kernel, rfl⟩
theorem D5_13 : Dec method_3_code 13 (.iconst 0) 1 14 := ⟨by decide +kernel, rfl⟩
theorem D5_14 : Dec method_3_code 14 .baload 1 15 := ⟨by decide +kernel, rfl⟩
theorem D5_15 : Dec method_3_code 15 (.bipush 10) 2 17 := ⟨by decide +kernel, rfl⟩
theorem D5_17 : Jmp method_3_code 17 (.if_icmp .ne 5) 5 20 22 := ⟨by decide +kernel, rfl, by decide, by decide⟩
theorem D5_20 : Dec method_3_code 20 (.iconst 0) 1 21 := ⟨by decide +kernel, rfl⟩
theorem D5_21 : Dec method_3_code 21 .ireturn 1 22 := ⟨by decide +kernel, rfl⟩
theorem D5_22 : Dec method_3_code 22 (.iload_n 1) 1 23 := ⟨by decide +kernel, rfl⟩
theorem D5_23 : Dec method_3_code 23 (.iconst 1) 1 24 := ⟨by decide +kernel, rfl⟩
theorem D5_24 : Jmp method_3_code 24 (.if_icmp .gt 18) 18 27 42 := ⟨by decide +kernel, rfl, by decide, by decide⟩
theorem D5_27 : Dec method_3_code 27 (.iconst 1) 1 28 := ⟨by decide +kernel, rfl⟩
theorem D5_28 : Dec method_3_code 28 (.iload_n 2) 1 29 := ⟨by decide +kernel, rfl⟩
theorem D5_29 : Jmp method_3_code 29 (.if_icmp .ge 13) 13 32 42 := ⟨by decide +kernel, rfl, by decide, by decide⟩
theorem D5_32 : Dec method_3_code 32 (.aload_n 0) 1 33 := ⟨by decide +kernel, rfl⟩
theorem D5_33 : Dec method_3_code 33 (.iconst 1) 1 34 := ⟨by decide +kernel, rfl⟩
theorem D5_34 : Dec method_3_code 34 .baload 1 35 := ⟨by decide +kernel, rfl⟩
theorem D5_35 : Dec method_3_code 35 (.bipush 10) 2 37 := ⟨by decide +kernel, rfl⟩
theorem D5_37 : Jmp method_3_code 37 (.if_icmp .ne 5) 5 40 42 := ⟨by decide +kernel, rfl, by decide, by decide⟩
theorem D5_40 : Dec method_3_code 40 (.iconst 1) 1 41 := ⟨by decide +kernel, rfl⟩
theorem D5_41 : Dec method_3_code 41 .ireturn 1 42 := ⟨by decide +kernel, rfl⟩
theorem D5_42 : Dec method_3_code 42 (.iload_n 1) 1 43 := ⟨by decide +kernel, rfl⟩
theorem D5_43 : Dec method_3_code 43 (.iconst 2) 1 44 := ⟨by decide +kernel, rfl⟩
theorem D5_44 : Jmp method_3_code 44 (.if_icmp .gt 18) 18 47 62 := ⟨by decide +kernel, rfl, by decide, by decide⟩
theorem D5_47 : Dec method_3_code 47 (.iconst 2) 1 48 := ⟨by decide +kernel, rfl⟩
theorem D5_48 : Dec method_3_code 48 (.iload_n 2) 1 49 := ⟨by decide +kernel, rfl⟩
theorem D5_49 : Jmp method_3_code 49 (.if_icmp .ge 13) 13 52 62 := ⟨by decide +kernel, rfl, by decide, by decide⟩
theorem D5_52 : Dec method_3_code 52 (.aload_n 0) 1 53 := ⟨by decide +kernel, rfl⟩
theorem D5_53 : Dec method_3_code 53 (.iconst 2) 1 54 := ⟨by decide +kernel, rfl⟩
theorem D5_54 : Dec method_3_code 54 .baload 1 55 := ⟨by decide +kernel, rfl⟩
theorem D5_55 : Dec method_3_code 55 (.bipush 10) 2 57 := ⟨by decide +kernel, rfl⟩
theorem D5_57 : Jmp method_3_code 57 (.if_icmp .ne 5) 5 60 62 := ⟨by decide +kernel, rfl, by decide, by decide⟩
theorem D5_60 : Dec method_3_code 60 (.iconst 2) 1 61 := ⟨by decide +kernel, rfl⟩
theorem D5_61 : Dec method_3_code 61 .ireturn 1 62 := ⟨by decide +kernel, rfl⟩
theorem D5_62 : Dec method_3_code 62 (.iload_n 1) 1 63 := ⟨by decide +kernel, rfl⟩
theorem D5_63 : Dec method_3_code 63 (.iconst 3) 1 64 := ⟨by decide +kernel, rfl⟩
theorem D5_64 : Jmp method_3_code 64 (.if_icmp .gt 18) 18 67 82 := ⟨by decide +kernel, rfl, by decide, by decide⟩
theorem D5_67 : Dec method_3_code 67 (.iconst 3) 1 68 := ⟨by decide +kernel, rfl⟩
theorem D5_68 : Dec method_3_code 68 (.iload_n 2) 1 69 := ⟨by decide +kernel, rfl⟩
theorem D5_69 : Jmp method_3_code 69 (.if_icmp .ge 13) 13 72 82 := ⟨by decide +kernel, rfl, by decide, by decide⟩
theorem D5_72 : Dec method_3_code 72 (.aload_n 0) 1 73 := ⟨by decide +kernel, rfl⟩
theorem D5_73 : Dec method_3_code 73 (.iconst 3) 1 74 := ⟨by decide +kernel, rfl⟩
theorem D5_74 : Dec method_3_code 74 .baload 1 75 := ⟨by decide +kernel, rfl⟩
theorem D5_75 : Dec method_3_code 75 (.bipush 10) 2 77 := ⟨by decide +kernel, rfl⟩
theorem D5_77 : Jmp method_3_code 77 (.if_icmp .ne 5) 5 80 82 := ⟨by decide +kernel, rfl, by decide, by decide⟩
theorem D5_80 : Dec method_3_code 80 (.iconst 3) 1 81 := ⟨by decide +kernel, rfl⟩
theorem D5_81 : Dec method_3_code 81 .ireturn 1 82 := ⟨by decide +kernel, rfl⟩
theorem D5_82 : Dec method_3_code 82 (.iload_n 2) 1 83 := ⟨by decide +kernel, rfl⟩
theorem D5_83 : Dec method_3_code 83 .ireturn 1 84 := ⟨by decide +kernel, rfl⟩
theorem D6_0 : Dec prog_32_method_5_code 0 (.aload_n 0) 1 1 := ⟨by decide +kernel, rfl⟩
theorem D6_1 : Dec prog_32_method_5_code 1 (.getfield 17) 3 4 := ⟨by decide +kernel, rfl⟩
theorem D6_4 : Dec prog_32_method_5_code 4 .ireturn 1 5 := ⟨by decide +kernel, rfl⟩
theorem D7_0 : Dec prog_32_method_6_code 0 (.aload_n 0) 1 1 := ⟨by decide +kernel, rfl⟩
theorem D7_1 : Dec prog_32_method_6_code 1 (.getfield 20) 3 4 := ⟨by decide +kernel, rfl⟩
theorem D7_4 : Dec prog_32_method_6_code 4 .ireturn 1 5 := ⟨by decide +kernel, rfl⟩
theorem D8_0 : Dec prog_32_method_4_code 0 (.aload_n 0) 1 1 := ⟨by decide +kernel, rfl⟩
theorem D8_1 : Dec prog_32_method_4_code 1 (.getfield 23) 3 4 := ⟨by decide +kernel, rfl⟩
theorem D8_4 : Dec prog_32_method_4_code 4 .ireturn 1 5 := ⟨by decide +kernel, rfl⟩
theorem D9_0 : Dec prog_32_method_2_code 0 (.aload_n 0) 1 1 := ⟨by decide +kernel, rfl⟩
theorem D9_1 : Dec prog_32_method_2_code 1 (.getfield 13) 3 4 := ⟨by decide +kernel, rfl⟩
theorem D9_4 : Dec prog_32_method_2_code 4 (.aload_n 0) 1 5 := ⟨by decide +kernel, rfl⟩
theorem D9_5 : Dec prog_32_method_2_code 5 (.getfield 7) 3 8 := ⟨by decide +kernel, rfl⟩
theorem D9_8 : Dec prog_32_method_2_code 8 .arraylength 1 9 := ⟨by decide +kernel, rfl⟩
theorem D9_9 : Jmp prog_32_method_2_code 9 (.if_icmp .ge 7) 7 12 16 := ⟨by decide +kernel, rfl, by decide, by decide⟩
theorem D9_12 : Dec prog_32_method_2_code 12 (.iconst 1) 1 13 := ⟨by decide +kernel, rfl⟩
theorem D9_13 : Jmp prog_32_method_2_code 13 (.goto 4) 4 16 17 := ⟨by decide +kernel, rfl, by decide, by decide⟩
theorem D9_16 : Dec prog_32_method_2_code 16 (.iconst 0) 1 17 := ⟨by decide +kernel, rfl⟩
theorem D9_17 : Dec prog_32_method_2_code 17 .ireturn 1 18 := ⟨by decide +kernel, rfl⟩
theorem pd_0 : parseMethodDescriptor "([BIII)V" = some ⟨[(.array .byte), .int, .int, .int], none⟩ := by decide +kernel
theorem pd_1 : parseMethodDescriptor "([B)V" = some ⟨[(.array .byte)], none⟩ := by decide +kernel
theorem pd_2 : parseMethodDescriptor "()V" = some ⟨[], none⟩ := by decide +kernel
theorem pd_3 : parseMethodDescriptor "([BI)I" = some ⟨[(.array .byte), .int], some .int⟩ := by decide +kernel
theorem pd_4 : parseMethodDescriptor "()I" = some ⟨[], some .int⟩ := by decide +kernel
theorem pd_5 : parseMethodDescriptor "()Z" = some ⟨[], some .boolean⟩ := by decide +kernel
section OwnNums
theorem n_bv (a : Nat) : (Int32.ofNat a).toBitVec = BitVec.ofNat 32 a := rfl
theorem eq_mod {x y : Int32} (h : (x.toInt - y.toInt) % 4294967296 = 0) : x = y := Int32.toInt_inj.mp (by have := rng32 x; have := rng32 y; omega)
theorem eq_modL {x y : Int64} (h : (x.toInt - y.toInt) % 18446744073709551616 = 0) : x = y := Int64.toInt_inj.mp (by have := rng64 x; have := rng64 y; omega)
theorem n_add (a b : Nat) : Int32.ofNat a + Int32.ofNat b = Int32.ofNat (a + b) := (Int32.ofNat_add a b).symm
theorem n_mul (a b : Nat) : Int32.ofNat a * Int32.ofNat b = Int32.ofNat (a * b) := (Int32.ofNat_mul a b).symm
theorem n_sub {a b : Nat} (h : b ≤ a) : Int32.ofNat a - Int32.ofNat b = Int32.ofNat (a - b) := by
  have := n_add (a - b) b
  rw [Nat.sub_add_cancel h] at this
  rw [← this, Int32.add_sub_cancel]
theorem n_and (a b : Nat) : Int32.ofNat a &&& Int32.ofNat b = Int32.ofNat (a &&& b) := by
  apply Int32.toBitVec_inj.mp
  rw [Int32.toBitVec_and, n_bv, n_bv, n_bv]
  exact BitVec.ofNat_and.symm
theorem n_or (a b : Nat) : Int32.ofNat a ||| Int32.ofNat b = Int32.ofNat (a ||| b) := by
  apply Int32.toBitVec_inj.mp
  rw [Int32.toBitVec_or, n_bv, n_bv, n_bv]
  exact BitVec.ofNat_or.symm
theorem n_q {k : Nat} (hk : k < 32) : (Int32.ofNat k).toBitVec.toNat % 32 = k := by
  rw [n_bv, BitVec.toNat_ofNat]; omega
theorem n_q64 {k : Nat} (hk : k < 64) : (Int32.ofNat k).toBitVec.toNat % 64 = k := by
  rw [n_bv, BitVec.toNat_ofNat]; omega
theorem toInt_mod (a : Nat) : ((Int32.ofNat a).toInt - a) % 4294967296 = 0 := by
  have h := bm32 (((BitVec.ofNat 32 a).toNat : Nat) : Int)
  rw [show (Int32.ofNat a).toInt = (BitVec.ofNat 32 a).toInt from rfl, BitVec.toInt_eq_toNat_bmod]
  rw [BitVec.toNat_ofNat] at *
  generalize Int.bmod ((a % 2 ^ 32 : Nat) : Int) (2 ^ 32) = w1 at *
  omega
theorem n_inj {a b : Nat} (ha : a < 2147483648) (hb : b < 2147483648) : Int32.ofNat a = Int32.ofNat b ↔ a = b := ⟨fun h => by have := congrArg Int32.toInt h; rw [ofNat_toInt ha, ofNat_toInt hb] at this; omega, fun h => by rw [h]⟩
theorem n_shl (a : Nat) {k : Nat} (hk : k < 32) : jshl (Int32.ofNat a) (Int32.ofNat k) = Int32.ofNat (a * 2 ^ k) := by
  apply eq_mod
  have h1 : ((jshl (Int32.ofNat a) (Int32.ofNat k)).toInt - (Int32.ofNat a).toInt * ((2 ^ k : Nat) : Int)) % 4294967296 = 0 := c_ishl (Int32.ofNat a) (Int32.ofNat k) k (n_q hk)
  generalize (jshl (Int32.ofNat a) (Int32.ofNat k)).toInt = w1 at *
  have h2 := toInt_mod (a * 2 ^ k)
  have h3 := toInt_mod a
  obtain ⟨q, hq⟩ := Int.dvd_of_emod_eq_zero h3
  have h4 : (Int32.ofNat a).toInt * ((2 ^ k : Nat) : Int) - ((a * 2 ^ k : Nat) : Int) = 4294967296 * (q * ((2 ^ k : Nat) : Int)) := by
    rw [Int.natCast_mul, ← Int.sub_mul, hq, Int.mul_assoc]
  omega
theorem n_ushr0 (x : Int32) : jushr x 0 = x := by
  apply Int32.toBitVec_inj.mp
  simp [jushr]
theorem n_ushr {a k : Nat} (ha : a < 2147483648) (hk : k < 32) : jushr (Int32.ofNat a) (Int32.ofNat k) = Int32.ofNat (a / 2 ^ k) := by
  rcases Nat.eq_zero_or_pos k with rfl | h0
  · rw [Nat.pow_zero, Nat.div_one]; exact n_ushr0 _
  · have hd : a / 2 ^ k ≤ a := Nat.div_le_self _ _
    refine eq_ofNat (by omega) ?_
    rw [c_iushr (Int32.ofNat a) (Int32.ofNat k) k (n_q hk) h0, ofNat_toInt ha, show ((a : Int) % 4294967296) = a by omega]
    exact (Int.natCast_ediv _ _).symm
theorem n_shr {a k : Nat} (ha : a < 2147483648) (hk : k < 32) : jshr (Int32.ofNat a) (Int32.ofNat k) = Int32.ofNat (a / 2 ^ k) := by
  have hd : a / 2 ^ k ≤ a := Nat.div_le_self _ _
  refine eq_ofNat (by omega) ?_
  rw [c_ishr (Int32.ofNat a) (Int32.ofNat k) k (n_q hk), ofNat_toInt ha]
  exact (Int.natCast_ediv _ _).symm
theorem n_low (a k : Nat) : Int32.ofNat a &&& Int32.ofNat (2 ^ k - 1) = Int32.ofNat (a % 2 ^ k) := by rw [n_and, Nat.and_two_pow_sub_one_eq_mod]
theorem n_orlow (a : Nat) {i t : Nat} (ht : t < 2 ^ i) : Int32.ofNat (2 ^ i * a) ||| Int32.ofNat t = Int32.ofNat (2 ^ i * a + t) := by rw [n_or, Nat.two_pow_add_eq_or_of_lt ht]
theorem n_rem {a k : Nat} (ha : a < 2147483648) (h1 : 0 < k) (hk : k < 2147483648) : Int32.ofNat a % Int32.ofNat k = Int32.ofNat (a % k) := by
  have hm := Nat.mod_lt a h1
  refine eq_ofNat (by omega) ?_
  rw [(c_irem (Int32.ofNat a) (Int32.ofNat k) k (ofNat_toInt hk)).1 (by rw [ofNat_toInt ha]; omega), ofNat_toInt ha]
  exact (Int.natCast_emod _ _).symm
theorem n_nn (x : Int32) (h : 0 ≤ x.toInt) : ∃ u : Nat, u < 2147483648 ∧ x = Int32.ofNat u := by
  have := rng32 x
  exact ⟨x.toInt.toNat, by omega, eq_ofNat (by omega) (by omega)⟩
theorem n_mask31 (x : Int32) : ∃ u : Nat, u < 2147483648 ∧ x &&& 2147483647 = Int32.ofNat u := n_nn _ (c_and x 2147483647 (by decide)).1
theorem n_mask (x : Int32) (k : Nat) (hk : k ≤ 31) {m : Int32} (hm : m.toBitVec.toNat = 2 ^ k - 1) : x &&& m = Int32.ofNat ((x.toInt % (2 ^ k : Nat)).toNat) := by
  have h1 : (0 : Int) < ((2 ^ k : Nat) : Int) := by
    have := Nat.two_pow_pos k
    omega
  have h2 : ((2 ^ k : Nat) : Int) ≤ 2147483648 := by
    have : 2 ^ k ≤ 2147483648 := Nat.pow_le_pow_right (n := 2) (by decide) hk
    omega
  have h3 := Int.emod_nonneg x.toInt (Int.ne_of_gt h1)
  have h4 := Int.emod_lt_of_pos x.toInt h1
  exact eq_ofNat (by omega) (by rw [c_mask x m k hk hm]; omega)
theorem jbyte_idem (x : Int32) : jbyte (jbyte x) = jbyte x := by
  have h1 := c_i2b x
  have h2 := c_i2b (jbyte x)
  exact Int32.toInt_inj.mp (by simp only [jbyte] at *; omega)
theorem jbyte_and (x : Int32) (k : Nat) (hk : k ≤ 8) {m : Int32} (hm : m.toBitVec.toNat = 2 ^ k - 1) : jbyte x &&& m = x &&& m := by
  have h1 := (c_i2b x).1
  apply Int32.toInt_inj.mp
  rw [c_mask _ m k (by omega) hm, c_mask _ m k (by omega) hm]
  have : ∃ c : Nat, 256 = 2 ^ k * c := ⟨2 ^ (8 - k), by rw [← Nat.pow_add, show k + (8 - k) = 8 by omega]⟩
  obtain ⟨c, hc⟩ := this
  obtain ⟨q, hq⟩ := Int.dvd_of_emod_eq_zero h1
  have h2 : (jbyte x).toInt = x.toInt + ((2 ^ k : Nat) : Int) * ((c : Int) * q) := by
    have h3 : (256 : Int) = ((2 ^ k : Nat) : Int) * (c : Int) := by rw [← Int.natCast_mul, ← hc]; rfl
    rw [h3, Int.mul_assoc] at hq
    simp only [jbyte]; omega
  rw [h2, Int.add_mul_emod_self_left]
end OwnNums

def Lin (Z : State) (n0 : Nat) (h : Heap) (o : Addr) (v_0 v_1 v_2 v_3 v_4 : Value) : Prop := n0 ≤ o ∧ Exa Z h o "com/example/wireproof/wireproof/cli/Lines" ∧ Fld Z h o "com/example/wireproof/wireproof/cli/Lines" "text" "[B" v_0 ∧ Fld Z h o "com/example/wireproof/wireproof/cli/Lines" "next" "I" v_1 ∧ Fld Z h o "com/example/wireproof/wireproof/cli/Lines" "start" "I" v_2 ∧ Fld Z h o "com/example/wireproof/wireproof/cli/Lines" "end" "I" v_3 ∧ Fld Z h o "com/example/wireproof/wireproof/cli/Lines" "number" "I" v_4
theorem Lin.ext {Z : State} {n0 : Nat} {h h' : Heap} {o : Addr} {v_0 v_1 v_2 v_3 v_4 : Value} (O : Lin Z n0 h o v_0 v_1 v_2 v_3 v_4) (X : Ext h h') : Lin Z n0 h' o v_0 v_1 v_2 v_3 v_4 := by
  obtain ⟨q0, E, F0, F1, F2, F3, F4⟩ := O
  exact ⟨q0, E.ext X, F0.ext X, F1.ext X, F2.ext X, F3.ext X, F4.ext X⟩
theorem Lin.keep {Z : State} {n0 : Nat} {h h' : Heap} {o : Addr} {v_0 v_1 v_2 v_3 v_4 : Value} {ws : List Addr} (O : Lin Z n0 h o v_0 v_1 v_2 v_3 v_4) (K : Keep h h' ws) (q : o ∉ ws) : Lin Z n0 h' o v_0 v_1 v_2 v_3 v_4 := by
  obtain ⟨q0, E, F0, F1, F2, F3, F4⟩ := O
  exact ⟨q0, E.keep K, F0.keep K q, F1.keep K q, F2.keep K q, F3.keep K q, F4.keep K q⟩
theorem Lin.neB {Z : State} {n0 : Nat} {h : Heap} {o : Addr} {v_0 v_1 v_2 v_3 v_4 : Value} {a0 : Array Value} {a : Addr} {ty : FieldType} {n : Nat} {g : Nat → Value} (hw : ∀ d ∈ tables_1, d.before a0 Z = true) (O : Lin Z n0 h o v_0 v_1 v_2 v_3 v_4) (B : Ba Z n0 h a ty n g) : o ≠ a := by
  obtain ⟨-, -, c, A, -⟩ := B
  exact ne_arr O.2.1 (hw _ (List.mem_of_getElem? (i := 6) rfl)) A
theorem Lin.keepB {Z : State} {n0 : Nat} {h h' : Heap} {o : Addr} {v_0 v_1 v_2 v_3 v_4 : Value} {a0 : Array Value} {a : Addr} {ty : FieldType} {n : Nat} {g : Nat → Value} (hw : ∀ d ∈ tables_1, d.before a0 Z = true) (O : Lin Z n0 h o v_0 v_1 v_2 v_3 v_4) (B : Ba Z n0 h a ty n g) (K : Keep h h' [a]) : Lin Z n0 h' o v_0 v_1 v_2 v_3 v_4 := O.keep K (ninS (O.neB hw B) nin0)
theorem Lin.baW {Z : State} {n0 : Nat} {h h' : Heap} {o : Addr} {v_0 v_1 v_2 v_3 v_4 : Value} {a0 : Array Value} {a : Addr} {ty : FieldType} {n sl : Nat} {v : Value} {g : Nat → Value} (hw : ∀ d ∈ tables_1, d.before a0 Z = true) (O : Lin Z n0 h o v_0 v_1 v_2 v_3 v_4) (B : Ba Z n0 h a ty n g) (W : Wr h h' o sl v) : Ba Z n0 h' a ty n g := B.keep (Keep.of_wr W) (ninS (Ne.symm (O.neB hw B)) nin0)
theorem Lin.baK {Z : State} {n0 : Nat} {h h' : Heap} {o : Addr} {v_0 v_1 v_2 v_3 v_4 : Value} {a0 : Array Value} {a : Addr} {ty : FieldType} {n : Nat} {g : Nat → Value} (hw : ∀ d ∈ tables_1, d.before a0 Z = true) (O : Lin Z n0 h o v_0 v_1 v_2 v_3 v_4) (B : Ba Z n0 h a ty n g) (K : Keep h h' [o]) : Ba Z n0 h' a ty n g := B.keep K (ninS (Ne.symm (O.neB hw B)) nin0)
theorem Lin.put_text {Z : State} {n0 : Nat} {h h' : Heap} {o : Addr} {v_0 v_1 v_2 v_3 v_4 : Value} {a0 : Array Value} {v : Value} (hw : ∀ d ∈ tables_1, d.before a0 Z = true) (O : Lin Z n0 h o v_0 v_1 v_2 v_3 v_4) (W : Wr h h' o (Jvm.RoadKit.slotOf Z "com/example/wireproof/wireproof/cli/Lines" "text" "[B") v) : Lin Z n0 h' o v v_1 v_2 v_3 v_4 := by
  obtain ⟨q0, E, F0, F1, F2, F3, F4⟩ := O
  exact ⟨q0, E.wr W, (F0.same W), (F1.other W (Or.inr (slot_ne (Or.inl (hw _ (List.mem_of_getElem? (i := 22) rfl))) (Or.inr (hw _ (List.mem_of_getElem? (i := 15) rfl))) (by decide) (t := .int) (t' := (.array .byte)) (by decide) (by decide)))), (F2.other W (Or.inr (slot_ne (Or.inl (hw _ (List.mem_of_getElem? (i := 24) rfl))) (Or.inr (hw _ (List.mem_of_getElem? (i := 15) rfl))) (by decide) (t := .int) (t' := (.array .byte)) (by decide) (by decide)))), (F3.other W (Or.inr (slot_ne (Or.inl (hw _ (List.mem_of_getElem? (i := 26) rfl))) (Or.inr (hw _ (List.mem_of_getElem? (i := 15) rfl))) (by decide) (t := .int) (t' := (.array .byte)) (by decide) (by decide)))), (F4.other W (Or.inr (slot_ne (Or.inl (hw _ (List.mem_of_getElem? (i := 28) rfl))) (Or.inr (hw _ (List.mem_of_getElem? (i := 15) rfl))) (by decide) (t := .int) (t' := (.array .byte)) (by decide) (by decide))))⟩
theorem Lin.put_next {Z : State} {n0 : Nat} {h h' : Heap} {o : Addr} {v_0 v_1 v_2 v_3 v_4 : Value} {a0 : Array Value} {v : Value} (hw : ∀ d ∈ tables_1, d.before a0 Z = true) (O : Lin Z n0 h o v_0 v_1 v_2 v_3 v_4) (W : Wr h h' o (Jvm.RoadKit.slotOf Z "com/example/wireproof/wireproof/cli/Lines" "next" "I") v) : Lin Z n0 h' o v_0 v v_2 v_3 v_4 := by
  obtain ⟨q0, E, F0, F1, F2, F3, F4⟩ := O
  exact ⟨q0, E.wr W, (F0.other W (Or.inr (slot_ne (Or.inr (hw _ (List.mem_of_getElem? (i := 15) rfl))) (Or.inl (hw _ (List.mem_of_getElem? (i := 22) rfl))) (by decide) (t := (.array .byte)) (t' := .int) (by decide) (by decide)))), (F1.same W), (F2.other W (Or.inr (slot_ne (Or.inl (hw _ (List.mem_of_getElem? (i := 24) rfl))) (Or.inl (hw _ (List.mem_of_getElem? (i := 22) rfl))) (by decide) (t := .int) (t' := .int) (by decide) (by decide)))), (F3.other W (Or.inr (slot_ne (Or.inl (hw _ (List.mem_of_getElem? (i := 26) rfl))) (Or.inl (hw _ (List.mem_of_getElem? (i := 22) rfl))) (by decide) (t := .int) (t' := .int) (by decide) (by decide)))), (F4.other W (Or.inr (slot_ne (Or.inl (hw _ (List.mem_of_getElem? (i := 28) rfl))) (Or.inl (hw _ (List.mem_of_getElem? (i := 22) rfl))) (by decide) (t := .int) (t' := .int) (by decide) (by decide))))⟩
theorem Lin.put_start {Z : State} {n0 : Nat} {h h' : Heap} {o : Addr} {v_0 v_1 v_2 v_3 v_4 : Value} {a0 : Array Value} {v : Value} (hw : ∀ d ∈ tables_1, d.before a0 Z = true) (O : Lin Z n0 h o v_0 v_1 v_2 v_3 v_4) (W : Wr h h' o (Jvm.RoadKit.slotOf Z "com/example/wireproof/wireproof/cli/Lines" "start" "I") v) : Lin Z n0 h' o v_0 v_1 v v_3 v_4 := by
  obtain ⟨q0, E, F0, F1, F2, F3, F4⟩ := O
  exact ⟨q0, E.wr W, (F0.other W (Or.inr (slot_ne (Or.inr (hw _ (List.mem_of_getElem? (i := 15) rfl))) (Or.inl (hw _ (List.mem_of_getElem? (i := 24) rfl))) (by decide) (t := (.array .byte)) (t' := .int) (by decide) (by decide)))), (F1.other W (Or.inr (slot_ne (Or.inl (hw _ (List.mem_of_getElem? (i := 22) rfl))) (Or.inl (hw _ (List.mem_of_getElem? (i := 24) rfl))) (by decide) (t := .int) (t' := .int) (by decide) (by decide)))), (F2.same W), (F3.other W (Or.inr (slot_ne (Or.inl (hw _ (List.mem_of_getElem? (i := 26) rfl))) (Or.inl (hw _ (List.mem_of_getElem? (i := 24) rfl))) (by decide) (t := .int) (t' := .int) (by decide) (by decide)))), (F4.other W (Or.inr (slot_ne (Or.inl (hw _ (List.mem_of_getElem? (i := 28) rfl))) (Or.inl (hw _ (List.mem_of_getElem? (i := 24) rfl))) (by decide) (t := .int) (t' := .int) (by decide) (by decide))))⟩
theorem Lin.put_end {Z : State} {n0 : Nat} {h h' : Heap} {o : Addr} {v_0 v_1 v_2 v_3 v_4 : Value} {a0 : Array Value} {v : Value} (hw : ∀ d ∈ tables_1, d.before a0 Z = true) (O : Lin Z n0 h o v_0 v_1 v_2 v_3 v_4) (W : Wr h h' o (Jvm.RoadKit.slotOf Z "com/example/wireproof/wireproof/cli/Lines" "end" "I") v) : Lin Z n0 h' o v_0 v_1 v_2 v v_4 := by
  obtain ⟨q0, E, F0, F1, F2, F3, F4⟩ := O
  exact ⟨q0, E.wr W, (F0.other W (Or.inr (slot_ne (Or.inr (hw _ (List.mem_of_getElem? (i := 15) rfl))) (Or.inl (hw _ (List.mem_of_getElem? (i := 26) rfl))) (by decide) (t := (.array .byte)) (t' := .int) (by decide) (by decide)))), (F1.other W (Or.inr (slot_ne (Or.inl (hw _ (List.mem_of_getElem? (i := 22) rfl))) (Or.inl (hw _ (List.mem_of_getElem? (i := 26) rfl))) (by decide) (t := .int) (t' := .int) (by decide) (by decide)))), (F2.other W (Or.inr (slot_ne (Or.inl (hw _ (List.mem_of_getElem? (i := 24) rfl))) (Or.inl (hw _ (List.mem_of_getElem? (i := 26) rfl))) (by decide) (t := .int) (t' := .int) (by decide) (by decide)))), (F3.same W), (F4.other W (Or.inr (slot_ne (Or.inl (hw _ (List.mem_of_getElem? (i := 28) rfl))) (Or.inl (hw _ (List.mem_of_getElem? (i := 26) rfl))) (by decide) (t := .int) (t' := .int) (by decide) (by decide))))⟩
theorem Lin.put_number {Z : State} {n0 : Nat} {h h' : Heap} {o : Addr} {v_0 v_1 v_2 v_3 v_4 : Value} {a0 : Array Value} {v : Value} (hw : ∀ d ∈ tables_1, d.before a0 Z = true) (O : Lin Z n0 h o v_0 v_1 v_2 v_3 v_4) (W : Wr h h' o (Jvm.RoadKit.slotOf Z "com/example/wireproof/wireproof/cli/Lines" "number" "I") v) : Lin Z n0 h' o v_0 v_1 v_2 v_3 v := by
  obtain ⟨q0, E, F0, F1, F2, F3, F4⟩ := O
  exact ⟨q0, E.wr W, (F0.other W (Or.inr (slot_ne (Or.inr (hw _ (List.mem_of_getElem? (i := 15) rfl))) (Or.inl (hw _ (List.mem_of_getElem? (i := 28) rfl))) (by decide) (t := (.array .byte)) (t' := .int) (by decide) (by decide)))), (F1.other W (Or.inr (slot_ne (Or.inl (hw _ (List.mem_of_getElem? (i := 22) rfl))) (Or.inl (hw _ (List.mem_of_getElem? (i := 28) rfl))) (by decide) (t := .int) (t' := .int) (by decide) (by decide)))), (F2.other W (Or.inr (slot_ne (Or.inl (hw _ (List.mem_of_getElem? (i := 24) rfl))) (Or.inl (hw _ (List.mem_of_getElem? (i := 28) rfl))) (by decide) (t := .int) (t' := .int) (by decide) (by decide)))), (F3.other W (Or.inr (slot_ne (Or.inl (hw _ (List.mem_of_getElem? (i := 26) rfl))) (Or.inl (hw _ (List.mem_of_getElem? (i := 28) rfl))) (by decide) (t := .int) (t' := .int) (by decide) (by decide)))), (F4.same W)⟩
theorem Lin.new {Z : State} {n0 : Nat} {h : Heap} {o : Addr} {a0 : Array Value} (hw : ∀ d ∈ tables_1, d.before a0 Z = true) (q0 : n0 ≤ o) (E : Exa Z h o "com/example/wireproof/wireproof/cli/Lines") (D : ∀ {O nm d : String} {ty : FieldType}, Laid Z a0 "com/example/wireproof/wireproof/cli/Lines" O nm d → parseFieldDescriptor d = some ty → Fld Z h o O nm d (defaultValue ty)) : Lin Z n0 h o .null (.int 0) (.int 0) (.int 0) (.int 0) := ⟨q0, E, D (Or.inr (hw _ (List.mem_of_getElem? (i := 15) rfl))) (ty := (.array .byte)) (by decide), D (Or.inl (hw _ (List.mem_of_getElem? (i := 22) rfl))) (ty := .int) (by decide), D (Or.inl (hw _ (List.mem_of_getElem? (i := 24) rfl))) (ty := .int) (by decide), D (Or.inl (hw _ (List.mem_of_getElem? (i := 26) rfl))) (ty := .int) (by decide), D (Or.inl (hw _ (List.mem_of_getElem? (i := 28) rfl))) (ty := .int) (by decide)⟩
/-- where the first LF stands among r places from i on -/
def fl (g : Nat → Int32) : Nat → Nat → Nat
  | 0, i => i
  | r + 1, i => if g i = 10 then i else fl g r (i + 1)
theorem fl_le (g : Nat → Int32) : ∀ r i, i ≤ fl g r i ∧ fl g r i ≤ i + r
  | 0, i => ⟨Nat.le_refl _, Nat.le_refl _⟩
  | r + 1, i => by have := fl_le g r (i + 1); rw [fl]; split <;> omega
def fb (g : Nat → Int32) (S n i z : Nat) : Nat := if S ≤ i ∧ i < n ∧ g i = 10 then i else z
theorem own_fl (g : Nat → Int32) (S n r : Nat) (h : S + r = n) (hn : n ≤ 4) : fb g S n 0 (fb g S n 1 (fb g S n 2 (fb g S n 3 n))) = fl g r S := by
  have hS : S = 0 ∨ S = 1 ∨ S = 2 ∨ S = 3 ∨ S = 4 := by omega
  have hr : r = 0 ∨ r = 1 ∨ r = 2 ∨ r = 3 ∨ r = 4 := by omega
  subst h
  rcases hS with rfl | rfl | rfl | rfl | rfl <;> rcases hr with rfl | rfl | rfl | rfl | rfl <;> first | (exfalso; omega) | simp [fb, fl]
theorem own_at (x : Int32) : ∃ A : Nat, A < 4 ∧ x &&& 3 = Int32.ofNat A := ⟨_, by omega, n_mask x 2 (by decide) (m := 3) (by decide)⟩
theorem ef_1 (m : MethodId) (a : Addr) (i0 : Int32) (x : Int32) (lf : Int32) : entryFrame m #[(.ref a), (.int i0), (.int x), (.int lf)] 4 = mkF m 0 #[.val (.ref a), .val (.int i0), .val (.int x), .val (.int lf)] [] := by first | (simp [entryFrame, mkF, argsToLocals, Value.category]; done) | rfl
theorem pn_1 : plainName "com/example/wireproof/wireproof/cli/LinesNextPinLaw" = true := by first | (simp [plainName, overriddenIn]; done) | decide +kernel
set_option maxRecDepth 65536 in
set_option maxHeartbeats 40000000 in
theorem rm1 {l : Launch} {Z : State} {a0 : Array Value} {n0 : Nat} {h : Heap} (hw : ∀ d ∈ tables_1, d.before a0 Z = true) (hn : n0 ≤ h.size) (a : Addr) (i0 : Int32) (x : Int32) (lf : Int32) (I n : Nat) (g : Nat → Int32) (eI : i0 = Int32.ofNat I) (hI : I < 4) (hn4 : n ≤ 4) (B : Ba Z n0 h a .byte n (bI g)) :
    Ctr l Z n0 (⟨"com/example/wireproof/wireproof/cli/LinesNextPinLaw", "put", "([BIII)V"⟩ : MethodName) method_2_code 4 none ({ frames := 0, cells := 0, slots := 0, locals := 0 } : Room) [] #[(.ref a), (.int i0), (.int x), (.int lf)] h (fun v h' => v = none ∧ Keep h h' [a] ∧ ∃ g', Ba Z n0 h' a .byte n (bI g')) := by
  refine ctr_of (plainFor_of_name pn_1) hw hn ?_
  intro p e s m below meth c T X
  refine Wp.cast (ef_1 m a i0 x lf) ?_
  subst eI
  refine w_iloadN X D1_0 rfl ?_
  refine w_aloadN X D1_1 rfl rfl ?_
  refine w_arraylength X D1_2 B ?_
  refine w_icmpge X D1_3 (fun hc3 => ?_) (fun hc3 => ?_)
  · exact w_return X D1_32 (by decide) (by decide) (⟨rfl, Keep.refl _ _, _, B⟩)
  · refine w_iloadN X D1_6 rfl ?_
    refine w_iloadN X D1_7 rfl ?_
    refine w_ishr X D1_8 ?_
    refine w_iconst X D1_9 (v := (1 : Int32)) rfl ?_
    refine w_iand X D1_10 ?_
    refine w_ifeq X D1_11 (fun hc11 => ?_) (fun hc11 => ?_)
    · refine w_aloadN X D1_22 rfl rfl ?_
      refine w_iloadN X D1_23 rfl ?_
      refine w_iloadN X D1_24 rfl ?_
      refine w_bipush X D1_25 (v := (8 : Int32)) rfl ?_
      refine w_iloadN X D1_27 rfl ?_
      refine w_imul X D1_28 ?_
      refine w_ishr X D1_29 ?_
      refine w_i2b X D1_30 ?_
      refine w_bastore X D1_31 B I rfl ((ofNat_lt (by omega) (by omega)).mp hc3) (fun T1 h1 X1 K1 B1 => ?_)
      exact w_return X1 D1_32 (by decide) (by decide) (⟨rfl, K1, _, B1⟩)
    · refine w_aloadN X D1_14 rfl rfl ?_
      refine w_iloadN X D1_15 rfl ?_
      refine w_bipush X D1_16 (v := (10 : Int32)) rfl ?_
      refine w_bastore X D1_18 B I rfl ((ofNat_lt (by omega) (by omega)).mp hc3) (fun T2 h2 X2 K2 B2 => ?_)
      refine w_goto X2 D1_19 ?_
      exact w_return X2 D1_32 (by decide) (by decide) (⟨rfl, K2, _, B2⟩)
theorem ef_2 (m : MethodId) (l0 : Addr) (t : Addr) : entryFrame m #[(.ref l0), (.ref t)] 2 = mkF m 0 #[.val (.ref l0), .val (.ref t)] [] := by first | (simp [entryFrame, mkF, argsToLocals, Value.category]; done) | rfl
theorem pn_2 : plainName "com/example/wireproof/wireproof/cli/Lines" = true := by first | (simp [plainName, overriddenIn]; done) | decide +kernel
set_option maxRecDepth 65536 in
set_option maxHeartbeats 40000000 in
theorem rm2 {l : Launch} {Z : State} {a0 : Array Value} {n0 : Nat} {h : Heap} (hw : ∀ d ∈ tables_1, d.before a0 Z = true) (hn : n0 ≤ h.size) (l0 : Addr) (t : Addr) (O : Lin Z n0 h l0 .null (.int 0) (.int 0) (.int 0) (.int 0)) :
    Ctr l Z n0 (⟨"com/example/wireproof/wireproof/cli/Lines", "<init>", "([B)V"⟩ : MethodName) prog_32_method_1_code 2 none ({ frames := 1, cells := 0, slots := 0, locals := 12 } : Room) [] #[(.ref l0), (.ref t)] h (fun v h' => v = none ∧ Keep h h' [l0] ∧ Lin Z n0 h' l0 (.ref t) (.int 0) (.int 0) (.int 0) (.int 0)) := by
  refine ctr_of (plainFor_of_name pn_2) hw hn ?_
  intro p e s m below meth c T X
  refine Wp.cast (ef_2 m l0 t) ?_
  refine w_aloadN X D2_0 rfl rfl ?_
  refine w_initO X D2_1 (hw _ (List.mem_of_getElem? (i := 11) rfl)) (hw _ (List.mem_of_getElem? (i := 12) rfl)) (hw _ (List.mem_of_getElem? (i := 13) rfl)) rfl (Nat.le_of_ble_eq_true rfl) (Nat.le_of_ble_eq_true rfl) (fun T1 X1 => ?_)
  refine w_aloadN X1 D2_4 rfl rfl ?_
  refine w_aloadN X1 D2_5 rfl rfl ?_
  refine w_putF X1 D2_6 (hw _ (List.mem_of_getElem? (i := 14) rfl)) O.2.2.1 O.2.1 O.1 (Or.inr ⟨(hw _ (List.mem_of_getElem? (i := 15) rfl)), rfl, rfl⟩) (hw _ (List.mem_of_getElem? (i := 6) rfl)) (ty := (.array .byte)) (by decide) rfl rfl (fun T2 h2 X2 W2 => ?_)
  have O2 := O.put_text hw W2
  exact w_return X2 D2_9 (by decide) (by decide) (⟨rfl, (Keep.of_wr W2), O2⟩)
set_option maxRecDepth 65536 in
set_option maxHeartbeats 40000000 in
theorem loop4 {Z : State} {a0 : Array Value} {n0 : Nat} {p : Program} {l : Launch} {e : Env} {R : Room} {s : State} {m : MethodId} {args : Array Value} {below : List Frame} {meth : Method} {c : Code} {k j : Nat} {Q : Option Value → Heap → Prop} (hw : ∀ d ∈ tables_1, d.before a0 Z = true) (l0 t : Addr) (nx0 s0 nu : Int32) (n : Nat) (g : Nat → Int32) (hn4 : n ≤ 4) : ∀ r i T h, i + r = n → Pos Z a0 n0 p l e R s m args below meth c prog_32_method_3_code 1 none (⟨"com/example/wireproof/wireproof/cli/Lines", "next", "()V"⟩ : MethodName) T h k j → Lin Z n0 h l0 (.ref t) (.int nx0) (.int s0) (.int (Int32.ofNat i)) (.int nu) → Ba Z n0 h t .byte n (bI g) →
    (∀ T' h', Pos Z a0 n0 p l e R s m args below meth c prog_32_method_3_code 1 none (⟨"com/example/wireproof/wireproof/cli/Lines", "next", "()V"⟩ : MethodName) T' h' k j → Keep h h' [l0] → Lin Z n0 h' l0 (.ref t) (.int nx0) (.int s0) (.int (Int32.ofNat (fl g r i))) (.int nu) → Ba Z n0 h' t .byte n (bI g) → Wp n0 p e R s below Q T' (mkF m 55 #[.val (.ref l0)] [])) → Wp n0 p e R s below Q T (mkF m 16 #[.val (.ref l0)] []) := by
  intro r
  induction r with
  | zero =>
    intro i T h hi X O B q
    refine w_aloadN X D4_16 rfl rfl ?_
    refine w_getF X D4_17 (hw _ (List.mem_of_getElem? (i := 25) rfl)) O.2.2.2.2.2.1 (fun T1 X1 => ?_)
    refine w_aloadN X1 D4_20 rfl rfl ?_
    refine w_getF X1 D4_21 (hw _ (List.mem_of_getElem? (i := 14) rfl)) O.2.2.1 (fun T2 X2 => ?_)
    refine w_arraylength X2 D4_24 B ?_
    refine w_icmpge X2 D4_25 (fun hc25 => ?_) (fun hc25 => by have z1 := (ofNat_lt (by omega) (by omega)).mp hc25; omega)
    exact q _ h X2 (Keep.refl _ _) O B
  | succ r ih =>
    intro i T h hi X O B q
    refine w_aloadN X D4_16 rfl rfl ?_
    refine w_getF X D4_17 (hw _ (List.mem_of_getElem? (i := 25) rfl)) O.2.2.2.2.2.1 (fun T1 X1 => ?_)
    refine w_aloadN X1 D4_20 rfl rfl ?_
    refine w_getF X1 D4_21 (hw _ (List.mem_of_getElem? (i := 14) rfl)) O.2.2.1 (fun T2 X2 => ?_)
    refine w_arraylength X2 D4_24 B ?_
    refine w_icmpge X2 D4_25 (fun hc25 => by have z1 : ¬ i < n := (fun z => hc25 ((ofNat_lt (by omega) (by omega)).mpr z)); omega) (fun hc25 => ?_)
    refine w_aloadN X2 D4_28 rfl rfl ?_
    refine w_getF X2 D4_29 (hw _ (List.mem_of_getElem? (i := 14) rfl)) O.2.2.1 (fun T3 X3 => ?_)
    refine w_aloadN X3 D4_32 rfl rfl ?_
    refine w_getF X3 D4_33 (hw _ (List.mem_of_getElem? (i := 25) rfl)) O.2.2.2.2.2.1 (fun T4 X4 => ?_)
    refine w_baload X4 D4_36 B i rfl (by omega) ?_
    refine w_bipush X4 D4_37 (v := (10 : Int32)) rfl ?_
    refine w_icmpeq X4 D4_39 (fun hc39 => ?_) (fun hc39 => ?_)
    · have e1 : fl g (r + 1) i = i := by rw [fl, if_pos hc39]
      rw [e1] at q
      exact q _ h X4 (Keep.refl _ _) O B
    · refine w_aloadN X4 D4_42 rfl rfl ?_
      refine w_dup X4 D4_43 rfl ?_
      refine w_getF X4 D4_44 (hw _ (List.mem_of_getElem? (i := 25) rfl)) O.2.2.2.2.2.1 (fun T5 X5 => ?_)
      refine w_iconst X5 D4_47 (v := (1 : Int32)) rfl ?_
      refine w_iadd X5 D4_48 ?_
      rw [show Int32.ofNat i + 1 = Int32.ofNat (i + 1) from n_add i 1]
      refine w_putF X5 D4_49 (hw _ (List.mem_of_getElem? (i := 25) rfl)) O.2.2.2.2.2.1 O.2.1 O.1 (Or.inl (hw _ (List.mem_of_getElem? (i := 26) rfl))) (hw _ (List.mem_of_getElem? (i := 6) rfl)) (ty := .int) (by decide) rfl rfl (fun T6 h6 X6 W6 => ?_)
      have O6 := O.put_end hw W6
      have B_W6 := O.baW hw B W6
      refine w_goto X6 D4_52 ?_
      have e1 : fl g (r + 1) i = fl g r (i + 1) := by rw [fl, if_neg hc39]
      rw [e1] at q
      exact ih (i + 1) _ _ (by omega) X6 O6 B_W6 (fun T' h' X' K' O' B' => q T' h' X' ((Keep.of_wr W6).trans K' (fun x hx => Or.inl hx)) O' B')
theorem ef_4 (m : MethodId) (l0 : Addr) : entryFrame m #[(.ref l0)] 1 = mkF m 0 #[.val (.ref l0)] [] := by first | (simp [entryFrame, mkF, argsToLocals, Value.category]; done) | rfl
theorem pn_4 : plainName "com/example/wireproof/wireproof/cli/Lines" = true := by first | (simp [plainName, overriddenIn]; done) | decide +kernel
set_option maxRecDepth 65536 in
set_option maxHeartbeats 40000000 in
theorem rm4 {l : Launch} {Z : State} {a0 : Array Value} {n0 : Nat} {h : Heap} (hw : ∀ d ∈ tables_1, d.before a0 Z = true) (hn : n0 ≤ h.size) (l0 : Addr) (t : Addr) (P r n : Nat) (s0 e0 nu : Int32) (g : Nat → Int32) (hP : P + r = n) (hn4 : n ≤ 4) (O : Lin Z n0 h l0 (.ref t) (.int (Int32.ofNat P)) (.int s0) (.int e0) (.int nu)) (B : Ba Z n0 h t .byte n (bI g)) :
    Ctr l Z n0 (⟨"com/example/wireproof/wireproof/cli/Lines", "next", "()V"⟩ : MethodName) prog_32_method_3_code 1 none ({ frames := 0, cells := 0, slots := 0, locals := 0 } : Room) [] #[(.ref l0)] h (fun v h' => v = none ∧ Keep h h' [l0] ∧ Lin Z n0 h' l0 (.ref t) (.int (Int32.ofNat (fl g r P + 1))) (.int (Int32.ofNat P)) (.int (Int32.ofNat (fl g r P))) (.int (nu + 1))) := by
  refine ctr_of (plainFor_of_name pn_4) hw hn ?_
  intro p e s m below meth c T X
  refine Wp.cast (ef_4 m l0) ?_
  refine w_aloadN X D4_0 rfl rfl ?_
  refine w_aloadN X D4_1 rfl rfl ?_
  refine w_getF X D4_2 (hw _ (List.mem_of_getElem? (i := 21) rfl)) O.2.2.2.1 (fun T1 X1 => ?_)
  refine w_putF X1 D4_5 (hw _ (List.mem_of_getElem? (i := 23) rfl)) O.2.2.2.2.1 O.2.1 O.1 (Or.inl (hw _ (List.mem_of_getElem? (i := 24) rfl))) (hw _ (List.mem_of_getElem? (i := 6) rfl)) (ty := .int) (by decide) rfl rfl (fun T2 h2 X2 W2 => ?_)
  have O2 := O.put_start hw W2
  have B_W2 := O.baW hw B W2
  refine w_aloadN X2 D4_8 rfl rfl ?_
  refine w_aloadN X2 D4_9 rfl rfl ?_
  refine w_getF X2 D4_10 (hw _ (List.mem_of_getElem? (i := 23) rfl)) O2.2.2.2.2.1 (fun T3 X3 => ?_)
  refine w_putF X3 D4_13 (hw _ (List.mem_of_getElem? (i := 25) rfl)) O2.2.2.2.2.2.1 O2.2.1 O2.1 (Or.inl (hw _ (List.mem_of_getElem? (i := 26) rfl))) (hw _ (List.mem_of_getElem? (i := 6) rfl)) (ty := .int) (by decide) rfl rfl (fun T4 h4 X4 W4 => ?_)
  have O4 := O2.put_end hw W4
  have B_W4 := O2.baW hw B_W2 W4
  refine loop4 hw l0 t _ _ nu n g hn4 r P _ _ hP X4 O4 B_W4 (fun T9 h9 X9 K9 O9 B9 => ?_)
  refine w_aloadN X9 D4_55 rfl rfl ?_
  refine w_aloadN X9 D4_56 rfl rfl ?_
  refine w_getF X9 D4_57 (hw _ (List.mem_of_getElem? (i := 25) rfl)) O9.2.2.2.2.2.1 (fun T21 X21 => ?_)
  refine w_iconst X21 D4_60 (v := (1 : Int32)) rfl ?_
  refine w_iadd X21 D4_61 ?_
  rw [show Int32.ofNat (fl g r P) + 1 = Int32.ofNat (fl g r P + 1) from n_add _ 1]
  refine w_putF X21 D4_62 (hw _ (List.mem_of_getElem? (i := 21) rfl)) O9.2.2.2.1 O9.2.1 O9.1 (Or.inl (hw _ (List.mem_of_getElem? (i := 22) rfl))) (hw _ (List.mem_of_getElem? (i := 6) rfl)) (ty := .int) (by decide) rfl rfl (fun T22 h22 X22 W22 => ?_)
  have O22 := O9.put_next hw W22
  have B9_W22 := O9.baW hw B9 W22
  refine w_aloadN X22 D4_65 rfl rfl ?_
  refine w_dup X22 D4_66 rfl ?_
  refine w_getF X22 D4_67 (hw _ (List.mem_of_getElem? (i := 27) rfl)) O22.2.2.2.2.2.2 (fun T23 X23 => ?_)
  refine w_iconst X23 D4_70 (v := (1 : Int32)) rfl ?_
  refine w_iadd X23 D4_71 ?_
  refine w_putF X23 D4_72 (hw _ (List.mem_of_getElem? (i := 27) rfl)) O22.2.2.2.2.2.2 O22.2.1 O22.1 (Or.inl (hw _ (List.mem_of_getElem? (i := 28) rfl))) (hw _ (List.mem_of_getElem? (i := 6) rfl)) (ty := .int) (by decide) rfl rfl (fun T24 h24 X24 W24 => ?_)
  have O24 := O22.put_number hw W24
  have B9_W24 := O22.baW hw B9_W22 W24
  exact w_return X24 D4_75 (by decide) (by decide) (⟨rfl, (((((Keep.of_wr W2).trans (Keep.of_wr W4) (fun x hx => Or.inl hx)).trans K9 (fun x hx => Or.inl hx)).trans (Keep.of_wr W22) (fun x hx => Or.inl hx)).trans (Keep.of_wr W24) (fun x hx => Or.inl hx)), O24⟩)
set_option maxRecDepth 65536 in
set_option maxHeartbeats 40000000 in
theorem blk4 {Z : State} {a0 : Array Value} {n0 : Nat} {p : Program} {l : Launch} {e : Env} {R : Room} {s : State} {m : MethodId} {args : Array Value} {below : List Frame} {meth : Method} {c : Code} {T : State} {h : Heap} {k j : Nat} {Q : Option Value → Heap → Prop} (X : Pos Z a0 n0 p l e R s m args below meth c method_3_code 3 (some .int) (⟨"com/example/wireproof/wireproof/cli/LinesNextPinLaw", "firstLf", "([BI)I"⟩ : MethodName) T h k j) (hk : k ≤ R.cells) (hj : j ≤ R.slots) (t : Addr) (S n : Nat) (g : Nat → Int32) (hS : S ≤ n) (hn4 : n ≤ 4) (B : Ba Z n0 h t .byte n (bI g)) (hq : Q (some (.int (Int32.ofNat (n)))) h) : Wp n0 p e R s below Q T (mkF m 82 #[.val (.ref t), .val (.int (Int32.ofNat S)), .val (.int (Int32.ofNat n))] []) := by
  refine w_iloadN X D5_82 rfl ?_
  exact w_ireturn X D5_83 hk hj (hq)
set_option maxRecDepth 65536 in
set_option maxHeartbeats 40000000 in
theorem blk3 {Z : State} {a0 : Array Value} {n0 : Nat} {p : Program} {l : Launch} {e : Env} {R : Room} {s : State} {m : MethodId} {args : Array Value} {below : List Frame} {meth : Method} {c : Code} {T : State} {h : Heap} {k j : Nat} {Q : Option Value → Heap → Prop} (X : Pos Z a0 n0 p l e R s m args below meth c method_3_code 3 (some .int) (⟨"com/example/wireproof/wireproof/cli/LinesNextPinLaw", "firstLf", "([BI)I"⟩ : MethodName) T h k j) (hk : k ≤ R.cells) (hj : j ≤ R.slots) (t : Addr) (S n : Nat) (g : Nat → Int32) (hS : S ≤ n) (hn4 : n ≤ 4) (B : Ba Z n0 h t .byte n (bI g)) (hq : Q (some (.int (Int32.ofNat (fb g S n 3 n)))) h) : Wp n0 p e R s below Q T (mkF m 62 #[.val (.ref t), .val (.int (Int32.ofNat S)), .val (.int (Int32.ofNat n))] []) := by
  refine w_iloadN X D5_62 rfl ?_
  refine w_iconst X D5_63 (v := (3 : Int32)) rfl ?_
  refine w_icmpgt X D5_64 (fun hc64 => ?_) (fun hc64 => ?_)
  · have hz : ¬ (S ≤ 3 ∧ 3 < n ∧ g 3 = 10) := fun z => by
      first | (exact absurd z.2.2 hc77) | (exact absurd ((ofNat_lt (a := 3) (by decide) (by omega)).mpr z.2.1) hc69) | (have z1 := (ofNat_lt (a := 3) (by decide) (by omega)).mp hc64; omega)
    rw [fb, if_neg hz] at hq
    exact blk4 X hk hj t S n g hS hn4 B hq
  · refine w_iconst X D5_67 (v := (3 : Int32)) rfl ?_
    refine w_iloadN X D5_68 rfl ?_
    refine w_icmpge X D5_69 (fun hc69 => ?_) (fun hc69 => ?_)
    · have hz : ¬ (S ≤ 3 ∧ 3 < n ∧ g 3 = 10) := fun z => by
        first | (exact absurd z.2.2 hc77) | (exact absurd ((ofNat_lt (a := 3) (by decide) (by omega)).mpr z.2.1) hc69) | (have z1 := (ofNat_lt (a := 3) (by decide) (by omega)).mp hc64; omega)
      rw [fb, if_neg hz] at hq
      exact blk4 X hk hj t S n g hS hn4 B hq
    · refine w_aloadN X D5_72 rfl rfl ?_
      refine w_iconst X D5_73 (v := (3 : Int32)) rfl ?_
      refine w_baload X D5_74 B 3 rfl ((ofNat_lt (a := 3) (by decide) (by omega)).mp hc69) ?_
      refine w_bipush X D5_75 (v := (10 : Int32)) rfl ?_
      refine w_icmpne X D5_77 (fun hc77 => ?_) (fun hc77 => ?_)
      · have hz : ¬ (S ≤ 3 ∧ 3 < n ∧ g 3 = 10) := fun z => by
          first | (exact absurd z.2.2 hc77) | (exact absurd ((ofNat_lt (a := 3) (by decide) (by omega)).mpr z.2.1) hc69) | (have z1 := (ofNat_lt (a := 3) (by decide) (by omega)).mp hc64; omega)
        rw [fb, if_neg hz] at hq
        exact blk4 X hk hj t S n g hS hn4 B hq
      · refine w_iconst X D5_80 (v := (3 : Int32)) rfl ?_
        exact w_ireturn X D5_81 hk hj (by
                    rw [fb, if_pos ⟨Nat.le_of_not_lt (fun z => hc64 ((ofNat_lt (a := 3) (by decide) (by omega)).mpr z)), (ofNat_lt (a := 3) (by decide) (by omega)).mp hc69, hc77⟩] at hq
                    exact hq)
set_option maxRecDepth 65536 in
set_option maxHeartbeats 40000000 in
theorem blk2 {Z : State} {a0 : Array Value} {n0 : Nat} {p : Program} {l : Launch} {e : Env} {R : Room} {s : State} {m : MethodId} {args : Array Value} {below : List Frame} {meth : Method} {c : Code} {T : State} {h : Heap} {k j : Nat} {Q : Option Value → Heap → Prop} (X : Pos Z a0 n0 p l e R s m args below meth c method_3_code 3 (some .int) (⟨"com/example/wireproof/wireproof/cli/LinesNextPinLaw", "firstLf", "([BI)I"⟩ : MethodName) T h k j) (hk : k ≤ R.cells) (hj : j ≤ R.slots) (t : Addr) (S n : Nat) (g : Nat → Int32) (hS : S ≤ n) (hn4 : n ≤ 4) (B : Ba Z n0 h t .byte n (bI g)) (hq : Q (some (.int (Int32.ofNat (fb g S n 2 (fb g S n 3 n))))) h) : Wp n0 p e R s below Q T (mkF m 42 #[.val (.ref t), .val (.int (Int32.ofNat S)), .val (.int (Int32.ofNat n))] []) := by
  refine w_iloadN X D5_42 rfl ?_
  refine w_iconst X D5_43 (v := (2 : Int32)) rfl ?_
  refine w_icmpgt X D5_44 (fun hc44 => ?_) (fun hc44 => ?_)
  · have hz : ¬ (S ≤ 2 ∧ 2 < n ∧ g 2 = 10) := fun z => by
      first | (exact absurd z.2.2 hc57) | (exact absurd ((ofNat_lt (a := 2) (by decide) (by omega)).mpr z.2.1) hc49) | (have z1 := (ofNat_lt (a := 2) (by decide) (by omega)).mp hc44; omega)
    rw [fb, if_neg hz] at hq
    exact blk3 X hk hj t S n g hS hn4 B hq
  · refine w_iconst X D5_47 (v := (2 : Int32)) rfl ?_
    refine w_iloadN X D5_48 rfl ?_
    refine w_icmpge X D5_49 (fun hc49 => ?_) (fun hc49 => ?_)
    · have hz : ¬ (S ≤ 2 ∧ 2 < n ∧ g 2 = 10) := fun z => by
        first | (exact absurd z.2.2 hc57) | (exact absurd ((ofNat_lt (a := 2) (by decide) (by omega)).mpr z.2.1) hc49) | (have z1 := (ofNat_lt (a := 2) (by decide) (by omega)).mp hc44; omega)
      rw [fb, if_neg hz] at hq
      exact blk3 X hk hj t S n g hS hn4 B hq
    · refine w_aloadN X D5_52 rfl rfl ?_
      refine w_iconst X D5_53 (v := (2 : Int32)) rfl ?_
      refine w_baload X D5_54 B 2 rfl ((ofNat_lt (a := 2) (by decide) (by omega)).mp hc49) ?_
      refine w_bipush X D5_55 (v := (10 : Int32)) rfl ?_
      refine w_icmpne X D5_57 (fun hc57 => ?_) (fun hc57 => ?_)
      · have hz : ¬ (S ≤ 2 ∧ 2 < n ∧ g 2 = 10) := fun z => by
          first | (exact absurd z.2.2 hc57) | (exact absurd ((ofNat_lt (a := 2) (by decide) (by omega)).mpr z.2.1) hc49) | (have z1 := (ofNat_lt (a := 2) (by decide) (by omega)).mp hc44; omega)
        rw [fb, if_neg hz] at hq
        exact blk3 X hk hj t S n g hS hn4 B hq
      · refine w_iconst X D5_60 (v := (2 : Int32)) rfl ?_
        exact w_ireturn X D5_61 hk hj (by
                    rw [fb, if_pos ⟨Nat.le_of_not_lt (fun z => hc44 ((ofNat_lt (a := 2) (by decide) (by omega)).mpr z)), (ofNat_lt (a := 2) (by decide) (by omega)).mp hc49, hc57⟩] at hq
                    exact hq)
set_option maxRecDepth 65536 in
set_option maxHeartbeats 40000000 in
theorem blk1 {Z : State} {a0 : Array Value} {n0 : Nat} {p : Program} {l : Launch} {e : Env} {R : Room} {s : State} {m : MethodId} {args : Array Value} {below : List Frame} {meth : Method} {c : Code} {T : State} {h : Heap} {k j : Nat} {Q : Option Value → Heap → Prop} (X : Pos Z a0 n0 p l e R s m args below meth c method_3_code 3 (some .int) (⟨"com/example/wireproof/wireproof/cli/LinesNextPinLaw", "firstLf", "([BI)I"⟩ : MethodName) T h k j) (hk : k ≤ R.cells) (hj : j ≤ R.slots) (t : Addr) (S n : Nat) (g : Nat → Int32) (hS : S ≤ n) (hn4 : n ≤ 4) (B : Ba Z n0 h t .byte n (bI g)) (hq : Q (some (.int (Int32.ofNat (fb g S n 1 (fb g S n 2 (fb g S n 3 n)))))) h) : Wp n0 p e R s below Q T (mkF m 22 #[.val (.ref t), .val (.int (Int32.ofNat S)), .val (.int (Int32.ofNat n))] []) := by
  refine w_iloadN X D5_22 rfl ?_
  refine w_iconst X D5_23 (v := (1 : Int32)) rfl ?_
  refine w_icmpgt X D5_24 (fun hc24 => ?_) (fun hc24 => ?_)
  · have hz : ¬ (S ≤ 1 ∧ 1 < n ∧ g 1 = 10) := fun z => by
      first | (exact absurd z.2.2 hc37) | (exact absurd ((ofNat_lt (a := 1) (by decide) (by omega)).mpr z.2.1) hc29) | (have z1 := (ofNat_lt (a := 1) (by decide) (by omega)).mp hc24; omega)
    rw [fb, if_neg hz] at hq
    exact blk2 X hk hj t S n g hS hn4 B hq
  · refine w_iconst X D5_27 (v := (1 : Int32)) rfl ?_
    refine w_iloadN X D5_28 rfl ?_
    refine w_icmpge X D5_29 (fun hc29 => ?_) (fun hc29 => ?_)
    · have hz : ¬ (S ≤ 1 ∧ 1 < n ∧ g 1 = 10) := fun z => by
        first | (exact absurd z.2.2 hc37) | (exact absurd ((ofNat_lt (a := 1) (by decide) (by omega)).mpr z.2.1) hc29) | (have z1 := (ofNat_lt (a := 1) (by decide) (by omega)).mp hc24; omega)
      rw [fb, if_neg hz] at hq
      exact blk2 X hk hj t S n g hS hn4 B hq
    · refine w_aloadN X D5_32 rfl rfl ?_
      refine w_iconst X D5_33 (v := (1 : Int32)) rfl ?_
      refine w_baload X D5_34 B 1 rfl ((ofNat_lt (a := 1) (by decide) (by omega)).mp hc29) ?_
      refine w_bipush X D5_35 (v := (10 : Int32)) rfl ?_
      refine w_icmpne X D5_37 (fun hc37 => ?_) (fun hc37 => ?_)
      · have hz : ¬ (S ≤ 1 ∧ 1 < n ∧ g 1 = 10) := fun z => by
          first | (exact absurd z.2.2 hc37) | (exact absurd ((ofNat_lt (a := 1) (by decide) (by omega)).mpr z.2.1) hc29) | (have z1 := (ofNat_lt (a := 1) (by decide) (by omega)).mp hc24; omega)
        rw [fb, if_neg hz] at hq
        exact blk2 X hk hj t S n g hS hn4 B hq
      · refine w_iconst X D5_40 (v := (1 : Int32)) rfl ?_
        exact w_ireturn X D5_41 hk hj (by
                    rw [fb, if_pos ⟨Nat.le_of_not_lt (fun z => hc24 ((ofNat_lt (a := 1) (by decide) (by omega)).mpr z)), (ofNat_lt (a := 1) (by decide) (by omega)).mp hc29, hc37⟩] at hq
                    exact hq)
theorem ef_5 (m : MethodId) (t : Addr) (f0 : Int32) : entryFrame m #[(.ref t), (.int f0)] 3 = mkF m 0 #[.val (.ref t), .val (.int f0), .unset] [] := by first | (simp [entryFrame, mkF, argsToLocals, Value.category]; done) | rfl
theorem pn_5 : plainName "com/example/wireproof/wireproof/cli/LinesNextPinLaw" = true := by first | (simp [plainName, overriddenIn]; done) | decide +kernel
set_option maxRecDepth 65536 in
set_option maxHeartbeats 40000000 in
theorem rm5 {l : Launch} {Z : State} {a0 : Array Value} {n0 : Nat} {h : Heap} (hw : ∀ d ∈ tables_1, d.before a0 Z = true) (hn : n0 ≤ h.size) (t : Addr) (f0 : Int32) (S r n : Nat) (g : Nat → Int32) (eS : f0 = Int32.ofNat S) (hS' : S + r = n) (hn4 : n ≤ 4) (B : Ba Z n0 h t .byte n (bI g)) :
    Ctr l Z n0 (⟨"com/example/wireproof/wireproof/cli/LinesNextPinLaw", "firstLf", "([BI)I"⟩ : MethodName) method_3_code 3 (some .int) ({ frames := 0, cells := 0, slots := 0, locals := 0 } : Room) [] #[(.ref t), (.int f0)] h (fun v h' => v = some (.int (Int32.ofNat (fl g r S))) ∧ h = h') := by
  refine ctr_of (plainFor_of_name pn_5) hw hn ?_
  intro p e s m below meth c T X
  refine Wp.cast (ef_5 m t f0) ?_
  subst eS
  have hS : S ≤ n := by omega
  rw [← own_fl g S n r hS' hn4]
  obtain ⟨Q, eQ⟩ : ∃ Q : Option Value → Heap → Prop, Q = (fun v h' => v = some (.int (Int32.ofNat (fb g S n 0 (fb g S n 1 (fb g S n 2 (fb g S n 3 n)))))) ∧ h = h') := ⟨_, rfl⟩
  rw [← eQ]
  have hq : Q (some (.int (Int32.ofNat (fb g S n 0 (fb g S n 1 (fb g S n 2 (fb g S n 3 n))))))) h := by rw [eQ]; exact ⟨rfl, rfl⟩
  refine w_aloadN X D5_0 rfl rfl ?_
  refine w_arraylength X D5_1 B ?_
  refine w_istoreN X D5_2 (l' := #[.val (.ref t), .val (.int (Int32.ofNat S)), .val (.int (Int32.ofNat n))]) rfl ?_
  refine w_iloadN X D5_3 rfl ?_
  refine w_ifgt X D5_4 (fun hc4 => ?_) (fun hc4 => ?_)
  · have hz : ¬ (S ≤ 0 ∧ 0 < n ∧ g 0 = 10) := fun z => by
      first | (exact absurd z.2.2 hc17) | (exact absurd ((ofNat_lt (a := 0) (by decide) (by omega)).mpr z.2.1) hc9) | (have z1 := (ofNat_lt (a := 0) (by decide) (by omega)).mp hc4; omega)
    rw [fb, if_neg hz] at hq
    exact blk1 X (by decide) (by decide) t S n g hS hn4 B hq
  · refine w_iconst X D5_7 (v := (0 : Int32)) rfl ?_
    refine w_iloadN X D5_8 rfl ?_
    refine w_icmpge X D5_9 (fun hc9 => ?_) (fun hc9 => ?_)
    · have hz : ¬ (S ≤ 0 ∧ 0 < n ∧ g 0 = 10) := fun z => by
        first | (exact absurd z.2.2 hc17) | (exact absurd ((ofNat_lt (a := 0) (by decide) (by omega)).mpr z.2.1) hc9) | (have z1 := (ofNat_lt (a := 0) (by decide) (by omega)).mp hc4; omega)
      rw [fb, if_neg hz] at hq
      exact blk1 X (by decide) (by decide) t S n g hS hn4 B hq
    · refine w_aloadN X D5_12 rfl rfl ?_
      refine w_iconst X D5_13 (v := (0 : Int32)) rfl ?_
      refine w_baload X D5_14 B 0 rfl ((ofNat_lt (a := 0) (by decide) (by omega)).mp hc9) ?_
      refine w_bipush X D5_15 (v := (10 : Int32)) rfl ?_
      refine w_icmpne X D5_17 (fun hc17 => ?_) (fun hc17 => ?_)
      · have hz : ¬ (S ≤ 0 ∧ 0 < n ∧ g 0 = 10) := fun z => by
          first | (exact absurd z.2.2 hc17) | (exact absurd ((ofNat_lt (a := 0) (by decide) (by omega)).mpr z.2.1) hc9) | (have z1 := (ofNat_lt (a := 0) (by decide) (by omega)).mp hc4; omega)
        rw [fb, if_neg hz] at hq
        exact blk1 X (by decide) (by decide) t S n g hS hn4 B hq
      · refine w_iconst X D5_20 (v := (0 : Int32)) rfl ?_
        exact w_ireturn X D5_21 (by decide) (by decide) (by
                    rw [fb, if_pos ⟨Nat.le_of_not_lt (fun z => hc4 ((ofNat_lt (a := 0) (by decide) (by omega)).mpr z)), (ofNat_lt (a := 0) (by decide) (by omega)).mp hc9, hc17⟩] at hq
                    exact hq)
theorem ef_6 (m : MethodId) (l0 : Addr) : entryFrame m #[(.ref l0)] 1 = mkF m 0 #[.val (.ref l0)] [] := by first | (simp [entryFrame, mkF, argsToLocals, Value.category]; done) | rfl
theorem pn_6 : plainName "com/example/wireproof/wireproof/cli/Lines" = true := by first | (simp [plainName, overriddenIn]; done) | decide +kernel
set_option maxRecDepth 65536 in
set_option maxHeartbeats 40000000 in
theorem rm6 {l : Launch} {Z : State} {a0 : Array Value} {n0 : Nat} {h : Heap} (hw : ∀ d ∈ tables_1, d.before a0 Z = true) (hn : n0 ≤ h.size) (l0 : Addr) (tv : Value) (nx0 s0 e0 nu : Int32) (O : Lin Z n0 h l0 tv (.int nx0) (.int s0) (.int e0) (.int nu)) :
    Ctr l Z n0 (⟨"com/example/wireproof/wireproof/cli/Lines", "start", "()I"⟩ : MethodName) prog_32_method_5_code 1 (some .int) ({ frames := 0, cells := 0, slots := 0, locals := 0 } : Room) [] #[(.ref l0)] h (fun v h' => v = some (.int s0) ∧ h = h') := by
  refine ctr_of (plainFor_of_name pn_6) hw hn ?_
  intro p e s m below meth c T X
  refine Wp.cast (ef_6 m l0) ?_
  refine w_aloadN X D6_0 rfl rfl ?_
  refine w_getF X D6_1 (hw _ (List.mem_of_getElem? (i := 23) rfl)) O.2.2.2.2.1 (fun T1 X1 => ?_)
  exact w_ireturn X1 D6_4 (by decide) (by decide) (⟨rfl, rfl⟩)
theorem ef_7 (m : MethodId) (l0 : Addr) : entryFrame m #[(.ref l0)] 1 = mkF m 0 #[.val (.ref l0)] [] := by first | (simp [entryFrame, mkF, argsToLocals, Value.category]; done) | rfl
theorem pn_7 : plainName "com/example/wireproof/wireproof/cli/Lines" = true := by first | (simp [plainName, overriddenIn]; done) | decide +kernel
set_option maxRecDepth 65536 in
set_option maxHeartbeats 40000000 in
theorem rm7 {l : Launch} {Z : State} {a0 : Array Value} {n0 : Nat} {h : Heap} (hw : ∀ d ∈ tables_1, d.before a0 Z = true) (hn : n0 ≤ h.size) (l0 : Addr) (tv : Value) (nx0 s0 e0 nu : Int32) (O : Lin Z n0 h l0 tv (.int nx0) (.int s0) (.int e0) (.int nu)) :
    Ctr l Z n0 (⟨"com/example/wireproof/wireproof/cli/Lines", "end", "()I"⟩ : MethodName) prog_32_method_6_code 1 (some .int) ({ frames := 0, cells := 0, slots := 0, locals := 0 } : Room) [] #[(.ref l0)] h (fun v h' => v = some (.int e0) ∧ h = h') := by
  refine ctr_of (plainFor_of_name pn_7) hw hn ?_
  intro p e s m below meth c T X
  refine Wp.cast (ef_7 m l0) ?_
  refine w_aloadN X D7_0 rfl rfl ?_
  refine w_getF X D7_1 (hw _ (List.mem_of_getElem? (i := 25) rfl)) O.2.2.2.2.2.1 (fun T1 X1 => ?_)
  exact w_ireturn X1 D7_4 (by decide) (by decide) (⟨rfl, rfl⟩)
theorem ef_8 (m : MethodId) (l0 : Addr) : entryFrame m #[(.ref l0)] 1 = mkF m 0 #[.val (.ref l0)] [] := by first | (simp [entryFrame, mkF, argsToLocals, Value.category]; done) | rfl
theorem pn_8 : plainName "com/example/wireproof/wireproof/cli/Lines" = true := by first | (simp [plainName, overriddenIn]; done) | decide +kernel
set_option maxRecDepth 65536 in
set_option maxHeartbeats 40000000 in
theorem rm8 {l : Launch} {Z : State} {a0 : Array Value} {n0 : Nat} {h : Heap} (hw : ∀ d ∈ tables_1, d.before a0 Z = true) (hn : n0 ≤ h.size) (l0 : Addr) (tv : Value) (nx0 s0 e0 nu : Int32) (O : Lin Z n0 h l0 tv (.int nx0) (.int s0) (.int e0) (.int nu)) :
    Ctr l Z n0 (⟨"com/example/wireproof/wireproof/cli/Lines", "number", "()I"⟩ : MethodName) prog_32_method_4_code 1 (some .int) ({ frames := 0, cells := 0, slots := 0, locals := 0 } : Room) [] #[(.ref l0)] h (fun v h' => v = some (.int nu) ∧ h = h') := by
  refine ctr_of (plainFor_of_name pn_8) hw hn ?_
  intro p e s m below meth c T X
  refine Wp.cast (ef_8 m l0) ?_
  refine w_aloadN X D8_0 rfl rfl ?_
  refine w_getF X D8_1 (hw _ (List.mem_of_getElem? (i := 27) rfl)) O.2.2.2.2.2.2 (fun T1 X1 => ?_)
  exact w_ireturn X1 D8_4 (by decide) (by decide) (⟨rfl, rfl⟩)
theorem ef_9 (m : MethodId) (l0 : Addr) : entryFrame m #[(.ref l0)] 1 = mkF m 0 #[.val (.ref l0)] [] := by first | (simp [entryFrame, mkF, argsToLocals, Value.category]; done) | rfl
theorem pn_9 : plainName "com/example/wireproof/wireproof/cli/Lines" = true := by first | (simp [plainName, overriddenIn]; done) | decide +kernel
set_option maxRecDepth 65536 in
set_option maxHeartbeats 40000000 in
theorem rm9 {l : Launch} {Z : State} {a0 : Array Value} {n0 : Nat} {h : Heap} (hw : ∀ d ∈ tables_1, d.before a0 Z = true) (hn : n0 ≤ h.size) (l0 : Addr) (t : Addr) (P n : Nat) (s0 e0 nu : Int32) (g : Nat → Int32) (hP : P < 1000) (hn4 : n ≤ 4) (O : Lin Z n0 h l0 (.ref t) (.int (Int32.ofNat P)) (.int s0) (.int e0) (.int nu)) (B : Ba Z n0 h t .byte n (bI g)) :
    Ctr l Z n0 (⟨"com/example/wireproof/wireproof/cli/Lines", "hasNext", "()Z"⟩ : MethodName) prog_32_method_2_code 1 (some .boolean) ({ frames := 0, cells := 0, slots := 0, locals := 0 } : Room) [] #[(.ref l0)] h (fun v h' => v = some (.int (if P < n then 1 else 0)) ∧ h = h') := by
  refine ctr_of (plainFor_of_name pn_9) hw hn ?_
  intro p e s m below meth c T X
  refine Wp.cast (ef_9 m l0) ?_
  refine w_aloadN X D9_0 rfl rfl ?_
  refine w_getF X D9_1 (hw _ (List.mem_of_getElem? (i := 21) rfl)) O.2.2.2.1 (fun T1 X1 => ?_)
  refine w_aloadN X1 D9_4 rfl rfl ?_
  refine w_getF X1 D9_5 (hw _ (List.mem_of_getElem? (i := 14) rfl)) O.2.2.1 (fun T2 X2 => ?_)
  refine w_arraylength X2 D9_8 B ?_
  refine w_icmpge X2 D9_9 (fun hc9 => ?_) (fun hc9 => ?_)
  · refine w_iconst X2 D9_16 (v := (0 : Int32)) rfl ?_
    exact w_zreturn X2 D9_17 (by decide) (by decide) (⟨by rw [if_neg (fun z => hc9 ((ofNat_lt (by omega) (by omega)).mpr z))]; rfl, rfl⟩)
  · refine w_iconst X2 D9_12 (v := (1 : Int32)) rfl ?_
    refine w_goto X2 D9_13 ?_
    exact w_zreturn X2 D9_17 (by decide) (by decide) (⟨by rw [if_pos ((ofNat_lt (by omega) (by omega)).mp hc9)]; rfl, rfl⟩)
set_option maxRecDepth 65536 in
set_option maxHeartbeats 40000000 in
theorem law2 {Z : State} {a0 : Array Value} {n0 : Nat} {p : Program} {l : Launch} {e : Env} {s : State} {m : MethodId} {args : Array Value} {below : List Frame} {meth : Method} {c : Code} {T : State} {h : Heap}  (hw : ∀ d ∈ tables_1, d.before a0 Z = true) (X : Pos Z a0 n0 p l e room_1 s m args below meth c code maxLocals ret x T h 1 4) (a b c0 md : Int32) (t : Addr) (n : Nat) (g : Nat → Int32) (hn1 : 1 ≤ n) (hn4 : n ≤ 4) (B : Ba Z n0 h t .byte n (bI g)) : Wp n0 p e room_1 s below (fun v _ => v = some (.int 1)) T (mkF m 47 #[.val (.int a), .val (.int b), .val (.int c0), .val (.int md), .val (.ref t), .unset, .unset, .unset, .unset, .unset, .unset] []) := by
  refine w_aload X D0_47 rfl rfl ?_
  refine w_iconst X D0_49 (v := (0 : Int32)) rfl ?_
  refine w_iloadN X D0_50 rfl ?_
  refine w_iloadN X D0_51 rfl ?_
  refine w_static X D0_52 (rm1 hw X.sz t _ _ _ 0 n g rfl (by decide) hn4 B) (hw _ (List.mem_of_getElem? (i := 1) rfl)) (hw _ (List.mem_of_getElem? (i := 2) rfl)) (hw _ (List.mem_of_getElem? (i := 3) rfl)) (hw _ (List.mem_of_getElem? (i := 4) rfl)) (by decide) pd_0 rfl (S := []) rfl rfl (Nat.le_of_ble_eq_true rfl) (Nat.le_of_ble_eq_true rfl) (Nat.le_of_ble_eq_true rfl) (Nat.le_of_ble_eq_true rfl) (fun v1 T1 h1 X1 q1 => ?_)
  obtain ⟨rfl, K1, g1, B1⟩ := q1
  show Wp _ _ _ _ _ _ _ _ (mkF m 55 #[.val (.int a), .val (.int b), .val (.int c0), .val (.int md), .val (.ref t), .unset, .unset, .unset, .unset, .unset, .unset] [])
  refine w_aload X1 D0_55 rfl rfl ?_
  refine w_iconst X1 D0_57 (v := (1 : Int32)) rfl ?_
  refine w_iloadN X1 D0_58 rfl ?_
  refine w_iloadN X1 D0_59 rfl ?_
  refine w_static X1 D0_60 (rm1 hw X1.sz t _ _ _ 1 n g1 rfl (by decide) hn4 B1) (hw _ (List.mem_of_getElem? (i := 1) rfl)) (hw _ (List.mem_of_getElem? (i := 2) rfl)) (hw _ (List.mem_of_getElem? (i := 3) rfl)) (hw _ (List.mem_of_getElem? (i := 4) rfl)) (by decide) pd_0 rfl (S := []) rfl rfl (Nat.le_of_ble_eq_true rfl) (Nat.le_of_ble_eq_true rfl) (Nat.le_of_ble_eq_true rfl) (Nat.le_of_ble_eq_true rfl) (fun v2 T2 h2 X2 q2 => ?_)
  obtain ⟨rfl, K2, g2, B2⟩ := q2
  show Wp _ _ _ _ _ _ _ _ (mkF m 63 #[.val (.int a), .val (.int b), .val (.int c0), .val (.int md), .val (.ref t), .unset, .unset, .unset, .unset, .unset, .unset] [])
  refine w_aload X2 D0_63 rfl rfl ?_
  refine w_iconst X2 D0_65 (v := (2 : Int32)) rfl ?_
  refine w_iloadN X2 D0_66 rfl ?_
  refine w_iloadN X2 D0_67 rfl ?_
  refine w_static X2 D0_68 (rm1 hw X2.sz t _ _ _ 2 n g2 rfl (by decide) hn4 B2) (hw _ (List.mem_of_getElem? (i := 1) rfl)) (hw _ (List.mem_of_getElem? (i := 2) rfl)) (hw _ (List.mem_of_getElem? (i := 3) rfl)) (hw _ (List.mem_of_getElem? (i := 4) rfl)) (by decide) pd_0 rfl (S := []) rfl rfl (Nat.le_of_ble_eq_true rfl) (Nat.le_of_ble_eq_true rfl) (Nat.le_of_ble_eq_true rfl) (Nat.le_of_ble_eq_true rfl) (fun v3 T3 h3 X3 q3 => ?_)
  obtain ⟨rfl, K3, g3, B3⟩ := q3
  show Wp _ _ _ _ _ _ _ _ (mkF m 71 #[.val (.int a), .val (.int b), .val (.int c0), .val (.int md), .val (.ref t), .unset, .unset, .unset, .unset, .unset, .unset] [])
  refine w_aload X3 D0_71 rfl rfl ?_
  refine w_iconst X3 D0_73 (v := (3 : Int32)) rfl ?_
  refine w_iloadN X3 D0_74 rfl ?_
  refine w_iloadN X3 D0_75 rfl ?_
  refine w_static X3 D0_76 (rm1 hw X3.sz t _ _ _ 3 n g3 rfl (by decide) hn4 B3) (hw _ (List.mem_of_getElem? (i := 1) rfl)) (hw _ (List.mem_of_getElem? (i := 2) rfl)) (hw _ (List.mem_of_getElem? (i := 3) rfl)) (hw _ (List.mem_of_getElem? (i := 4) rfl)) (by decide) pd_0 rfl (S := []) rfl rfl (Nat.le_of_ble_eq_true rfl) (Nat.le_of_ble_eq_true rfl) (Nat.le_of_ble_eq_true rfl) (Nat.le_of_ble_eq_true rfl) (fun v4 T4 h4 X4 q4 => ?_)
  obtain ⟨rfl, K4, g4, B4⟩ := q4
  show Wp _ _ _ _ _ _ _ _ (mkF m 79 #[.val (.int a), .val (.int b), .val (.int c0), .val (.int md), .val (.ref t), .unset, .unset, .unset, .unset, .unset, .unset] [])
  refine w_new X4 D0_79 (hw _ (List.mem_of_getElem? (i := 5) rfl)) (hw _ (List.mem_of_getElem? (i := 6) rfl)) (hw _ (List.mem_of_getElem? (i := 7) rfl)) (Nat.le_of_ble_eq_true rfl) (Nat.le_of_ble_eq_true rfl) (fun T5 h5 a5 X5 g5 n5 E5 A5 D5 => ?_)
  have B4_E5 := B4.ext E5
  have O5 := Lin.new hw n5 A5 D5
  refine w_dup X5 D0_82 rfl ?_
  refine w_aload X5 D0_83 rfl rfl ?_
  refine w_special X5 D0_85 (rm2 hw X5.sz a5 t O5) rfl (hw _ (List.mem_of_getElem? (i := 8) rfl)) (hw _ (List.mem_of_getElem? (i := 9) rfl)) (hw _ (List.mem_of_getElem? (i := 7) rfl)) (hw _ (List.mem_of_getElem? (i := 10) rfl)) (by decide) pd_1 rfl (S := [(.ref a5)]) rfl rfl (Nat.le_of_ble_eq_true rfl) (Nat.le_of_ble_eq_true rfl) (Nat.le_of_ble_eq_true rfl) (Nat.le_of_ble_eq_true rfl) (fun v6 T6 h6 X6 q6 => ?_)
  obtain ⟨rfl, K6, O6⟩ := q6
  have B6 := O5.baK hw B4_E5 K6
  show Wp _ _ _ _ _ _ _ _ (mkF m 88 #[.val (.int a), .val (.int b), .val (.int c0), .val (.int md), .val (.ref t), .unset, .unset, .unset, .unset, .unset, .unset] [(.ref a5)])
  refine w_astore X6 D0_88 (l' := #[.val (.int a), .val (.int b), .val (.int c0), .val (.int md), .val (.ref t), .val (.ref a5), .unset, .unset, .unset, .unset, .unset]) rfl rfl ?_
  refine w_aload X6 D0_90 rfl rfl ?_
  refine w_virtual X6 D0_92 (rm4 hw X6.sz a5 t 0 n n _ _ _ g4 (by omega) hn4 O6 B6) O6.2.1 (hw _ (List.mem_of_getElem? (i := 16) rfl)) (hw _ (List.mem_of_getElem? (i := 17) rfl)) (hw _ (List.mem_of_getElem? (i := 19) rfl)) (hw _ (List.mem_of_getElem? (i := 18) rfl)) (hw _ (List.mem_of_getElem? (i := 7) rfl)) (hw _ (List.mem_of_getElem? (i := 20) rfl)) (by decide) pd_2 rfl (S := []) rfl rfl (Nat.le_of_ble_eq_true rfl) (Nat.le_of_ble_eq_true rfl) (Nat.le_of_ble_eq_true rfl) (Nat.le_of_ble_eq_true rfl) (fun v7 T7 h7 X7 q7 => ?_)
  obtain ⟨rfl, K7, O7⟩ := q7
  have B7 := O6.baK hw B6 K7
  show Wp _ _ _ _ _ _ _ _ (mkF m 95 #[.val (.int a), .val (.int b), .val (.int c0), .val (.int md), .val (.ref t), .val (.ref a5), .unset, .unset, .unset, .unset, .unset] [])
  refine w_aload X7 D0_95 rfl rfl ?_
  refine w_iconst X7 D0_97 (v := (0 : Int32)) rfl ?_
  refine w_static X7 D0_98 (rm5 hw X7.sz t _ 0 n n g4 rfl (by omega) hn4 B7) (hw _ (List.mem_of_getElem? (i := 29) rfl)) (hw _ (List.mem_of_getElem? (i := 30) rfl)) (hw _ (List.mem_of_getElem? (i := 3) rfl)) (hw _ (List.mem_of_getElem? (i := 31) rfl)) (by decide) pd_3 rfl (S := []) rfl rfl (Nat.le_of_ble_eq_true rfl) (Nat.le_of_ble_eq_true rfl) (Nat.le_of_ble_eq_true rfl) (Nat.le_of_ble_eq_true rfl) (fun v8 T8 h8 X8 q8 => ?_)
  obtain ⟨rfl, rfl⟩ := q8
  show Wp _ _ _ _ _ _ _ _ (mkF m 101 #[.val (.int a), .val (.int b), .val (.int c0), .val (.int md), .val (.ref t), .val (.ref a5), .unset, .unset, .unset, .unset, .unset] [(.int (Int32.ofNat (fl g4 n 0)))])
  refine w_istore X8 D0_101 (l' := #[.val (.int a), .val (.int b), .val (.int c0), .val (.int md), .val (.ref t), .val (.ref a5), .val (.int (Int32.ofNat (fl g4 n 0))), .unset, .unset, .unset, .unset]) rfl ?_
  refine w_aload X8 D0_103 rfl rfl ?_
  refine w_virtual X8 D0_105 (rm6 hw X8.sz a5 _ _ _ _ _ O7) O7.2.1 (hw _ (List.mem_of_getElem? (i := 32) rfl)) (hw _ (List.mem_of_getElem? (i := 33) rfl)) (hw _ (List.mem_of_getElem? (i := 35) rfl)) (hw _ (List.mem_of_getElem? (i := 34) rfl)) (hw _ (List.mem_of_getElem? (i := 7) rfl)) (hw _ (List.mem_of_getElem? (i := 36) rfl)) (by decide) pd_4 rfl (S := []) rfl rfl (Nat.le_of_ble_eq_true rfl) (Nat.le_of_ble_eq_true rfl) (Nat.le_of_ble_eq_true rfl) (Nat.le_of_ble_eq_true rfl) (fun v9 T9 h9 X9 q9 => ?_)
  obtain ⟨rfl, rfl⟩ := q9
  show Wp _ _ _ _ _ _ _ _ (mkF m 108 #[.val (.int a), .val (.int b), .val (.int c0), .val (.int md), .val (.ref t), .val (.ref a5), .val (.int (Int32.ofNat (fl g4 n 0))), .unset, .unset, .unset, .unset] [(.int (Int32.ofNat 0))])
  refine w_ifne X9 D0_108 (fun hc108 => by exact absurd rfl hc108) (fun hc108 => ?_)
  refine w_aload X9 D0_111 rfl rfl ?_
  refine w_virtual X9 D0_113 (rm7 hw X9.sz a5 _ _ _ _ _ O7) O7.2.1 (hw _ (List.mem_of_getElem? (i := 37) rfl)) (hw _ (List.mem_of_getElem? (i := 38) rfl)) (hw _ (List.mem_of_getElem? (i := 40) rfl)) (hw _ (List.mem_of_getElem? (i := 39) rfl)) (hw _ (List.mem_of_getElem? (i := 7) rfl)) (hw _ (List.mem_of_getElem? (i := 41) rfl)) (by decide) pd_4 rfl (S := []) rfl rfl (Nat.le_of_ble_eq_true rfl) (Nat.le_of_ble_eq_true rfl) (Nat.le_of_ble_eq_true rfl) (Nat.le_of_ble_eq_true rfl) (fun v10 T10 h10 X10 q10 => ?_)
  obtain ⟨rfl, rfl⟩ := q10
  show Wp _ _ _ _ _ _ _ _ (mkF m 116 #[.val (.int a), .val (.int b), .val (.int c0), .val (.int md), .val (.ref t), .val (.ref a5), .val (.int (Int32.ofNat (fl g4 n 0))), .unset, .unset, .unset, .unset] [(.int (Int32.ofNat (fl g4 n 0)))])
  refine w_iload X10 D0_116 rfl ?_
  refine w_icmpne X10 D0_118 (fun hc118 => by exact absurd rfl hc118) (fun hc118 => ?_)
  refine w_aload X10 D0_121 rfl rfl ?_
  refine w_virtual X10 D0_123 (rm8 hw X10.sz a5 _ _ _ _ _ O7) O7.2.1 (hw _ (List.mem_of_getElem? (i := 42) rfl)) (hw _ (List.mem_of_getElem? (i := 43) rfl)) (hw _ (List.mem_of_getElem? (i := 45) rfl)) (hw _ (List.mem_of_getElem? (i := 44) rfl)) (hw _ (List.mem_of_getElem? (i := 7) rfl)) (hw _ (List.mem_of_getElem? (i := 46) rfl)) (by decide) pd_4 rfl (S := []) rfl rfl (Nat.le_of_ble_eq_true rfl) (Nat.le_of_ble_eq_true rfl) (Nat.le_of_ble_eq_true rfl) (Nat.le_of_ble_eq_true rfl) (fun v11 T11 h11 X11 q11 => ?_)
  obtain ⟨rfl, rfl⟩ := q11
  show Wp _ _ _ _ _ _ _ _ (mkF m 126 #[.val (.int a), .val (.int b), .val (.int c0), .val (.int md), .val (.ref t), .val (.ref a5), .val (.int (Int32.ofNat (fl g4 n 0))), .unset, .unset, .unset, .unset] [(.int ((0 : Int32) + 1))])
  refine w_iconst X11 D0_126 (v := (1 : Int32)) rfl ?_
  refine w_icmpne X11 D0_127 (fun hc127 => by exact absurd (by decide) hc127) (fun hc127 => ?_)
  refine w_iconst X11 D0_130 (v := (1 : Int32)) rfl ?_
  refine w_goto X11 D0_131 ?_
  refine w_istore X11 D0_135 (l' := #[.val (.int a), .val (.int b), .val (.int c0), .val (.int md), .val (.ref t), .val (.ref a5), .val (.int (Int32.ofNat (fl g4 n 0))), .val (.int (1 : Int32)), .unset, .unset, .unset]) rfl ?_
  refine w_aload X11 D0_137 rfl rfl ?_
  refine w_virtual X11 D0_139 (rm9 hw X11.sz a5 t ((fl g4 n 0) + 1) n _ _ _ g4 (by have := fl_le g4 n 0; omega) hn4 O7 B7) O7.2.1 (hw _ (List.mem_of_getElem? (i := 47) rfl)) (hw _ (List.mem_of_getElem? (i := 48) rfl)) (hw _ (List.mem_of_getElem? (i := 50) rfl)) (hw _ (List.mem_of_getElem? (i := 49) rfl)) (hw _ (List.mem_of_getElem? (i := 7) rfl)) (hw _ (List.mem_of_getElem? (i := 51) rfl)) (by decide) pd_5 rfl (S := []) rfl rfl (Nat.le_of_ble_eq_true rfl) (Nat.le_of_ble_eq_true rfl) (Nat.le_of_ble_eq_true rfl) (Nat.le_of_ble_eq_true rfl) (fun v12 T12 h12 X12 q12 => ?_)
  obtain ⟨rfl, rfl⟩ := q12
  show Wp _ _ _ _ _ _ _ _ (mkF m 142 #[.val (.int a), .val (.int b), .val (.int c0), .val (.int md), .val (.ref t), .val (.ref a5), .val (.int (Int32.ofNat (fl g4 n 0))), .val (.int (1 : Int32)), .unset, .unset, .unset] [(.int (if (fl g4 n 0) + 1 < n then 1 else 0))])
  refine w_istore X12 D0_142 (l' := #[.val (.int a), .val (.int b), .val (.int c0), .val (.int md), .val (.ref t), .val (.ref a5), .val (.int (Int32.ofNat (fl g4 n 0))), .val (.int (1 : Int32)), .val (.int (if (fl g4 n 0) + 1 < n then 1 else 0)), .unset, .unset]) rfl ?_
  have hfl := fl_le g4 n 0
  by_cases hm : (fl g4 n 0) + 1 < n
  · rw [if_pos hm]
    refine w_iload X12 D0_144 rfl ?_
    refine w_ifeq X12 D0_146 (fun hc146 => by exact absurd hc146 (by decide)) (fun hc146 => ?_)
    refine w_iload X12 D0_149 rfl ?_
    refine w_iload X12 D0_151 rfl ?_
    refine w_iconst X12 D0_153 (v := (1 : Int32)) rfl ?_
    refine w_iadd X12 D0_154 ?_
    rw [show Int32.ofNat (fl g4 n 0) + 1 = Int32.ofNat ((fl g4 n 0) + 1) from n_add _ 1]
    refine w_aload X12 D0_155 rfl rfl ?_
    refine w_arraylength X12 D0_157 B7 ?_
    refine w_icmpge X12 D0_158 (fun hc158 => by exact absurd ((ofNat_lt (by omega) (by omega)).mpr hm) hc158) (fun hc158 => ?_)
    refine w_iconst X12 D0_161 (v := (1 : Int32)) rfl ?_
    refine w_goto X12 D0_162 ?_
    refine w_icmpne X12 D0_166 (fun hc166 => by exact absurd rfl hc166) (fun hc166 => ?_)
    refine w_iconst X12 D0_169 (v := (1 : Int32)) rfl ?_
    refine w_goto X12 D0_170 ?_
    refine w_istore X12 D0_174 (l' := #[.val (.int a), .val (.int b), .val (.int c0), .val (.int md), .val (.ref t), .val (.ref a5), .val (.int (Int32.ofNat (fl g4 n 0))), .val (.int (1 : Int32)), .val (.int (1 : Int32)), .unset, .unset]) rfl ?_
    refine w_iload X12 D0_176 rfl ?_
    refine w_ifeq X12 D0_178 (fun hc178 => by exact absurd hc178 (by decide)) (fun hc178 => ?_)
    refine w_aload X12 D0_181 rfl rfl ?_
    refine w_virtual X12 D0_183 (rm4 hw X12.sz a5 t ((fl g4 n 0) + 1) (n - ((fl g4 n 0) + 1)) n _ _ _ g4 (by omega) hn4 O7 B7) O7.2.1 (hw _ (List.mem_of_getElem? (i := 16) rfl)) (hw _ (List.mem_of_getElem? (i := 17) rfl)) (hw _ (List.mem_of_getElem? (i := 19) rfl)) (hw _ (List.mem_of_getElem? (i := 18) rfl)) (hw _ (List.mem_of_getElem? (i := 7) rfl)) (hw _ (List.mem_of_getElem? (i := 20) rfl)) (by decide) pd_2 rfl (S := []) rfl rfl (Nat.le_of_ble_eq_true rfl) (Nat.le_of_ble_eq_true rfl) (Nat.le_of_ble_eq_true rfl) (Nat.le_of_ble_eq_true rfl) (fun v13 T13 h13 X13 q13 => ?_)
    obtain ⟨rfl, K13, O13⟩ := q13
    have B13 := O7.baK hw B7 K13
    show Wp _ _ _ _ _ _ _ _ (mkF m 186 #[.val (.int a), .val (.int b), .val (.int c0), .val (.int md), .val (.ref t), .val (.ref a5), .val (.int (Int32.ofNat (fl g4 n 0))), .val (.int (1 : Int32)), .val (.int (1 : Int32)), .unset, .unset] [])
    refine w_iload X13 D0_186 rfl ?_
    refine w_iconst X13 D0_188 (v := (1 : Int32)) rfl ?_
    refine w_iadd X13 D0_189 ?_
    rw [show Int32.ofNat (fl g4 n 0) + 1 = Int32.ofNat ((fl g4 n 0) + 1) from n_add _ 1]
    refine w_istore X13 D0_190 (l' := #[.val (.int a), .val (.int b), .val (.int c0), .val (.int md), .val (.ref t), .val (.ref a5), .val (.int (Int32.ofNat (fl g4 n 0))), .val (.int (1 : Int32)), .val (.int (1 : Int32)), .val (.int (Int32.ofNat ((fl g4 n 0) + 1))), .unset]) rfl ?_
    refine w_aload X13 D0_192 rfl rfl ?_
    refine w_iload X13 D0_194 rfl ?_
    refine w_static X13 D0_196 (rm5 hw X13.sz t _ ((fl g4 n 0) + 1) (n - ((fl g4 n 0) + 1)) n g4 rfl (by omega) hn4 B13) (hw _ (List.mem_of_getElem? (i := 29) rfl)) (hw _ (List.mem_of_getElem? (i := 30) rfl)) (hw _ (List.mem_of_getElem? (i := 3) rfl)) (hw _ (List.mem_of_getElem? (i := 31) rfl)) (by decide) pd_3 rfl (S := []) rfl rfl (Nat.le_of_ble_eq_true rfl) (Nat.le_of_ble_eq_true rfl) (Nat.le_of_ble_eq_true rfl) (Nat.le_of_ble_eq_true rfl) (fun v14 T14 h14 X14 q14 => ?_)
    obtain ⟨rfl, rfl⟩ := q14
    show Wp _ _ _ _ _ _ _ _ (mkF m 199 #[.val (.int a), .val (.int b), .val (.int c0), .val (.int md), .val (.ref t), .val (.ref a5), .val (.int (Int32.ofNat (fl g4 n 0))), .val (.int (1 : Int32)), .val (.int (1 : Int32)), .val (.int (Int32.ofNat ((fl g4 n 0) + 1))), .unset] [(.int (Int32.ofNat (fl g4 (n - ((fl g4 n 0) + 1)) ((fl g4 n 0) + 1))))])
    refine w_istore X14 D0_199 (l' := #[.val (.int a), .val (.int b), .val (.int c0), .val (.int md), .val (.ref t), .val (.ref a5), .val (.int (Int32.ofNat (fl g4 n 0))), .val (.int (1 : Int32)), .val (.int (1 : Int32)), .val (.int (Int32.ofNat ((fl g4 n 0) + 1))), .val (.int (Int32.ofNat (fl g4 (n - ((fl g4 n 0) + 1)) ((fl g4 n 0) + 1))))]) rfl ?_
    refine w_iload X14 D0_201 rfl ?_
    refine w_ifeq X14 D0_203 (fun hc203 => by exact absurd hc203 (by decide)) (fun hc203 => ?_)
    refine w_aload X14 D0_206 rfl rfl ?_
    refine w_virtual X14 D0_208 (rm6 hw X14.sz a5 _ _ _ _ _ O13) O13.2.1 (hw _ (List.mem_of_getElem? (i := 32) rfl)) (hw _ (List.mem_of_getElem? (i := 33) rfl)) (hw _ (List.mem_of_getElem? (i := 35) rfl)) (hw _ (List.mem_of_getElem? (i := 34) rfl)) (hw _ (List.mem_of_getElem? (i := 7) rfl)) (hw _ (List.mem_of_getElem? (i := 36) rfl)) (by decide) pd_4 rfl (S := []) rfl rfl (Nat.le_of_ble_eq_true rfl) (Nat.le_of_ble_eq_true rfl) (Nat.le_of_ble_eq_true rfl) (Nat.le_of_ble_eq_true rfl) (fun v15 T15 h15 X15 q15 => ?_)
    obtain ⟨rfl, rfl⟩ := q15
    show Wp _ _ _ _ _ _ _ _ (mkF m 211 #[.val (.int a), .val (.int b), .val (.int c0), .val (.int md), .val (.ref t), .val (.ref a5), .val (.int (Int32.ofNat (fl g4 n 0))), .val (.int (1 : Int32)), .val (.int (1 : Int32)), .val (.int (Int32.ofNat ((fl g4 n 0) + 1))), .val (.int (Int32.ofNat (fl g4 (n - ((fl g4 n 0) + 1)) ((fl g4 n 0) + 1))))] [(.int (Int32.ofNat ((fl g4 n 0) + 1)))])
    refine w_iload X15 D0_211 rfl ?_
    refine w_icmpne X15 D0_213 (fun hc213 => by exact absurd rfl hc213) (fun hc213 => ?_)
    refine w_aload X15 D0_216 rfl rfl ?_
    refine w_virtual X15 D0_218 (rm7 hw X15.sz a5 _ _ _ _ _ O13) O13.2.1 (hw _ (List.mem_of_getElem? (i := 37) rfl)) (hw _ (List.mem_of_getElem? (i := 38) rfl)) (hw _ (List.mem_of_getElem? (i := 40) rfl)) (hw _ (List.mem_of_getElem? (i := 39) rfl)) (hw _ (List.mem_of_getElem? (i := 7) rfl)) (hw _ (List.mem_of_getElem? (i := 41) rfl)) (by decide) pd_4 rfl (S := []) rfl rfl (Nat.le_of_ble_eq_true rfl) (Nat.le_of_ble_eq_true rfl) (Nat.le_of_ble_eq_true rfl) (Nat.le_of_ble_eq_true rfl) (fun v16 T16 h16 X16 q16 => ?_)
    obtain ⟨rfl, rfl⟩ := q16
    show Wp _ _ _ _ _ _ _ _ (mkF m 221 #[.val (.int a), .val (.int b), .val (.int c0), .val (.int md), .val (.ref t), .val (.ref a5), .val (.int (Int32.ofNat (fl g4 n 0))), .val (.int (1 : Int32)), .val (.int (1 : Int32)), .val (.int (Int32.ofNat ((fl g4 n 0) + 1))), .val (.int (Int32.ofNat (fl g4 (n - ((fl g4 n 0) + 1)) ((fl g4 n 0) + 1))))] [(.int (Int32.ofNat (fl g4 (n - ((fl g4 n 0) + 1)) ((fl g4 n 0) + 1))))])
    refine w_iload X16 D0_221 rfl ?_
    refine w_icmpne X16 D0_223 (fun hc223 => by exact absurd rfl hc223) (fun hc223 => ?_)
    refine w_aload X16 D0_226 rfl rfl ?_
    refine w_virtual X16 D0_228 (rm8 hw X16.sz a5 _ _ _ _ _ O13) O13.2.1 (hw _ (List.mem_of_getElem? (i := 42) rfl)) (hw _ (List.mem_of_getElem? (i := 43) rfl)) (hw _ (List.mem_of_getElem? (i := 45) rfl)) (hw _ (List.mem_of_getElem? (i := 44) rfl)) (hw _ (List.mem_of_getElem? (i := 7) rfl)) (hw _ (List.mem_of_getElem? (i := 46) rfl)) (by decide) pd_4 rfl (S := []) rfl rfl (Nat.le_of_ble_eq_true rfl) (Nat.le_of_ble_eq_true rfl) (Nat.le_of_ble_eq_true rfl) (Nat.le_of_ble_eq_true rfl) (fun v17 T17 h17 X17 q17 => ?_)
    obtain ⟨rfl, rfl⟩ := q17
    show Wp _ _ _ _ _ _ _ _ (mkF m 231 #[.val (.int a), .val (.int b), .val (.int c0), .val (.int md), .val (.ref t), .val (.ref a5), .val (.int (Int32.ofNat (fl g4 n 0))), .val (.int (1 : Int32)), .val (.int (1 : Int32)), .val (.int (Int32.ofNat ((fl g4 n 0) + 1))), .val (.int (Int32.ofNat (fl g4 (n - ((fl g4 n 0) + 1)) ((fl g4 n 0) + 1))))] [(.int (((0 : Int32) + 1) + 1))])
    refine w_iconst X17 D0_231 (v := (2 : Int32)) rfl ?_
    refine w_icmpne X17 D0_232 (fun hc232 => by exact absurd (by decide) hc232) (fun hc232 => ?_)
    refine w_iconst X17 D0_235 (v := (1 : Int32)) rfl ?_
    refine w_goto X17 D0_236 ?_
    refine w_istore X17 D0_240 (l' := #[.val (.int a), .val (.int b), .val (.int c0), .val (.int md), .val (.ref t), .val (.ref a5), .val (.int (Int32.ofNat (fl g4 n 0))), .val (.int (1 : Int32)), .val (.int (1 : Int32)), .val (.int (Int32.ofNat ((fl g4 n 0) + 1))), .val (.int (Int32.ofNat (fl g4 (n - ((fl g4 n 0) + 1)) ((fl g4 n 0) + 1))))]) rfl ?_
    refine w_iload X17 D0_242 rfl ?_
    exact w_zreturn X17 D0_244 (by decide) (by decide) (rfl)
  · rw [if_neg hm]
    refine w_iload X12 D0_144 rfl ?_
    refine w_ifeq X12 D0_146 (fun hc146 => by exact absurd hc146 (by decide)) (fun hc146 => ?_)
    refine w_iload X12 D0_149 rfl ?_
    refine w_iload X12 D0_151 rfl ?_
    refine w_iconst X12 D0_153 (v := (1 : Int32)) rfl ?_
    refine w_iadd X12 D0_154 ?_
    rw [show Int32.ofNat (fl g4 n 0) + 1 = Int32.ofNat ((fl g4 n 0) + 1) from n_add _ 1]
    refine w_aload X12 D0_155 rfl rfl ?_
    refine w_arraylength X12 D0_157 B7 ?_
    refine w_icmpge X12 D0_158 (fun hc158 => ?_) (fun hc158 => by exact absurd ((ofNat_lt (by omega) (by omega)).mp hc158) hm)
    refine w_iconst X12 D0_165 (v := (0 : Int32)) rfl ?_
    refine w_icmpne X12 D0_166 (fun hc166 => by exact absurd rfl hc166) (fun hc166 => ?_)
    refine w_iconst X12 D0_169 (v := (1 : Int32)) rfl ?_
    refine w_goto X12 D0_170 ?_
    refine w_istore X12 D0_174 (l' := #[.val (.int a), .val (.int b), .val (.int c0), .val (.int md), .val (.ref t), .val (.ref a5), .val (.int (Int32.ofNat (fl g4 n 0))), .val (.int (1 : Int32)), .val (.int (0 : Int32)), .unset, .unset]) rfl ?_
    refine w_iload X12 D0_176 rfl ?_
    refine w_ifeq X12 D0_178 (fun hc178 => ?_) (fun hc178 => by exact absurd rfl hc178)
    refine w_iload X12 D0_242 rfl ?_
    exact w_zreturn X12 D0_244 (by decide) (by decide) (rfl)
theorem ef_0 (m : MethodId) (a : Int32) (b : Int32) (c0 : Int32) : entryFrame m #[(.int a), (.int b), (.int c0)] maxLocals = mkF m 0 #[.val (.int a), .val (.int b), .val (.int c0), .unset, .unset, .unset, .unset, .unset, .unset, .unset, .unset] [] := by first | (simp [entryFrame, mkF, argsToLocals, Value.category, maxLocals]; done) | rfl
theorem pn_0 : plainName "com/example/wireproof/wireproof/cli/LinesNextPinLaw" = true := by first | (simp [plainName, overriddenIn]; done) | decide +kernel
set_option maxRecDepth 65536 in
set_option maxHeartbeats 40000000 in
theorem rm0 {l : Launch} {Z : State} {a0 : Array Value} {n0 : Nat} {h : Heap} (hw : ∀ d ∈ tables_1, d.before a0 Z = true) (hn : n0 ≤ h.size) (a : Int32) (b : Int32) (c0 : Int32) :
    Ctr l Z n0 x code maxLocals ret room_1 tables_1 #[(.int a), (.int b), (.int c0)] h (fun v h' => v = some (.int 1)) := by
  refine ctr_of (plainFor_of_name pn_0) hw hn ?_
  intro p e s m below meth c T X
  refine Wp.cast (ef_0 m a b c0) ?_
  refine w_iloadN X D0_0 rfl ?_
  refine w_iconst X D0_1 (v := (3 : Int32)) rfl ?_
  refine w_iand X D0_2 ?_
  refine w_istoreNE X D0_3 (l' := fun z_ => #[.val (.int a), .val (.int b), .val (.int c0), .val (.int z_), .unset, .unset, .unset, .unset, .unset, .unset, .unset]) (fun _ => rfl) (fun md e_md => ?_)
  refine w_iloadN X D0_4 rfl ?_
  refine w_ifne X D0_5 (fun hc5 => ?_) (fun hc5 => ?_)
  · refine w_iloadN X D0_16 rfl ?_
    refine w_iconst X D0_17 (v := (1 : Int32)) rfl ?_
    refine w_icmpne X D0_18 (fun hc18 => ?_) (fun hc18 => ?_)
    · refine w_iloadN X D0_29 rfl ?_
      refine w_iconst X D0_30 (v := (2 : Int32)) rfl ?_
      refine w_icmpne X D0_31 (fun hc31 => ?_) (fun hc31 => ?_)
      · refine w_iconst X D0_42 (v := (4 : Int32)) rfl ?_
        refine w_newB X D0_43 (hw _ (List.mem_of_getElem? (i := 0) rfl)) 4 4 rfl (Nat.le_of_ble_eq_true rfl) (by decide) (Nat.le_of_ble_eq_true rfl) (Nat.le_of_ble_eq_true rfl) (fun T1 h1 a1 X1 g1 E1 B1 => ?_)
        refine w_astore X1 D0_45 (l' := #[.val (.int a), .val (.int b), .val (.int c0), .val (.int md), .val (.ref a1), .unset, .unset, .unset, .unset, .unset, .unset]) rfl rfl ?_
        exact law2 hw X1 a b c0 md a1 4 _ (by decide) (by decide) B1
      · refine w_iconst X D0_34 (v := (3 : Int32)) rfl ?_
        refine w_newB X D0_35 (hw _ (List.mem_of_getElem? (i := 0) rfl)) 3 4 rfl (Nat.le_of_ble_eq_true rfl) (by decide) (Nat.le_of_ble_eq_true rfl) (Nat.le_of_ble_eq_true rfl) (fun T2 h2 a2 X2 g2 E2 B2 => ?_)
        refine w_astore X2 D0_37 (l' := #[.val (.int a), .val (.int b), .val (.int c0), .val (.int md), .val (.ref a2), .unset, .unset, .unset, .unset, .unset, .unset]) rfl rfl ?_
        refine w_goto X2 D0_39 ?_
        exact law2 hw X2 a b c0 md a2 3 _ (by decide) (by decide) B2
    · refine w_iconst X D0_21 (v := (2 : Int32)) rfl ?_
      refine w_newB X D0_22 (hw _ (List.mem_of_getElem? (i := 0) rfl)) 2 4 rfl (Nat.le_of_ble_eq_true rfl) (by decide) (Nat.le_of_ble_eq_true rfl) (Nat.le_of_ble_eq_true rfl) (fun T3 h3 a3 X3 g3 E3 B3 => ?_)
      refine w_astore X3 D0_24 (l' := #[.val (.int a), .val (.int b), .val (.int c0), .val (.int md), .val (.ref a3), .unset, .unset, .unset, .unset, .unset, .unset]) rfl rfl ?_
      refine w_goto X3 D0_26 ?_
      exact law2 hw X3 a b c0 md a3 2 _ (by decide) (by decide) B3
  · refine w_iconst X D0_8 (v := (1 : Int32)) rfl ?_
    refine w_newB X D0_9 (hw _ (List.mem_of_getElem? (i := 0) rfl)) 1 4 rfl (Nat.le_of_ble_eq_true rfl) (by decide) (Nat.le_of_ble_eq_true rfl) (Nat.le_of_ble_eq_true rfl) (fun T4 h4 a4 X4 g4 E4 B4 => ?_)
    refine w_astore X4 D0_11 (l' := #[.val (.int a), .val (.int b), .val (.int c0), .val (.int md), .val (.ref a4), .unset, .unset, .unset, .unset, .unset, .unset]) rfl rfl ?_
    refine w_goto X4 D0_13 ?_
    exact law2 hw X4 a b c0 md a4 1 _ (by decide) (by decide) B4
set_option maxRecDepth 65536 in
set_option maxHeartbeats 40000000 in
theorem comes_1 {Post : Tables → Env → Array Value → State → Outcome → State → Prop} (hpost : ∀ tb e args s v u, (limb_1_1.after args s (.returned v) u = true ∧ limb_1_2.after args s (.returned v) u = true ∧ True) → FrameEnd s (.returned v) u (Jvm.fieldLocs frame_1_writes args s ++ Jvm.arrayLocs frame_1_arrays args s ++ Jvm.staticLocs frame_1_statics s) 16 128 → Post tb e args s (.returned v) u) :
    ArmFor flags0 classFile x code maxLocals ret World_1 tables_1 room_1 Calls_1 rest_1 Pre_1 Post := by
  intro l hfl _ _ p e ha hc hk s m args below hf hA hF happ hP
  obtain ⟨hcalls, hrest, hpre⟩ := hP
  obtain ⟨-, -, -, hnamed, -, -, -, hat⟩ := (Spec.applies_iff hf).mp happ
  obtain ⟨hg, hn⟩ := and_e (Cond.before_iff.mp (show (Jvm.Cond.and given_1 narrow_1).before args s = true from hpre))
  obtain ⟨hcount, g0⟩ := and_e hg
  obtain ⟨ga0, g1⟩ := and_e g0
  obtain ⟨ga1, g2⟩ := and_e g1
  obtain ⟨w0, w1, w2, rfl⟩ : ∃ w0 w1 w2 : Value, args = #[w0, w1, w2] := by
    have hs : args.size = 3 := by simpa [Cond.value, given_1] using hcount
    obtain ⟨L⟩ := args
    match L, hs with
    | [w0, w1, w2], _ => exact ⟨w0, w1, w2, rfl⟩
  have hw := fun d (hd : d ∈ tables_1) => atoms_spec (ws := Jvm.Cond.code x code maxLocals ret :: tables_1) hat d (List.mem_cons_of_mem _ hd)
  obtain ⟨i0, ei0⟩ := is_v ga0
  obtain rfl : w0 = (.int i0) := Option.some.inj ei0
  obtain ⟨i1, ei1⟩ := is_v ga1
  obtain rfl : w1 = (.int i1) := Option.some.inj ei1
  obtain ⟨i2, ei2⟩ := is_v g2
  obtain rfl : w2 = (.int i2) := Option.some.inj ei2
  obtain ⟨n, o, h1, h2, h3, _, L, rfl, ⟨N, -, rfl⟩, hq⟩ := rm0 (l := l) (Z := s) (n0 := s.heap.size) (h := s.heap) hw (Nat.le_refl _) i0 i1 i2 p e ha hc hk s m _ below hf ((Spec.applies_iff_loose hf).mp happ).1 ⟨rfl, State.Warmed39.refl s, rfl⟩ trivial
  refine ⟨n, _, h1, h2, h3, hpost _ _ _ _ _ _ ⟨Cond.after_iff.mpr rfl, Cond.after_iff.mpr (eq_i res_at (Term.int_eval (1)) rfl), trivial⟩ ⟨hq.1, hq.2.1, (hq.2.2.sift fun y hy => Or.inr (N y hy)).mono (by decide) (by decide)⟩⟩
theorem main_1_1 : Claimed_1_1 := comes_1 fun _ _ _ _ _ _ h hF => ⟨h.1, hF⟩
theorem main_1_2 : Claimed_1_2 := comes_1 fun _ _ _ _ _ _ h hF => ⟨h.2.1, hF⟩
end Jvm.Pilot.@@N@@
namespace Jvm.Pilot.@@N@@
open Jvm Jvm.ClassFile Sem Op Lib Jvm.Free Jvm.Stand Jvm.Pilot.@@N@@.Jvm.D
/-! MADE BY PROGRAM (witnessworld.py) out of the Statement's table words and the real class files: 9 classes; the members and pool entries that the words name. The judged class is class 1, her method 3. -/
namespace start1
open Jvm.ClassFile
def u (s : String) : CpInfo := .utf8 (stringToUtf16 s)
/-- a pool by its gaps: so many unusable entries, then the entry; so many at the end -/
def gap : Nat → List CpInfo → List CpInfo
  | 0, r => r
  | n + 1, r => .unusable :: gap n r
def poolList (es : List (Nat × CpInfo)) (last : Nat) : List CpInfo := es.foldr (fun e r => gap e.1 (e.2 :: r)) (gap last [])
def pool (es : List (Nat × CpInfo)) (last : Nat) : Array CpInfo := ⟨poolList es last⟩
def fileOf (pool : Array CpInfo) (this : Nat) (attrs : Array Attribute := #[]) (ms : Array MethodInfo := #[]) (fl : Nat := 33) (sup : Nat := 0) (ifs : Array Nat := #[]) (fds : Array FieldInfo := #[]) : ClassFile where
  minorVersion := 0
  majorVersion := 65
  constantPool := pool
  accessFlags := fl
  thisClass := this
  superClass := sup
  interfaces := ifs
  fields := fds
  methods := ms
  attributes := attrs
def plain (name : String) (sup : Option ClassId) : Class where
  name := name
  kind := .ordinary
  loader := none
  accessFlags := 33
  super := sup
  interfaces := #[]
  cf := none
  fields := #[]
  methods := #[]
  instanceTypes := #[]
  staticTypes := #[]
  resolved := #[]
  callSites := []
  init := .initialized
  statics := none
  mirror := none

def pool0 : Array CpInfo := pool [(5, u "<init>"), (0, u "()V"), (1, .class_ 10), (1, u "java/lang/Object")] 113

def k0c0 : Code := { maxStack := 0, maxLocals := 1, code := object_method_1_code, exceptionTable := #[], attributes := #[] }
def k0m0 : Method := { name := "<init>", desc := "()V", sig := { parameters := [], returnType := none }, accessFlags := 1, code := some k0c0 }
/-- java/lang/Object -/
def k0 : Class := { plain "java/lang/Object" none with
  accessFlags := 33
  interfaces := #[]
  cf := some (fileOf pool0 8 #[] #[{ accessFlags := 1, nameIndex := 5, descriptorIndex := 6, attributes := #[] }] 33 0 #[] #[])
  fields := #[]
  methods := #[k0m0]
  instanceTypes := #[]
  staticTypes := #[]
  resolved := Array.replicate 124 none
  statics := none }

def pool1 : Array CpInfo := pool [(2, .class_ 4), (1, u "java/lang/Object"), (0, u "<init>"), (0, u "()V"), (0, .methodref 8 9), (0, .class_ 10), (0, .nameAndType 11 12), (0, u "com/example/wireproof/wireproof/cli/LinesNextPinLaw"), (0, u "put"), (0, u "([BIII)V"), (0, .class_ 14), (0, u "com/example/wireproof/wireproof/cli/Lines"), (0, .methodref 13 16), (0, .nameAndType 5 17), (0, u "([B)V"), (0, .methodref 13 19), (0, .nameAndType 20 6), (0, u "next"), (0, .methodref 8 22), (0, .nameAndType 23 24), (0, u "firstLf"), (0, u "([BI)I"), (0, .methodref 13 26), (0, .nameAndType 27 28), (0, u "start"), (0, u "()I"), (0, .methodref 13 30), (0, .nameAndType 31 28), (0, u "end"), (0, .methodref 13 33), (0, .nameAndType 34 28), (0, u "number"), (0, .methodref 13 36), (0, .nameAndType 37 38), (0, u "hasNext"), (0, u "()Z"), (3, u "law"), (0, u "(III)Z")] 4

def k1m0 : Method := { name := "<init>", desc := "()V", sig := { parameters := [], returnType := none }, accessFlags := 1, code := none }
def k1c1 : Code := { maxStack := 5, maxLocals := 4, code := method_2_code, exceptionTable := #[], attributes := #[] }
def k1m1 : Method := { name := "put", desc := "([BIII)V", sig := { parameters := [(.array .byte), .int, .int, .int], returnType := none }, accessFlags := 10, code := some k1c1 }
def k1c2 : Code := { maxStack := 2, maxLocals := 3, code := method_3_code, exceptionTable := #[], attributes := #[] }
def k1m2 : Method := { name := "firstLf", desc := "([BI)I", sig := { parameters := [(.array .byte), .int], returnType := some .int }, accessFlags := 10, code := some k1c2 }
def k1c3 : Code := { maxStack := 4, maxLocals := 11, code := code, exceptionTable := #[], attributes := #[] }
def k1m3 : Method := { name := "law", desc := "(III)Z", sig := { parameters := [.int, .int, .int], returnType := some .boolean }, accessFlags := 9, code := some k1c3 }
/-- com/example/wireproof/wireproof/cli/LinesNextPinLaw -/
def k1 : Class := { plain "com/example/wireproof/wireproof/cli/LinesNextPinLaw" (some 0) with
  accessFlags := 49
  interfaces := #[]
  cf := some (fileOf pool1 8 #[] #[{ accessFlags := 1, nameIndex := 5, descriptorIndex := 6, attributes := #[] }, { accessFlags := 10, nameIndex := 11, descriptorIndex := 12, attributes := #[] }, { accessFlags := 10, nameIndex := 23, descriptorIndex := 24, attributes := #[] }, { accessFlags := 9, nameIndex := 42, descriptorIndex := 43, attributes := #[] }] 49 2 #[] #[])
  fields := #[]
  methods := #[k1m0, k1m1, k1m2, k1m3]
  instanceTypes := #[]
  staticTypes := #[]
  resolved := Array.replicate 48 none
  statics := none }

def pool2 : Array CpInfo := pool [(1, .methodref 2 3), (0, .class_ 4), (0, .nameAndType 5 6), (0, u "java/lang/Object"), (0, u "<init>"), (0, u "()V"), (0, .fieldref 8 9), (0, .class_ 10), (0, .nameAndType 11 12), (0, u "com/example/wireproof/wireproof/cli/Lines"), (0, u "text"), (0, u "[B"), (0, .fieldref 8 14), (0, .nameAndType 15 16), (0, u "next"), (0, u "I"), (0, .fieldref 8 18), (0, .nameAndType 19 16), (0, u "start"), (0, .fieldref 8 21), (0, .nameAndType 22 16), (0, u "end"), (0, .fieldref 8 24), (0, .nameAndType 25 16), (0, u "number"), (11, u "([B)V"), (2, u "hasNext"), (0, u "()Z"), (1, u "()I")] 3

def k2c0 : Code := { maxStack := 2, maxLocals := 2, code := prog_32_method_1_code, exceptionTable := #[], attributes := #[] }
def k2m0 : Method := { name := "<init>", desc := "([B)V", sig := { parameters := [(.array .byte)], returnType := none }, accessFlags := 0, code := some k2c0 }
def k2c1 : Code := { maxStack := 2, maxLocals := 1, code := prog_32_method_2_code, exceptionTable := #[], attributes := #[] }
def k2m1 : Method := { name := "hasNext", desc := "()Z", sig := { parameters := [], returnType := some .boolean }, accessFlags := 0, code := some k2c1 }
def k2c2 : Code := { maxStack := 3, maxLocals := 1, code := prog_32_method_3_code, exceptionTable := #[], attributes := #[] }
def k2m2 : Method := { name := "next", desc := "()V", sig := { parameters := [], returnType := none }, accessFlags := 0, code := some k2c2 }
def k2c3 : Code := { maxStack := 1, maxLocals := 1, code := prog_32_method_4_code, exceptionTable := #[], attributes := #[] }
def k2m3 : Method := { name := "number", desc := "()I", sig := { parameters := [], returnType := some .int }, accessFlags := 0, code := some k2c3 }
def k2c4 : Code := { maxStack := 1, maxLocals := 1, code := prog_32_method_5_code, exceptionTable := #[], attributes := #[] }
def k2m4 : Method := { name := "start", desc := "()I", sig := { parameters := [], returnType := some .int }, accessFlags := 0, code := some k2c4 }
def k2c5 : Code := { maxStack := 1, maxLocals := 1, code := prog_32_method_6_code, exceptionTable := #[], attributes := #[] }
def k2m5 : Method := { name := "end", desc := "()I", sig := { parameters := [], returnType := some .int }, accessFlags := 0, code := some k2c5 }
/-- com/example/wireproof/wireproof/cli/Lines -/
def k2 : Class := { plain "com/example/wireproof/wireproof/cli/Lines" (some 0) with
  accessFlags := 48
  interfaces := #[]
  cf := some (fileOf pool2 8 #[] #[{ accessFlags := 0, nameIndex := 5, descriptorIndex := 37, attributes := #[] }, { accessFlags := 0, nameIndex := 40, descriptorIndex := 41, attributes := #[] }, { accessFlags := 0, nameIndex := 15, descriptorIndex := 6, attributes := #[] }, { accessFlags := 0, nameIndex := 25, descriptorIndex := 43, attributes := #[] }, { accessFlags := 0, nameIndex := 19, descriptorIndex := 43, attributes := #[] }, { accessFlags := 0, nameIndex := 22, descriptorIndex := 43, attributes := #[] }] 48 2 #[] #[{ accessFlags := 18, nameIndex := 11, descriptorIndex := 12, attributes := #[] }, { accessFlags := 2, nameIndex := 15, descriptorIndex := 16, attributes := #[] }, { accessFlags := 2, nameIndex := 19, descriptorIndex := 16, attributes := #[] }, { accessFlags := 2, nameIndex := 22, descriptorIndex := 16, attributes := #[] }, { accessFlags := 2, nameIndex := 25, descriptorIndex := 16, attributes := #[] }])
  fields := #[{ name := "text", type := (.array .byte), accessFlags := 18, slot := 0, constantValue := 0 }, { name := "next", type := .int, accessFlags := 2, slot := 1, constantValue := 0 }, { name := "start", type := .int, accessFlags := 2, slot := 2, constantValue := 0 }, { name := "end", type := .int, accessFlags := 2, slot := 3, constantValue := 0 }, { name := "number", type := .int, accessFlags := 2, slot := 4, constantValue := 0 }]
  methods := #[k2m0, k2m1, k2m2, k2m3, k2m4, k2m5]
  instanceTypes := #[(.array .byte), .int, .int, .int, .int]
  staticTypes := #[]
  resolved := Array.replicate 47 none
  statics := none }

def pool3 : Array CpInfo := pool [(1, u "java/lang/Cloneable"), (0, .class_ 1), (0, u "java/lang/Object"), (0, .class_ 3)] 3

/-- java/lang/Cloneable -/
def k3 : Class := { plain "java/lang/Cloneable" (some 0) with
  accessFlags := 1537
  interfaces := #[]
  cf := some (fileOf pool3 2 #[] #[] 1537 4 #[] #[])
  fields := #[]
  methods := #[]
  instanceTypes := #[]
  staticTypes := #[]
  resolved := Array.replicate 8 none
  statics := none }

def pool4 : Array CpInfo := pool [(1, u "java/io/Serializable"), (0, .class_ 1), (0, u "java/lang/Object"), (0, .class_ 3)] 3

/-- java/io/Serializable -/
def k4 : Class := { plain "java/io/Serializable" (some 0) with
  accessFlags := 1537
  interfaces := #[]
  cf := some (fileOf pool4 2 #[] #[] 1537 4 #[] #[])
  fields := #[]
  methods := #[]
  instanceTypes := #[]
  staticTypes := #[]
  resolved := Array.replicate 8 none
  statics := none }

/-- the primitive byte -/
def k5 : Class := { plain "byte" none with kind := .primitive 'B', accessFlags := 0x411 }
/-- [B -/
def k6 : Class := { plain "[B" (some 0) with kind := .array 5 .byte, interfaces := #[3, 4], accessFlags := 1041 }

/-- the primitive int -/
def k7 : Class := { plain "int" none with kind := .primitive 'I', accessFlags := 0x411 }
/-- [I -/
def k8 : Class := { plain "[I" (some 0) with kind := .array 7 .int, interfaces := #[3, 4], accessFlags := 1041 }

def heap : Heap := #[]
def classes : Array Class := #[k0, k1, k2, k3, k4, k5, k6, k7, k8]
def interned : List (Array UInt16 × Addr) := []
def slotsUsed : Nat := 0
def theMethod : MethodId := ⟨1, 3⟩
def args0 : Array Value := #[.int 5, .int 2, .int 3]
def aboutOver (below : List Frame) : State where
  vm := { classes := classes, interned := interned.toArray }
  heap := heap
  slotsUsed := slotsUsed
  threads := #[{ frames := .invoking theMethod args0 :: below }]
def below0 : List Frame := [.native { method := ⟨0, 0⟩, args := #[] }]
def about1 : State := aboutOver below0
def p0 : Program := .bare "" "" ""
def e0 : Env := launch0.env 0 0 0
theorem w_frames : about1.frames = Frame.invoking theMethod args0 :: below0 := rfl
set_option maxRecDepth 65536 in
theorem w_args : argsFit about1.vm theMethod args0 = true := by decide +kernel
set_option maxRecDepth 65536 in
theorem w_heap : heapFits about1 = true := by decide +kernel
set_option maxRecDepth 65536 in
theorem w_runnable : about1.curStatus? = some .runnable := by decide +kernel
set_option maxRecDepth 65536 in
theorem w_alone : about1.alone = true := by decide +kernel
set_option maxRecDepth 65536 in
theorem w_named : about1.methodNamed? x = some theMethod := by decide +kernel
set_option maxRecDepth 65536 in
theorem w_hears : about1.hears theMethod below0 = true := by decide +kernel
set_option maxRecDepth 65536 in
theorem w_ripe : about1.ripe theMethod args0 below0 = true := by decide +kernel
theorem w_running : about1.status = .running := rfl
set_option maxRecDepth 65536 in
theorem w_room : about1.hasRoom e0.platform room_1 = true :=
  launch0.hasRoom_least _ room_1 (by decide +kernel) (by decide +kernel) (by decide +kernel) (by decide +kernel) (by decide +kernel) (by decide +kernel)
theorem allAtoms_all (ts : List Jvm.Cond) (a : Array Jvm.Value) (st : Jvm.State) : (allAtoms ts).before a st = ts.all (fun c => c.before a st) := by
  induction ts with
  | nil => rfl
  | cons c t ih =>
    show (Jvm.Cond.and c (allAtoms t)).before a st = _
    rw [Jvm.Cond.before_and, ih, List.all_cons]
def words1 : List Jvm.Cond := Jvm.Cond.code x code maxLocals ret :: tables_1
/-- a 'code' word, met by the world's own term for the bytes: nothing is compared byte by byte -/
theorem code_word {y : MethodName} {bytes : ByteArray} {mx : Nat} {rt : Option FieldType} {a : Array Value} {s : State} {m : MethodId} {meth : Method} {c : Code} (h1 : s.methodNamed? y = some m) (h2 : s.vm.method? m = some meth) (h3 : meth.code = some c) (h4 : c.code = bytes)
    (h5 : (c.maxLocals == mx && c.exceptionTable.isEmpty && decide (c.maxStack ≤ mostOperands) && decide (meth.sig.returnType = rt) && !meth.locks && decide (parseMethodDescriptor y.desc = some meth.sig)) = true) : (Jvm.Cond.code y bytes mx rt).before a s = true := by
  simp only [Bool.and_eq_true, beq_iff_eq, Bool.not_eq_true', decide_eq_true_eq] at h5
  obtain ⟨⟨⟨⟨⟨g1, g2⟩, g3⟩, g4⟩, g5⟩, g6⟩ := h5
  simp [Cond.before, Cond.holds, Cond.value, h1, h2, h3, h4, g1, g2, g3, g4, g5, g6]
def isCode : Jvm.Cond → Bool
  | .code _ _ _ _ => true
  | _ => false
theorem all_split {L : List Jvm.Cond} {P : Jvm.Cond → Bool} (h1 : L.all (fun c => isCode c || P c) = true) (h2 : ∀ c ∈ L.filter isCode, P c = true) : L.all P = true := by
  refine List.all_eq_true.mpr fun c hc => ?_
  have h := List.all_eq_true.mp h1 c hc
  rcases Bool.eq_false_or_eq_true (isCode c) with hi | hi
  · exact h2 c (List.mem_filter.mpr ⟨hc, hi⟩)
  · simpa [hi] using h
set_option maxRecDepth 65536 in
theorem w_c0 : (Jvm.Cond.code x code maxLocals ret).before args0 about1 = true := code_word (m := ⟨1, 3⟩) (meth := k1m3) (c := k1c3) (by decide +kernel) rfl rfl rfl (by decide +kernel)
set_option maxRecDepth 65536 in
theorem w_c1 : (Jvm.Cond.code ({ cls := "com/example/wireproof/wireproof/cli/LinesNextPinLaw", name := "put", desc := "([BIII)V" } : Jvm.MethodName) method_2_code (4 : Nat) (Option.none : Option Jvm.ClassFile.FieldType)).before args0 about1 = true := code_word (m := ⟨1, 1⟩) (meth := k1m1) (c := k1c1) (by decide +kernel) rfl rfl rfl (by decide +kernel)
set_option maxRecDepth 65536 in
theorem w_c2 : (Jvm.Cond.code ({ cls := "com/example/wireproof/wireproof/cli/Lines", name := "<init>", desc := "([B)V" } : Jvm.MethodName) prog_32_method_1_code (2 : Nat) (Option.none : Option Jvm.ClassFile.FieldType)).before args0 about1 = true := code_word (m := ⟨2, 0⟩) (meth := k2m0) (c := k2c0) (by decide +kernel) rfl rfl rfl (by decide +kernel)
set_option maxRecDepth 65536 in
theorem w_c3 : (Jvm.Cond.code ({ cls := "java/lang/Object", name := "<init>", desc := "()V" } : Jvm.MethodName) object_method_1_code (1 : Nat) (Option.none : Option Jvm.ClassFile.FieldType)).before args0 about1 = true := code_word (m := ⟨0, 0⟩) (meth := k0m0) (c := k0c0) (by decide +kernel) rfl rfl rfl (by decide +kernel)
set_option maxRecDepth 65536 in
theorem w_c4 : (Jvm.Cond.code ({ cls := "com/example/wireproof/wireproof/cli/Lines", name := "next", desc := "()V" } : Jvm.MethodName) prog_32_method_3_code (1 : Nat) (Option.none : Option Jvm.ClassFile.FieldType)).before args0 about1 = true := code_word (m := ⟨2, 2⟩) (meth := k2m2) (c := k2c2) (by decide +kernel) rfl rfl rfl (by decide +kernel)
set_option maxRecDepth 65536 in
theorem w_c5 : (Jvm.Cond.code ({ cls := "com/example/wireproof/wireproof/cli/LinesNextPinLaw", name := "firstLf", desc := "([BI)I" } : Jvm.MethodName) method_3_code (3 : Nat) (Option.some Jvm.ClassFile.FieldType.int)).before args0 about1 = true := code_word (m := ⟨1, 2⟩) (meth := k1m2) (c := k1c2) (by decide +kernel) rfl rfl rfl (by decide +kernel)
set_option maxRecDepth 65536 in
theorem w_c6 : (Jvm.Cond.code ({ cls := "com/example/wireproof/wireproof/cli/Lines", name := "start", desc := "()I" } : Jvm.MethodName) prog_32_method_5_code (1 : Nat) (Option.some Jvm.ClassFile.FieldType.int)).before args0 about1 = true := code_word (m := ⟨2, 4⟩) (meth := k2m4) (c := k2c4) (by decide +kernel) rfl rfl rfl (by decide +kernel)
set_option maxRecDepth 65536 in
theorem w_c7 : (Jvm.Cond.code ({ cls := "com/example/wireproof/wireproof/cli/Lines", name := "end", desc := "()I" } : Jvm.MethodName) prog_32_method_6_code (1 : Nat) (Option.some Jvm.ClassFile.FieldType.int)).before args0 about1 = true := code_word (m := ⟨2, 5⟩) (meth := k2m5) (c := k2c5) (by decide +kernel) rfl rfl rfl (by decide +kernel)
set_option maxRecDepth 65536 in
theorem w_c8 : (Jvm.Cond.code ({ cls := "com/example/wireproof/wireproof/cli/Lines", name := "number", desc := "()I" } : Jvm.MethodName) prog_32_method_4_code (1 : Nat) (Option.some Jvm.ClassFile.FieldType.int)).before args0 about1 = true := code_word (m := ⟨2, 3⟩) (meth := k2m3) (c := k2c3) (by decide +kernel) rfl rfl rfl (by decide +kernel)
set_option maxRecDepth 65536 in
theorem w_c9 : (Jvm.Cond.code ({ cls := "com/example/wireproof/wireproof/cli/Lines", name := "hasNext", desc := "()Z" } : Jvm.MethodName) prog_32_method_2_code (1 : Nat) (Option.some Jvm.ClassFile.FieldType.boolean)).before args0 about1 = true := code_word (m := ⟨2, 1⟩) (meth := k2m1) (c := k2c1) (by decide +kernel) rfl rfl rfl (by decide +kernel)
def codes1 : List Jvm.Cond := [Jvm.Cond.code x code maxLocals ret, Jvm.Cond.code ({ cls := "com/example/wireproof/wireproof/cli/LinesNextPinLaw", name := "put", desc := "([BIII)V" } : Jvm.MethodName) method_2_code (4 : Nat) (Option.none : Option Jvm.ClassFile.FieldType), Jvm.Cond.code ({ cls := "com/example/wireproof/wireproof/cli/Lines", name := "<init>", desc := "([B)V" } : Jvm.MethodName) prog_32_method_1_code (2 : Nat) (Option.none : Option Jvm.ClassFile.FieldType), Jvm.Cond.code ({ cls := "java/lang/Object", name := "<init>", desc := "()V" } : Jvm.MethodName) object_method_1_code (1 : Nat) (Option.none : Option Jvm.ClassFile.FieldType), Jvm.Cond.code ({ cls := "com/example/wireproof/wireproof/cli/Lines", name := "next", desc := "()V" } : Jvm.MethodName) prog_32_method_3_code (1 : Nat) (Option.none : Option Jvm.ClassFile.FieldType), Jvm.Cond.code ({ cls := "com/example/wireproof/wireproof/cli/LinesNextPinLaw", name := "firstLf", desc := "([BI)I" } : Jvm.MethodName) method_3_code (3 : Nat) (Option.some Jvm.ClassFile.FieldType.int), Jvm.Cond.code ({ cls := "com/example/wireproof/wireproof/cli/Lines", name := "start", desc := "()I" } : Jvm.MethodName) prog_32_method_5_code (1 : Nat) (Option.some Jvm.ClassFile.FieldType.int), Jvm.Cond.code ({ cls := "com/example/wireproof/wireproof/cli/Lines", name := "end", desc := "()I" } : Jvm.MethodName) prog_32_method_6_code (1 : Nat) (Option.some Jvm.ClassFile.FieldType.int), Jvm.Cond.code ({ cls := "com/example/wireproof/wireproof/cli/Lines", name := "number", desc := "()I" } : Jvm.MethodName) prog_32_method_4_code (1 : Nat) (Option.some Jvm.ClassFile.FieldType.int), Jvm.Cond.code ({ cls := "com/example/wireproof/wireproof/cli/Lines", name := "hasNext", desc := "()Z" } : Jvm.MethodName) prog_32_method_2_code (1 : Nat) (Option.some Jvm.ClassFile.FieldType.boolean)]
set_option maxRecDepth 65536 in
theorem codes_eq : words1.filter isCode = codes1 := rfl
theorem w_codes : ∀ c ∈ words1.filter isCode, c.before args0 about1 = true := by
  rw [codes_eq]
  intro c hc
  simp only [codes1, List.mem_cons, List.not_mem_nil, or_false] at hc
  rcases hc with rfl | rfl | rfl | rfl | rfl | rfl | rfl | rfl | rfl | rfl
  · exact w_c0
  · exact w_c1
  · exact w_c2
  · exact w_c3
  · exact w_c4
  · exact w_c5
  · exact w_c6
  · exact w_c7
  · exact w_c8
  · exact w_c9
set_option maxRecDepth 65536 in
theorem w_t1 : (words1.take 24).all (fun c => isCode c || c.before args0 about1) = true := by decide +kernel
set_option maxRecDepth 65536 in
theorem w_t2 : ((words1.drop 24).take 24).all (fun c => isCode c || c.before args0 about1) = true := by decide +kernel
set_option maxRecDepth 65536 in
theorem w_t3 : ((words1.drop 24).drop 24).all (fun c => isCode c || c.before args0 about1) = true := by decide +kernel
theorem w_tables : (allAtoms (Jvm.Cond.code x code maxLocals ret :: tables_1)).before args0 about1 = true := by
  rw [allAtoms_all]
  show words1.all (fun c => c.before args0 about1) = true
  refine all_split ?_ w_codes
  rw [← List.take_append_drop 24 words1, List.all_append, w_t1, ← List.take_append_drop 24 (words1.drop 24), List.all_append, w_t2, w_t3]
  rfl
set_option maxRecDepth 65536 in
theorem w_case : (Jvm.Cond.and given_1 narrow_1).before args0 about1 = true := by decide +kernel
theorem w_applies : (headSpec (Jvm.Cond.code x code maxLocals ret :: tables_1) room_1).applies x e0.platform about1 = true :=
  (Spec.applies_iff w_frames).mpr ⟨w_running, w_runnable, w_alone, w_named, w_hears, w_ripe, w_room, w_tables⟩
theorem atStart : AtStart classFile x code maxLocals ret World_1 tables_1 room_1 Calls_1 rest_1 Pre_1 launch0 p0 e0 about1 theMethod args0 below0 :=
  ⟨lists_1, trivial, launch0.admits_env _ _ _, launch0.least_env, fairChoices_fair.cas, fairChoices_fair.clock, w_frames, w_args, w_heap, w_applies, trivial, trivial, w_case⟩
end start1
theorem witness_1 : WitnessClaimed_1 := ⟨start1.p0, start1.e0, start1.about1, start1.theMethod, start1.args0, start1.below0, start1.atStart⟩
end Jvm.Pilot.@@N@@
