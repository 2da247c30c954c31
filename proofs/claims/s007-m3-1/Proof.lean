import JvmDerived
import JvmDerived.Pilot.@@N@@Statement
import JvmDerived.Pilot.@@N@@Code
set_option linter.unusedVariables false
set_option linter.unusedSimpArgs false
namespace Jvm.RoadKit
open Sem ClassFile Op Lib Jvm.Stand Jvm.Free Jvm.LawKit
section New
variable {p : Program} {l : Launch} {e : Env} {R : Room} {s : State} {m : MethodId} {args : Array Value} {below : List Frame} {meth : Method} {c : Code} {T : State} {locs : List Loc} {cells slots : Nat}
theorem retI (X : Stand p l e R s m args below meth c T locs cells slots) (hx : p.tables.exec = Jvm.exec) {pc : Nat} {Ls : Array Slot} {z : Int32} {rest : List Value} (hret : meth.sig.returnType = some .int) (hd : decode c.code pc = .ok (.ireturn, 1)) {fs : List Frame}
    (hl : ∀ (f : JFrame) (acts : List Action), f.method = m → f.locked = none → f.entered = [] → (doReturn e (T.setTop f) acts (some (.int z))).1 = T.setFrames fs) : Steps p.tables e below (T.setTop (mkF m pc Ls (.int z :: rest))) (T.setFrames fs) := by
  have hm' : T.vm.method? m = some meth := X.method'
  have hn : narrow .int (.int z) = .int z := rfl
  show Steps p.tables e below (T.setTop { method := m, pc := pc, locals := Ls, stack := _ :: rest, locked := none }) _
  jvm_step X.here [X.here.top, hx, hd, hm', hret, hn]
  first | (intro acts; rw [hl _ acts rfl rfl rfl]) | rw [hl _ _ rfl rfl rfl]
  exact Steps.refl _
end New
end Jvm.RoadKit
namespace Jvm.Pilot.@@N@@
open Jvm Jvm.ClassFile Sem Op Lib Jvm.Free Jvm.Stand Jvm.LawKit Jvm.RoadKit Bundle Jvm.Pilot.@@N@@.Jvm.D
section OwnKit
variable {Z : State} {a0 : Array Value} {n0 : Nat} {p : Program} {l : Launch} {e : Env} {R : Room} {s : State} {m : MethodId} {args : Array Value} {below : List Frame} {meth : Method} {c : Code} {code : ByteArray} {ml : Nat} {ret : Option FieldType} {y : MethodName} {T : State} {h h' : Heap} {k j : Nat} {Q : Option Value → Heap → Prop} {pc nx tgt : Nat} {Ls : Array Slot} {S : List Value}
/-- Java's shifts -/
abbrev jshl (x q : Int32) : Int32 := x <<< (q &&& 31)
abbrev jshr (x q : Int32) : Int32 := x >>> (q &&& 31)
abbrev jushr (x q : Int32) : Int32 := (x.toUInt32 >>> (q &&& 31).toUInt32).toInt32
abbrev jshlL (x : Int64) (q : Int32) : Int64 := x <<< (q &&& 0x3f).toInt64
abbrev jshrL (x : Int64) (q : Int32) : Int64 := x >>> (q &&& 0x3f).toInt64
abbrev jushrL (x : Int64) (q : Int32) : Int64 := (x.toUInt64 >>> (q &&& 0x3f).toInt64.toUInt64).toInt64
abbrev jbyte (x : Int32) : Int32 := x.toInt8.toInt32
/-- the instruction at pc, and the pc behind it -/
def Dec (code : ByteArray) (pc : Nat) (i : Instr) (len nx : Nat) : Prop := decode code pc = .ok (i, len) ∧ nx = pc + len
/-- a jump at pc: the pc behind it, and where it goes -/
def Jmp (code : ByteArray) (pc : Nat) (i : Instr) (o : Int) (nx tgt : Nat) : Prop := decode code pc = .ok (i, 3) ∧ nx = pc + 3 ∧ 0 ≤ (pc : Int) + o ∧ ((pc : Int) + o).toNat = tgt
/-- where a body's run stands: the heap, the cells and slots made; nothing older than n0 was written -/
def Pos (Z : State) (a0 : Array Value) (n0 : Nat) (p : Program) (l : Launch) (e : Env) (R : Room) (s : State) (m : MethodId) (args : Array Value) (below : List Frame) (meth : Method) (c : Code) (code : ByteArray) (ml : Nat) (ret : Option FieldType) (y : MethodName) (T : State) (h : Heap) (k j : Nat) : Prop :=
  p.tables.exec = Jvm.exec ∧ Z.Warmed39 s.vm ∧ c.code = code ∧ c.maxLocals = ml ∧ meth.sig.returnType = ret ∧ s.vm.findClass y.cls = some m.cls ∧ meth.name = y.name ∧ meth.locks = false ∧ T.heap = h ∧ n0 ≤ h.size ∧ (∀ d ∈ tables_1, d.before a0 Z = true) ∧ ∃ locs, Fr n0 locs ∧ Stand p l e R s m args below meth c T locs k j
/-- from the frame f over T the body comes to its end, and Q says with what -/
def Wp (n0 : Nat) (p : Program) (e : Env) (R : Room) (s : State) (below : List Frame) (Q : Option Value → Heap → Prop) (T : State) (f : JFrame) : Prop :=
  ∃ t o, Steps p.tables e below (T.setTop f) t ∧ t.status = .running ∧ Ended t below o ∧ ∃ v L, o = .returned v ∧ (Fr n0 L ∧ n0 ≤ t.heap.size ∧ Q v t.heap) ∧ FrameEnd s o t L R.cells R.slots
/-- a body's contract at one array of arguments and one heap -/
def Ctr (l : Launch) (Z : State) (n0 : Nat) (y : MethodName) (code : ByteArray) (ml : Nat) (ret : Option FieldType) (R : Room) (ws : List Jvm.Cond) (as : Array Value) (h : Heap) (Q : Option Value → Heap → Prop) : Prop :=
  MetFree l y (head1 (Jvm.Cond.code y code ml ret :: ws) R) (fun a U => a = as ∧ Z.Warmed39 U.vm ∧ U.heap = h) (fun _ _ _ _ _ => True) (fun _ U o U' => ∃ v L, o = .returned v ∧ (Fr n0 L ∧ n0 ≤ U'.heap.size ∧ Q v U'.heap) ∧ FrameEnd U o U' L R.cells R.slots)
/-- an array of n places: place i holds g i; it is no older than n0 -/
def Ba (Z : State) (n0 : Nat) (h : Heap) (a : Addr) (ty : FieldType) (n : Nat) (g : Nat → Value) : Prop :=
  n0 ≤ a ∧ n < 2147483648 ∧ ∃ c : Cell, Arr Z h a c ty ∧ c.slots.size = n ∧ ∀ i, i < n → c.slots[i]? = some (g i)
def bI (b : Nat → Int32) : Nat → Value := fun i => .int (b i)
def bJ (b : Nat → Int64) : Nat → Value := fun i => .long (b i)
def upd {α : Type} (b : Nat → α) (i : Nat) (v : α) : Nat → α := fun q => if q = i then v else b q
theorem upd_at {α : Type} (b : Nat → α) (i : Nat) (v : α) : upd b i v i = v := if_pos rfl
theorem upd_ne {α : Type} (b : Nat → α) {i q : Nat} (v : α) (h : q ≠ i) : upd b i v q = b q := if_neg h
theorem Ba.lt {a : Addr} {ty : FieldType} {n : Nat} {g : Nat → Value} (B : Ba Z n0 h a ty n g) : a < h.size := by obtain ⟨-, -, c, A, -⟩ := B; exact A.lt
theorem Ba.ext {a : Addr} {ty : FieldType} {n : Nat} {g : Nat → Value} (B : Ba Z n0 h a ty n g) (E : Ext h h') : Ba Z n0 h' a ty n g := by obtain ⟨q1, q2, c, A, r⟩ := B; exact ⟨q1, q2, c, A.ext E, r⟩
theorem Ba.keep {a : Addr} {ty : FieldType} {n : Nat} {g : Nat → Value} {ws : List Addr} (B : Ba Z n0 h a ty n g) (K : Keep h h' ws) (q : a ∉ ws) : Ba Z n0 h' a ty n g := by obtain ⟨q1, q2, c, A, r⟩ := B; exact ⟨q1, q2, c, ⟨K.2.1 a c A.1 q, A.2⟩, r⟩
theorem Ba.congr {a : Addr} {ty : FieldType} {n : Nat} {g g' : Nat → Value} (B : Ba Z n0 h a ty n g) (q : ∀ i, i < n → g i = g' i) : Ba Z n0 h a ty n g' := by obtain ⟨q1, q2, c, A, r1, r2⟩ := B; exact ⟨q1, q2, c, A, r1, fun i hi => by rw [r2 i hi, q i hi]⟩
theorem ofNat_toInt {n : Nat} (h : n < 2147483648) : (Int32.ofNat n).toInt = n := Int32.toInt_ofNat_of_lt (by omega)
theorem ofNat_clamp {n : Nat} (h : n < 2147483648) : (Int32.ofNat n).toNatClampNeg = n := by rw [Int32.toNatClampNeg, ofNat_toInt h]; rfl
theorem ofNat_nn {n : Nat} (h : n < 2147483648) : ¬ Int32.ofNat n < 0 := by rw [Int32.lt_iff_toInt_lt, ofNat_toInt h, show (0 : Int32).toInt = 0 from rfl]; omega
theorem ofNat_lt {a b : Nat} (ha : a < 2147483648) (hb : b < 2147483648) : Int32.ofNat a < Int32.ofNat b ↔ a < b := by rw [Int32.lt_iff_toInt_lt, ofNat_toInt ha, ofNat_toInt hb]; omega
theorem eq_ofNat {x : Int32} {n : Nat} (hn : n < 2147483648) (h : x.toInt = n) : x = Int32.ofNat n := Int32.toInt_inj.mp (by rw [h, ofNat_toInt hn])
theorem inb {c : Cell} {n i : Nat} (hn : n < 2147483648) (hc : c.slots.size = n) (hi : i < n) : ¬ (Int32.ofNat i < 0 ∨ c.slots.size ≤ (Int32.ofNat i).toNatClampNeg) := by
  rw [hc, ofNat_clamp (by omega)]
  exact fun q => q.elim (ofNat_nn (by omega)) (fun q => by omega)
theorem Pos.sz (X : Pos Z a0 n0 p l e R s m args below meth c code ml ret y T h k j) : n0 ≤ h.size := X.2.2.2.2.2.2.2.2.2.1
theorem Wp.go {T' : State} {f f' : JFrame} (st : ∀ target, Steps p.tables e below (T'.setTop f') target → Steps p.tables e below (T.setTop f) target) (q : Wp n0 p e R s below Q T' f') : Wp n0 p e R s below Q T f := by
  obtain ⟨t, o, h1, r⟩ := q; exact ⟨t, o, st t h1, r⟩
theorem Wp.cast {f f' : JFrame} (q : f = f') (w : Wp n0 p e R s below Q T f') : Wp n0 p e R s below Q T f := q ▸ w
theorem ctr_of {ws : List Jvm.Cond} {as : Array Value} (hp : plainFor y = true) (hw : ∀ d ∈ tables_1, d.before a0 Z = true) (hn : n0 ≤ h.size)
    (body : ∀ p e s m below meth c T, Pos Z a0 n0 p l e R s m as below meth c code ml ret y T h 0 0 → Wp n0 p e R s below Q T (entryFrame m as ml)) : Ctr l Z n0 y code ml ret R ws as h Q := by
  refine MetFree.of_bodySF hp hisR ?_
  intro p e s m args below meth c s₁ Bd hml0 hP hK
  obtain ⟨rfl, hZ, hh⟩ := hP
  exact body p e s m below meth c s₁ ⟨Bd.exec, hZ, Bd.bytes, hml0, Bd.returns, findClass_of_methodNamed Bd.named, (name_of_methodNamed Bd.named Bd.method).1, Bd.notSynchronized, by rw [← hh, Bd.state]; rfl, hn, hw, [], Fr.nil _, Stand.of_body Bd⟩
theorem w_iadd (X : Pos Z a0 n0 p l e R s m args below meth c code ml ret y T h k j) {x z : Int32} (hd : Dec code pc .iadd 1 nx) (q : Wp n0 p e R s below Q T (mkF m nx Ls (.int (x + z) :: S))) : Wp n0 p e R s below Q T (mkF m pc Ls (.int z :: .int x :: S)) := by
  obtain ⟨hx, hZ, hby, hml, hret, hown, hnm, hlk, eT, hn0, hw, locs, N, Y⟩ := X
  obtain ⟨hd, rfl⟩ := hd
  exact Wp.go (fun _ q => XS.iadd Y.here hx rfl (hb hby hd) rfl q) q
theorem w_isub (X : Pos Z a0 n0 p l e R s m args below meth c code ml ret y T h k j) {x z : Int32} (hd : Dec code pc .isub 1 nx) (q : Wp n0 p e R s below Q T (mkF m nx Ls (.int (x - z) :: S))) : Wp n0 p e R s below Q T (mkF m pc Ls (.int z :: .int x :: S)) := by
  obtain ⟨hx, hZ, hby, hml, hret, hown, hnm, hlk, eT, hn0, hw, locs, N, Y⟩ := X
  obtain ⟨hd, rfl⟩ := hd
  exact Wp.go (fun _ q => XS.isub Y.here hx rfl (hb hby hd) rfl q) q
theorem w_imul (X : Pos Z a0 n0 p l e R s m args below meth c code ml ret y T h k j) {x z : Int32} (hd : Dec code pc .imul 1 nx) (q : Wp n0 p e R s below Q T (mkF m nx Ls (.int (x * z) :: S))) : Wp n0 p e R s below Q T (mkF m pc Ls (.int z :: .int x :: S)) := by
  obtain ⟨hx, hZ, hby, hml, hret, hown, hnm, hlk, eT, hn0, hw, locs, N, Y⟩ := X
  obtain ⟨hd, rfl⟩ := hd
  exact Wp.go (fun _ q => XS.imul Y.here hx rfl (hb hby hd) rfl q) q
theorem w_iand (X : Pos Z a0 n0 p l e R s m args below meth c code ml ret y T h k j) {x z : Int32} (hd : Dec code pc .iand 1 nx) (q : Wp n0 p e R s below Q T (mkF m nx Ls (.int (x &&& z) :: S))) : Wp n0 p e R s below Q T (mkF m pc Ls (.int z :: .int x :: S)) := by
  obtain ⟨hx, hZ, hby, hml, hret, hown, hnm, hlk, eT, hn0, hw, locs, N, Y⟩ := X
  obtain ⟨hd, rfl⟩ := hd
  exact Wp.go (fun _ q => XS.iand Y.here hx rfl (hb hby hd) rfl q) q
theorem w_ior (X : Pos Z a0 n0 p l e R s m args below meth c code ml ret y T h k j) {x z : Int32} (hd : Dec code pc .ior 1 nx) (q : Wp n0 p e R s below Q T (mkF m nx Ls (.int (x ||| z) :: S))) : Wp n0 p e R s below Q T (mkF m pc Ls (.int z :: .int x :: S)) := by
  obtain ⟨hx, hZ, hby, hml, hret, hown, hnm, hlk, eT, hn0, hw, locs, N, Y⟩ := X
  obtain ⟨hd, rfl⟩ := hd
  exact Wp.go (fun _ q => XS.ior Y.here hx rfl (hb hby hd) rfl q) q
theorem w_ixor (X : Pos Z a0 n0 p l e R s m args below meth c code ml ret y T h k j) {x z : Int32} (hd : Dec code pc .ixor 1 nx) (q : Wp n0 p e R s below Q T (mkF m nx Ls (.int (x ^^^ z) :: S))) : Wp n0 p e R s below Q T (mkF m pc Ls (.int z :: .int x :: S)) := by
  obtain ⟨hx, hZ, hby, hml, hret, hown, hnm, hlk, eT, hn0, hw, locs, N, Y⟩ := X
  obtain ⟨hd, rfl⟩ := hd
  exact Wp.go (fun _ q => XS.ixor Y.here hx rfl (hb hby hd) rfl q) q
theorem w_ishl (X : Pos Z a0 n0 p l e R s m args below meth c code ml ret y T h k j) {x z : Int32} (hd : Dec code pc .ishl 1 nx) (q : Wp n0 p e R s below Q T (mkF m nx Ls (.int (jshl x z) :: S))) : Wp n0 p e R s below Q T (mkF m pc Ls (.int z :: .int x :: S)) := by
  obtain ⟨hx, hZ, hby, hml, hret, hown, hnm, hlk, eT, hn0, hw, locs, N, Y⟩ := X
  obtain ⟨hd, rfl⟩ := hd
  exact Wp.go (fun _ q => XS.ishl Y.here hx rfl (hb hby hd) rfl q) q
theorem w_ishr (X : Pos Z a0 n0 p l e R s m args below meth c code ml ret y T h k j) {x z : Int32} (hd : Dec code pc .ishr 1 nx) (q : Wp n0 p e R s below Q T (mkF m nx Ls (.int (jshr x z) :: S))) : Wp n0 p e R s below Q T (mkF m pc Ls (.int z :: .int x :: S)) := by
  obtain ⟨hx, hZ, hby, hml, hret, hown, hnm, hlk, eT, hn0, hw, locs, N, Y⟩ := X
  obtain ⟨hd, rfl⟩ := hd
  exact Wp.go (fun _ q => XS.ishr Y.here hx rfl (hb hby hd) rfl q) q
theorem w_iushr (X : Pos Z a0 n0 p l e R s m args below meth c code ml ret y T h k j) {x z : Int32} (hd : Dec code pc .iushr 1 nx) (q : Wp n0 p e R s below Q T (mkF m nx Ls (.int (jushr x z) :: S))) : Wp n0 p e R s below Q T (mkF m pc Ls (.int z :: .int x :: S)) := by
  obtain ⟨hx, hZ, hby, hml, hret, hown, hnm, hlk, eT, hn0, hw, locs, N, Y⟩ := X
  obtain ⟨hd, rfl⟩ := hd
  exact Wp.go (fun _ q => XS.iushr Y.here hx rfl (hb hby hd) rfl q) q
theorem w_ladd (X : Pos Z a0 n0 p l e R s m args below meth c code ml ret y T h k j) {x z : Int64} (hd : Dec code pc .ladd 1 nx) (q : Wp n0 p e R s below Q T (mkF m nx Ls (.long (x + z) :: S))) : Wp n0 p e R s below Q T (mkF m pc Ls (.long z :: .long x :: S)) := by
  obtain ⟨hx, hZ, hby, hml, hret, hown, hnm, hlk, eT, hn0, hw, locs, N, Y⟩ := X
  obtain ⟨hd, rfl⟩ := hd
  exact Wp.go (fun _ q => XS.ladd Y.here hx rfl (hb hby hd) rfl q) q
theorem w_lsub (X : Pos Z a0 n0 p l e R s m args below meth c code ml ret y T h k j) {x z : Int64} (hd : Dec code pc .lsub 1 nx) (q : Wp n0 p e R s below Q T (mkF m nx Ls (.long (x - z) :: S))) : Wp n0 p e R s below Q T (mkF m pc Ls (.long z :: .long x :: S)) := by
  obtain ⟨hx, hZ, hby, hml, hret, hown, hnm, hlk, eT, hn0, hw, locs, N, Y⟩ := X
  obtain ⟨hd, rfl⟩ := hd
  exact Wp.go (fun _ q => XS.lsub Y.here hx rfl (hb hby hd) rfl q) q
theorem w_lmul (X : Pos Z a0 n0 p l e R s m args below meth c code ml ret y T h k j) {x z : Int64} (hd : Dec code pc .lmul 1 nx) (q : Wp n0 p e R s below Q T (mkF m nx Ls (.long (x * z) :: S))) : Wp n0 p e R s below Q T (mkF m pc Ls (.long z :: .long x :: S)) := by
  obtain ⟨hx, hZ, hby, hml, hret, hown, hnm, hlk, eT, hn0, hw, locs, N, Y⟩ := X
  obtain ⟨hd, rfl⟩ := hd
  exact Wp.go (fun _ q => XS.lmul Y.here hx rfl (hb hby hd) rfl q) q
theorem w_land (X : Pos Z a0 n0 p l e R s m args below meth c code ml ret y T h k j) {x z : Int64} (hd : Dec code pc .land 1 nx) (q : Wp n0 p e R s below Q T (mkF m nx Ls (.long (x &&& z) :: S))) : Wp n0 p e R s below Q T (mkF m pc Ls (.long z :: .long x :: S)) := by
  obtain ⟨hx, hZ, hby, hml, hret, hown, hnm, hlk, eT, hn0, hw, locs, N, Y⟩ := X
  obtain ⟨hd, rfl⟩ := hd
  exact Wp.go (fun _ q => XS.land Y.here hx rfl (hb hby hd) rfl q) q
theorem w_lor (X : Pos Z a0 n0 p l e R s m args below meth c code ml ret y T h k j) {x z : Int64} (hd : Dec code pc .lor 1 nx) (q : Wp n0 p e R s below Q T (mkF m nx Ls (.long (x ||| z) :: S))) : Wp n0 p e R s below Q T (mkF m pc Ls (.long z :: .long x :: S)) := by
  obtain ⟨hx, hZ, hby, hml, hret, hown, hnm, hlk, eT, hn0, hw, locs, N, Y⟩ := X
  obtain ⟨hd, rfl⟩ := hd
  exact Wp.go (fun _ q => XS.lor Y.here hx rfl (hb hby hd) rfl q) q
theorem w_lxor (X : Pos Z a0 n0 p l e R s m args below meth c code ml ret y T h k j) {x z : Int64} (hd : Dec code pc .lxor 1 nx) (q : Wp n0 p e R s below Q T (mkF m nx Ls (.long (x ^^^ z) :: S))) : Wp n0 p e R s below Q T (mkF m pc Ls (.long z :: .long x :: S)) := by
  obtain ⟨hx, hZ, hby, hml, hret, hown, hnm, hlk, eT, hn0, hw, locs, N, Y⟩ := X
  obtain ⟨hd, rfl⟩ := hd
  exact Wp.go (fun _ q => XS.lxor Y.here hx rfl (hb hby hd) rfl q) q
theorem w_lshl (X : Pos Z a0 n0 p l e R s m args below meth c code ml ret y T h k j) {x : Int64} {z : Int32} (hd : Dec code pc .lshl 1 nx) (q : Wp n0 p e R s below Q T (mkF m nx Ls (.long (jshlL x z) :: S))) : Wp n0 p e R s below Q T (mkF m pc Ls (.int z :: .long x :: S)) := by
  obtain ⟨hx, hZ, hby, hml, hret, hown, hnm, hlk, eT, hn0, hw, locs, N, Y⟩ := X
  obtain ⟨hd, rfl⟩ := hd
  exact Wp.go (fun _ q => XS.lshl Y.here hx rfl (hb hby hd) rfl q) q
theorem w_lshr (X : Pos Z a0 n0 p l e R s m args below meth c code ml ret y T h k j) {x : Int64} {z : Int32} (hd : Dec code pc .lshr 1 nx) (q : Wp n0 p e R s below Q T (mkF m nx Ls (.long (jshrL x z) :: S))) : Wp n0 p e R s below Q T (mkF m pc Ls (.int z :: .long x :: S)) := by
  obtain ⟨hx, hZ, hby, hml, hret, hown, hnm, hlk, eT, hn0, hw, locs, N, Y⟩ := X
  obtain ⟨hd, rfl⟩ := hd
  exact Wp.go (fun _ q => XS.lshr Y.here hx rfl (hb hby hd) rfl q) q
theorem w_lushr (X : Pos Z a0 n0 p l e R s m args below meth c code ml ret y T h k j) {x : Int64} {z : Int32} (hd : Dec code pc .lushr 1 nx) (q : Wp n0 p e R s below Q T (mkF m nx Ls (.long (jushrL x z) :: S))) : Wp n0 p e R s below Q T (mkF m pc Ls (.int z :: .long x :: S)) := by
  obtain ⟨hx, hZ, hby, hml, hret, hown, hnm, hlk, eT, hn0, hw, locs, N, Y⟩ := X
  obtain ⟨hd, rfl⟩ := hd
  exact Wp.go (fun _ q => XS.lushr Y.here hx rfl (hb hby hd) rfl q) q
theorem w_idiv (X : Pos Z a0 n0 p l e R s m args below meth c code ml ret y T h k j) {x z : Int32} (hd : Dec code pc .idiv 1 nx) (hz : z ≠ 0) (q : Wp n0 p e R s below Q T (mkF m nx Ls (.int (x / z) :: S))) : Wp n0 p e R s below Q T (mkF m pc Ls (.int z :: .int x :: S)) := by
  obtain ⟨hx, hZ, hby, hml, hret, hown, hnm, hlk, eT, hn0, hw, locs, N, Y⟩ := X
  obtain ⟨hd, rfl⟩ := hd
  exact Wp.go (fun _ q => XS.idiv Y.here hx rfl (hb hby hd) rfl hz q) q
theorem w_irem (X : Pos Z a0 n0 p l e R s m args below meth c code ml ret y T h k j) {x z : Int32} (hd : Dec code pc .irem 1 nx) (hz : z ≠ 0) (q : Wp n0 p e R s below Q T (mkF m nx Ls (.int (x % z) :: S))) : Wp n0 p e R s below Q T (mkF m pc Ls (.int z :: .int x :: S)) := by
  obtain ⟨hx, hZ, hby, hml, hret, hown, hnm, hlk, eT, hn0, hw, locs, N, Y⟩ := X
  obtain ⟨hd, rfl⟩ := hd
  exact Wp.go (fun _ q => iremM Y hx rfl (hb hby hd) rfl hz q) q
theorem w_ldiv (X : Pos Z a0 n0 p l e R s m args below meth c code ml ret y T h k j) {x z : Int64} (hd : Dec code pc .ldiv 1 nx) (hz : z ≠ 0) (q : Wp n0 p e R s below Q T (mkF m nx Ls (.long (x / z) :: S))) : Wp n0 p e R s below Q T (mkF m pc Ls (.long z :: .long x :: S)) := by
  obtain ⟨hx, hZ, hby, hml, hret, hown, hnm, hlk, eT, hn0, hw, locs, N, Y⟩ := X
  obtain ⟨hd, rfl⟩ := hd
  exact Wp.go (fun _ q => XS.ldiv Y.here hx rfl (hb hby hd) rfl hz q) q
theorem w_lrem (X : Pos Z a0 n0 p l e R s m args below meth c code ml ret y T h k j) {x z : Int64} (hd : Dec code pc .lrem 1 nx) (hz : z ≠ 0) (q : Wp n0 p e R s below Q T (mkF m nx Ls (.long (x - (x / z) * z) :: S))) : Wp n0 p e R s below Q T (mkF m pc Ls (.long z :: .long x :: S)) := by
  obtain ⟨hx, hZ, hby, hml, hret, hown, hnm, hlk, eT, hn0, hw, locs, N, Y⟩ := X
  obtain ⟨hd, rfl⟩ := hd
  exact Wp.go (fun _ q => XS.lrem Y.here hx rfl (hb hby hd) rfl hz q) q
theorem w_ineg (X : Pos Z a0 n0 p l e R s m args below meth c code ml ret y T h k j) {x : Int32} (hd : Dec code pc .ineg 1 nx) (q : Wp n0 p e R s below Q T (mkF m nx Ls (.int (-x) :: S))) : Wp n0 p e R s below Q T (mkF m pc Ls (.int x :: S)) := by
  obtain ⟨hx, hZ, hby, hml, hret, hown, hnm, hlk, eT, hn0, hw, locs, N, Y⟩ := X
  obtain ⟨hd, rfl⟩ := hd
  exact Wp.go (fun _ q => XS.ineg Y.here hx rfl (hb hby hd) rfl q) q
theorem w_lneg (X : Pos Z a0 n0 p l e R s m args below meth c code ml ret y T h k j) {x : Int64} (hd : Dec code pc .lneg 1 nx) (q : Wp n0 p e R s below Q T (mkF m nx Ls (.long (-x) :: S))) : Wp n0 p e R s below Q T (mkF m pc Ls (.long x :: S)) := by
  obtain ⟨hx, hZ, hby, hml, hret, hown, hnm, hlk, eT, hn0, hw, locs, N, Y⟩ := X
  obtain ⟨hd, rfl⟩ := hd
  exact Wp.go (fun _ q => XS.lneg Y.here hx rfl (hb hby hd) rfl q) q
theorem w_i2l (X : Pos Z a0 n0 p l e R s m args below meth c code ml ret y T h k j) {x : Int32} (hd : Dec code pc .i2l 1 nx) (q : Wp n0 p e R s below Q T (mkF m nx Ls (.long (x.toInt64) :: S))) : Wp n0 p e R s below Q T (mkF m pc Ls (.int x :: S)) := by
  obtain ⟨hx, hZ, hby, hml, hret, hown, hnm, hlk, eT, hn0, hw, locs, N, Y⟩ := X
  obtain ⟨hd, rfl⟩ := hd
  exact Wp.go (fun _ q => XS.i2l Y.here hx rfl (hb hby hd) rfl q) q
theorem w_l2i (X : Pos Z a0 n0 p l e R s m args below meth c code ml ret y T h k j) {x : Int64} (hd : Dec code pc .l2i 1 nx) (q : Wp n0 p e R s below Q T (mkF m nx Ls (.int (x.toInt32) :: S))) : Wp n0 p e R s below Q T (mkF m pc Ls (.long x :: S)) := by
  obtain ⟨hx, hZ, hby, hml, hret, hown, hnm, hlk, eT, hn0, hw, locs, N, Y⟩ := X
  obtain ⟨hd, rfl⟩ := hd
  exact Wp.go (fun _ q => XS.l2i Y.here hx rfl (hb hby hd) rfl q) q
theorem w_i2b (X : Pos Z a0 n0 p l e R s m args below meth c code ml ret y T h k j) {x : Int32} (hd : Dec code pc .i2b 1 nx) (q : Wp n0 p e R s below Q T (mkF m nx Ls (.int (jbyte x) :: S))) : Wp n0 p e R s below Q T (mkF m pc Ls (.int x :: S)) := by
  obtain ⟨hx, hZ, hby, hml, hret, hown, hnm, hlk, eT, hn0, hw, locs, N, Y⟩ := X
  obtain ⟨hd, rfl⟩ := hd
  exact Wp.go (fun _ q => XS.i2b Y.here hx rfl (hb hby hd) rfl q) q
theorem w_iconst (X : Pos Z a0 n0 p l e R s m args below meth c code ml ret y T h k j) {i : Int} {v : Int32} (hd : Dec code pc (.iconst i) 1 nx) (hv : Int32.ofInt i = v) (q : Wp n0 p e R s below Q T (mkF m nx Ls (.int v :: S))) : Wp n0 p e R s below Q T (mkF m pc Ls S) := by
  obtain ⟨hx, hZ, hby, hml, hret, hown, hnm, hlk, eT, hn0, hw, locs, N, Y⟩ := X
  obtain ⟨hd, rfl⟩ := hd
  subst hv
  exact Wp.go (fun _ q => XS.iconst Y.here hx rfl (hb hby hd) q) q
theorem w_bipush (X : Pos Z a0 n0 p l e R s m args below meth c code ml ret y T h k j) {i : Int} {v : Int32} (hd : Dec code pc (.bipush i) 2 nx) (hv : (Int8.ofInt i).toInt32 = v) (q : Wp n0 p e R s below Q T (mkF m nx Ls (.int v :: S))) : Wp n0 p e R s below Q T (mkF m pc Ls S) := by
  obtain ⟨hx, hZ, hby, hml, hret, hown, hnm, hlk, eT, hn0, hw, locs, N, Y⟩ := X
  obtain ⟨hd, rfl⟩ := hd
  subst hv
  exact Wp.go (fun _ q => XS.bipush Y.here hx rfl (hb hby hd) q) q
theorem w_sipush (X : Pos Z a0 n0 p l e R s m args below meth c code ml ret y T h k j) {i : Int} {v : Int32} (hd : Dec code pc (.sipush i) 3 nx) (hv : (Int16.ofInt i).toInt32 = v) (q : Wp n0 p e R s below Q T (mkF m nx Ls (.int v :: S))) : Wp n0 p e R s below Q T (mkF m pc Ls S) := by
  obtain ⟨hx, hZ, hby, hml, hret, hown, hnm, hlk, eT, hn0, hw, locs, N, Y⟩ := X
  obtain ⟨hd, rfl⟩ := hd
  subst hv
  exact Wp.go (fun _ q => XS.sipush Y.here hx rfl (hb hby hd) q) q
theorem w_lconst0 (X : Pos Z a0 n0 p l e R s m args below meth c code ml ret y T h k j) (hd : Dec code pc (.lconst 0) 1 nx) (q : Wp n0 p e R s below Q T (mkF m nx Ls (.long 0 :: S))) : Wp n0 p e R s below Q T (mkF m pc Ls S) := by
  obtain ⟨hx, hZ, hby, hml, hret, hown, hnm, hlk, eT, hn0, hw, locs, N, Y⟩ := X
  obtain ⟨hd, rfl⟩ := hd
  exact Wp.go (fun _ q => XS.lconst Y.here hx rfl (hb hby hd) q) q
theorem w_lconst1 (X : Pos Z a0 n0 p l e R s m args below meth c code ml ret y T h k j) (hd : Dec code pc (.lconst 1) 1 nx) (q : Wp n0 p e R s below Q T (mkF m nx Ls (.long 1 :: S))) : Wp n0 p e R s below Q T (mkF m pc Ls S) := by
  obtain ⟨hx, hZ, hby, hml, hret, hown, hnm, hlk, eT, hn0, hw, locs, N, Y⟩ := X
  obtain ⟨hd, rfl⟩ := hd
  exact Wp.go (fun _ q => XS.lconst Y.here hx rfl (hb hby hd) q) q
theorem w_null (X : Pos Z a0 n0 p l e R s m args below meth c code ml ret y T h k j) (hd : Dec code pc .aconst_null 1 nx) (q : Wp n0 p e R s below Q T (mkF m nx Ls (.null :: S))) : Wp n0 p e R s below Q T (mkF m pc Ls S) := by
  obtain ⟨hx, hZ, hby, hml, hret, hown, hnm, hlk, eT, hn0, hw, locs, N, Y⟩ := X
  obtain ⟨hd, rfl⟩ := hd
  exact Wp.go (fun _ q => XS.aconstNull Y.here hx rfl (hb hby hd) q) q
theorem w_iloadN (X : Pos Z a0 n0 p l e R s m args below meth c code ml ret y T h k j) {w : Fin 4} {v : Int32} (hd : Dec code pc (.iload_n w) 1 nx) (hl : Ls[w.val]? = some (.val (.int v))) (q : Wp n0 p e R s below Q T (mkF m nx Ls (.int v :: S))) : Wp n0 p e R s below Q T (mkF m pc Ls S) := by
  obtain ⟨hx, hZ, hby, hml, hret, hown, hnm, hlk, eT, hn0, hw, locs, N, Y⟩ := X
  obtain ⟨hd, rfl⟩ := hd
  exact Wp.go (fun _ q => XS.iloadN Y.here hx rfl (hb hby hd) hl q) q
theorem w_iload (X : Pos Z a0 n0 p l e R s m args below meth c code ml ret y T h k j) {w : Nat} {v : Int32} (hd : Dec code pc (.iload w) 2 nx) (hl : Ls[w]? = some (.val (.int v))) (q : Wp n0 p e R s below Q T (mkF m nx Ls (.int v :: S))) : Wp n0 p e R s below Q T (mkF m pc Ls S) := by
  obtain ⟨hx, hZ, hby, hml, hret, hown, hnm, hlk, eT, hn0, hw, locs, N, Y⟩ := X
  obtain ⟨hd, rfl⟩ := hd
  exact Wp.go (fun _ q => XS.iload Y.here hx rfl (hb hby hd) hl q) q
theorem w_lloadN (X : Pos Z a0 n0 p l e R s m args below meth c code ml ret y T h k j) {w : Fin 4} {v : Int64} (hd : Dec code pc (.lload_n w) 1 nx) (hl : Ls[w.val]? = some (.val (.long v))) (q : Wp n0 p e R s below Q T (mkF m nx Ls (.long v :: S))) : Wp n0 p e R s below Q T (mkF m pc Ls S) := by
  obtain ⟨hx, hZ, hby, hml, hret, hown, hnm, hlk, eT, hn0, hw, locs, N, Y⟩ := X
  obtain ⟨hd, rfl⟩ := hd
  exact Wp.go (fun _ q => XS.lloadN Y.here hx rfl (hb hby hd) hl q) q
theorem w_lload (X : Pos Z a0 n0 p l e R s m args below meth c code ml ret y T h k j) {w : Nat} {v : Int64} (hd : Dec code pc (.lload w) 2 nx) (hl : Ls[w]? = some (.val (.long v))) (q : Wp n0 p e R s below Q T (mkF m nx Ls (.long v :: S))) : Wp n0 p e R s below Q T (mkF m pc Ls S) := by
  obtain ⟨hx, hZ, hby, hml, hret, hown, hnm, hlk, eT, hn0, hw, locs, N, Y⟩ := X
  obtain ⟨hd, rfl⟩ := hd
  exact Wp.go (fun _ q => XS.lload Y.here hx rfl (hb hby hd) hl q) q
theorem w_aloadN (X : Pos Z a0 n0 p l e R s m args below meth c code ml ret y T h k j) {w : Fin 4} {v : Value} (hd : Dec code pc (.aload_n w) 1 nx) (hl : Ls[w.val]? = some (.val v)) (hv : v.isRef = true) (q : Wp n0 p e R s below Q T (mkF m nx Ls (v :: S))) : Wp n0 p e R s below Q T (mkF m pc Ls S) := by
  obtain ⟨hx, hZ, hby, hml, hret, hown, hnm, hlk, eT, hn0, hw, locs, N, Y⟩ := X
  obtain ⟨hd, rfl⟩ := hd
  exact Wp.go (fun _ q => XS.aloadN Y.here hx rfl (hb hby hd) hl hv q) q
theorem w_astoreN (X : Pos Z a0 n0 p l e R s m args below meth c code ml ret y T h k j) {w : Fin 4} {v : Value} {l' : Array Slot} (hd : Dec code pc (.astore_n w) 1 nx) (hv : v.isRef = true) (hl : storeLocals Ls w.val v = some l') (q : Wp n0 p e R s below Q T (mkF m nx l' S)) : Wp n0 p e R s below Q T (mkF m pc Ls (v :: S)) := by
  obtain ⟨hx, hZ, hby, hml, hret, hown, hnm, hlk, eT, hn0, hw, locs, N, Y⟩ := X
  obtain ⟨hd, rfl⟩ := hd
  exact Wp.go (fun _ q => XS.astoreN Y.here hx rfl (hb hby hd) rfl hv hl q) q
theorem w_istoreN (X : Pos Z a0 n0 p l e R s m args below meth c code ml ret y T h k j) {w : Fin 4} {v : Int32} {l' : Array Slot} (hd : Dec code pc (.istore_n w) 1 nx) (hl : storeLocals Ls w.val (.int v) = some l') (q : Wp n0 p e R s below Q T (mkF m nx l' S)) : Wp n0 p e R s below Q T (mkF m pc Ls (.int v :: S)) := by
  obtain ⟨hx, hZ, hby, hml, hret, hown, hnm, hlk, eT, hn0, hw, locs, N, Y⟩ := X
  obtain ⟨hd, rfl⟩ := hd
  exact Wp.go (fun _ q => XS.istoreN Y.here hx rfl (hb hby hd) rfl hl q) q
theorem w_istoreNE (X : Pos Z a0 n0 p l e R s m args below meth c code ml ret y T h k j) {w : Fin 4} {v : Int32} {l' : Int32 → Array Slot} (hd : Dec code pc (.istore_n w) 1 nx) (hl : ∀ z, storeLocals Ls w.val (.int z) = some (l' z)) (q : ∀ z, z = v → Wp n0 p e R s below Q T (mkF m nx (l' z) S)) : Wp n0 p e R s below Q T (mkF m pc Ls (.int v :: S)) := w_istoreN X hd (hl v) (q v rfl)
theorem w_lstoreN (X : Pos Z a0 n0 p l e R s m args below meth c code ml ret y T h k j) {w : Fin 4} {v : Int64} {l' : Array Slot} (hd : Dec code pc (.lstore_n w) 1 nx) (hl : storeLocals Ls w.val (.long v) = some l') (q : Wp n0 p e R s below Q T (mkF m nx l' S)) : Wp n0 p e R s below Q T (mkF m pc Ls (.long v :: S)) := by
  obtain ⟨hx, hZ, hby, hml, hret, hown, hnm, hlk, eT, hn0, hw, locs, N, Y⟩ := X
  obtain ⟨hd, rfl⟩ := hd
  exact Wp.go (fun _ q => XS.lstoreN Y.here hx rfl (hb hby hd) rfl hl q) q
theorem w_lstoreNE (X : Pos Z a0 n0 p l e R s m args below meth c code ml ret y T h k j) {w : Fin 4} {v : Int64} {l' : Int64 → Array Slot} (hd : Dec code pc (.lstore_n w) 1 nx) (hl : ∀ z, storeLocals Ls w.val (.long z) = some (l' z)) (q : ∀ z, z = v → Wp n0 p e R s below Q T (mkF m nx (l' z) S)) : Wp n0 p e R s below Q T (mkF m pc Ls (.long v :: S)) := w_lstoreN X hd (hl v) (q v rfl)
theorem w_aload (X : Pos Z a0 n0 p l e R s m args below meth c code ml ret y T h k j) {w : Nat} {v : Value} (hd : Dec code pc (.aload w) 2 nx) (hl : Ls[w]? = some (.val v)) (hv : v.isRef = true) (q : Wp n0 p e R s below Q T (mkF m nx Ls (v :: S))) : Wp n0 p e R s below Q T (mkF m pc Ls S) := by
  obtain ⟨hx, hZ, hby, hml, hret, hown, hnm, hlk, eT, hn0, hw, locs, N, Y⟩ := X
  obtain ⟨hd, rfl⟩ := hd
  exact Wp.go (fun _ q => XS.aload Y.here hx rfl (hb hby hd) hl hv q) q
theorem w_astore (X : Pos Z a0 n0 p l e R s m args below meth c code ml ret y T h k j) {w : Nat} {v : Value} {l' : Array Slot} (hd : Dec code pc (.astore w) 2 nx) (hv : v.isRef = true) (hl : storeLocals Ls w v = some l') (q : Wp n0 p e R s below Q T (mkF m nx l' S)) : Wp n0 p e R s below Q T (mkF m pc Ls (v :: S)) := by
  obtain ⟨hx, hZ, hby, hml, hret, hown, hnm, hlk, eT, hn0, hw, locs, N, Y⟩ := X
  obtain ⟨hd, rfl⟩ := hd
  exact Wp.go (fun _ q => XS.astore Y.here hx rfl (hb hby hd) rfl hv hl q) q
theorem w_istore (X : Pos Z a0 n0 p l e R s m args below meth c code ml ret y T h k j) {w : Nat} {v : Int32} {l' : Array Slot} (hd : Dec code pc (.istore w) 2 nx) (hl : storeLocals Ls w (.int v) = some l') (q : Wp n0 p e R s below Q T (mkF m nx l' S)) : Wp n0 p e R s below Q T (mkF m pc Ls (.int v :: S)) := by
  obtain ⟨hx, hZ, hby, hml, hret, hown, hnm, hlk, eT, hn0, hw, locs, N, Y⟩ := X
  obtain ⟨hd, rfl⟩ := hd
  exact Wp.go (fun _ q => XS.istore Y.here hx rfl (hb hby hd) rfl hl q) q
theorem w_istoreE (X : Pos Z a0 n0 p l e R s m args below meth c code ml ret y T h k j) {w : Nat} {v : Int32} {l' : Int32 → Array Slot} (hd : Dec code pc (.istore w) 2 nx) (hl : ∀ z, storeLocals Ls w (.int z) = some (l' z)) (q : ∀ z, z = v → Wp n0 p e R s below Q T (mkF m nx (l' z) S)) : Wp n0 p e R s below Q T (mkF m pc Ls (.int v :: S)) := w_istore X hd (hl v) (q v rfl)
theorem w_lstore (X : Pos Z a0 n0 p l e R s m args below meth c code ml ret y T h k j) {w : Nat} {v : Int64} {l' : Array Slot} (hd : Dec code pc (.lstore w) 2 nx) (hl : storeLocals Ls w (.long v) = some l') (q : Wp n0 p e R s below Q T (mkF m nx l' S)) : Wp n0 p e R s below Q T (mkF m pc Ls (.long v :: S)) := by
  obtain ⟨hx, hZ, hby, hml, hret, hown, hnm, hlk, eT, hn0, hw, locs, N, Y⟩ := X
  obtain ⟨hd, rfl⟩ := hd
  exact Wp.go (fun _ q => XS.lstore Y.here hx rfl (hb hby hd) rfl hl q) q
theorem w_lstoreE (X : Pos Z a0 n0 p l e R s m args below meth c code ml ret y T h k j) {w : Nat} {v : Int64} {l' : Int64 → Array Slot} (hd : Dec code pc (.lstore w) 2 nx) (hl : ∀ z, storeLocals Ls w (.long z) = some (l' z)) (q : ∀ z, z = v → Wp n0 p e R s below Q T (mkF m nx (l' z) S)) : Wp n0 p e R s below Q T (mkF m pc Ls (.long v :: S)) := w_lstore X hd (hl v) (q v rfl)
theorem w_istoreNS (X : Pos Z a0 n0 p l e R s m args below meth c code ml ret y T h k j) {w : Fin 4} {v : Int32} {l' : Array Slot} {o : Slot} (hd : Dec code pc (.istore_n w) 1 nx) (hold : Ls[w.val]? = some o) (ho : One o) (hl : Ls.setIfInBounds w.val (.val (.int v)) = l') (q : Wp n0 p e R s below Q T (mkF m nx l' S)) : Wp n0 p e R s below Q T (mkF m pc Ls (.int v :: S)) := w_istoreN X hd ((XS.store1 hold ho rfl).trans (congrArg some hl)) q
theorem w_istoreS (X : Pos Z a0 n0 p l e R s m args below meth c code ml ret y T h k j) {w : Nat} {v : Int32} {l' : Array Slot} {o : Slot} (hd : Dec code pc (.istore w) 2 nx) (hold : Ls[w]? = some o) (ho : One o) (hl : Ls.setIfInBounds w (.val (.int v)) = l') (q : Wp n0 p e R s below Q T (mkF m nx l' S)) : Wp n0 p e R s below Q T (mkF m pc Ls (.int v :: S)) := w_istore X hd ((XS.store1 hold ho rfl).trans (congrArg some hl)) q
theorem w_iinc (X : Pos Z a0 n0 p l e R s m args below meth c code ml ret y T h k j) {w : Nat} {i : Int} {d v r : Int32} {l' : Array Slot} (hd : Dec code pc (.iinc w i) 3 nx) (hl : Ls[w]? = some (.val (.int v))) (hi : Int32.ofInt i = d) (hr : v + d = r) (hl' : storeLocals Ls w (.int r) = some l') (q : Wp n0 p e R s below Q T (mkF m nx l' S)) : Wp n0 p e R s below Q T (mkF m pc Ls S) := by
  obtain ⟨hx, hZ, hby, hml, hret, hown, hnm, hlk, eT, hn0, hw, locs, N, Y⟩ := X
  obtain ⟨hd, rfl⟩ := hd
  subst hi hr
  exact Wp.go (fun _ q => XS.iinc Y.here hx rfl (hb hby hd) hl hl' q) q
theorem w_dup (X : Pos Z a0 n0 p l e R s m args below meth c code ml ret y T h k j) {v : Value} (hd : Dec code pc .dup 1 nx) (hv : v.category = 1) (q : Wp n0 p e R s below Q T (mkF m nx Ls (v :: v :: S))) : Wp n0 p e R s below Q T (mkF m pc Ls (v :: S)) := by
  obtain ⟨hx, hZ, hby, hml, hret, hown, hnm, hlk, eT, hn0, hw, locs, N, Y⟩ := X
  obtain ⟨hd, rfl⟩ := hd
  exact Wp.go (fun _ q => XS.dup Y.here hx rfl (hb hby hd) rfl hv q) q
theorem w_pop (X : Pos Z a0 n0 p l e R s m args below meth c code ml ret y T h k j) {v : Value} (hd : Dec code pc .pop 1 nx) (hv : v.category = 1) (q : Wp n0 p e R s below Q T (mkF m nx Ls S)) : Wp n0 p e R s below Q T (mkF m pc Ls (v :: S)) := by
  obtain ⟨hx, hZ, hby, hml, hret, hown, hnm, hlk, eT, hn0, hw, locs, N, Y⟩ := X
  obtain ⟨hd, rfl⟩ := hd
  exact Wp.go (fun _ q => XS.pop Y.here hx rfl (hb hby hd) rfl hv q) q
theorem w_dupX1 (X : Pos Z a0 n0 p l e R s m args below meth c code ml ret y T h k j) {v w : Value} (hd : Dec code pc .dup_x1 1 nx) (hv : v.category = 1) (hw' : w.category = 1) (q : Wp n0 p e R s below Q T (mkF m nx Ls (v :: w :: v :: S))) : Wp n0 p e R s below Q T (mkF m pc Ls (v :: w :: S)) := by
  obtain ⟨hx, hZ, hby, hml, hret, hown, hnm, hlk, eT, hn0, hw, locs, N, Y⟩ := X
  obtain ⟨hd, rfl⟩ := hd
  exact Wp.go (fun _ q => XS.dupX1 Y.here hx rfl (hb hby hd) rfl hv hw' q) q
theorem w_dup2 (X : Pos Z a0 n0 p l e R s m args below meth c code ml ret y T h k j) {v w : Value} (hd : Dec code pc .dup2 1 nx) (hv : v.category = 1) (hw' : w.category = 1) (q : Wp n0 p e R s below Q T (mkF m nx Ls (v :: w :: v :: w :: S))) : Wp n0 p e R s below Q T (mkF m pc Ls (v :: w :: S)) := by
  obtain ⟨hx, hZ, hby, hml, hret, hown, hnm, hlk, eT, hn0, hw, locs, N, Y⟩ := X
  obtain ⟨hd, rfl⟩ := hd
  exact Wp.go (fun _ q => Jvm.Free.XT.dup2 Y.here hx rfl (hb hby hd) rfl hv hw' q) q
theorem w_goto (X : Pos Z a0 n0 p l e R s m args below meth c code ml ret y T h k j) {o : Int} (hd : Jmp code pc (.goto o) o nx tgt) (q : Wp n0 p e R s below Q T (mkF m tgt Ls S)) : Wp n0 p e R s below Q T (mkF m pc Ls S) := by
  obtain ⟨hx, hZ, hby, hml, hret, hown, hnm, hlk, eT, hn0, hw, locs, N, Y⟩ := X
  obtain ⟨hd, -, ho, hp⟩ := hd
  exact Wp.go (fun _ q => XS.goto Y.here hx rfl (pc0 := pc) (pc' := tgt) rfl (hb hby hd) ho hp q) q
theorem w_icmpeq (X : Pos Z a0 n0 p l e R s m args below meth c code ml ret y T h k j) {x z : Int32} {o : Int} (hd : Jmp code pc (.if_icmp .eq o) o nx tgt) (qt : x = z → Wp n0 p e R s below Q T (mkF m tgt Ls S)) (qf : ¬ x = z → Wp n0 p e R s below Q T (mkF m nx Ls S)) : Wp n0 p e R s below Q T (mkF m pc Ls (.int z :: .int x :: S)) := by
  obtain ⟨hx, hZ, hby, hml, hret, hown, hnm, hlk, eT, hn0, hw, locs, N, Y⟩ := X
  obtain ⟨hd, rfl, ho, hp⟩ := hd
  by_cases hc : x = z
  · exact Wp.go (fun _ q => XS.icmpYes Y.here hx rfl (pc0 := pc) (pc' := tgt) rfl (hb hby hd) rfl (Jvm.Free.XT.ii_eq_t hc) ho hp q) (qt hc)
  · exact Wp.go (fun _ q => XS.icmpNo Y.here hx rfl (hb hby hd) rfl (Jvm.Free.XT.ii_eq_f hc) q) (qf hc)
theorem w_ifeq (X : Pos Z a0 n0 p l e R s m args below meth c code ml ret y T h k j) {x : Int32} {o : Int} (hd : Jmp code pc (.ifCond .eq o) o nx tgt) (qt : x = 0 → Wp n0 p e R s below Q T (mkF m tgt Ls S)) (qf : ¬ x = 0 → Wp n0 p e R s below Q T (mkF m nx Ls S)) : Wp n0 p e R s below Q T (mkF m pc Ls (.int x :: S)) := by
  obtain ⟨hx, hZ, hby, hml, hret, hown, hnm, hlk, eT, hn0, hw, locs, N, Y⟩ := X
  obtain ⟨hd, rfl, ho, hp⟩ := hd
  by_cases hc : x = 0
  · exact Wp.go (fun _ q => XS.ifYes Y.here hx rfl (pc0 := pc) (pc' := tgt) rfl (hb hby hd) rfl (Jvm.Free.XT.i0_eq_t hc) ho hp q) (qt hc)
  · exact Wp.go (fun _ q => XS.ifNo Y.here hx rfl (hb hby hd) rfl (Jvm.Free.XT.i0_eq_f hc) q) (qf hc)
theorem w_lcmpeq (X : Pos Z a0 n0 p l e R s m args below meth c code ml ret y T h k j) {x z : Int64} {o : Int} {mid : Nat} (hd0 : Dec code pc .lcmp 1 mid) (hd : Jmp code mid (.ifCond .eq o) o nx tgt) (qt : x = z → Wp n0 p e R s below Q T (mkF m tgt Ls S)) (qf : ¬ x = z → Wp n0 p e R s below Q T (mkF m nx Ls S)) : Wp n0 p e R s below Q T (mkF m pc Ls (.long z :: .long x :: S)) := by
  obtain ⟨hx, hZ, hby, hml, hret, hown, hnm, hlk, eT, hn0, hw, locs, N, Y⟩ := X
  obtain ⟨hd0, rfl⟩ := hd0
  obtain ⟨hd, rfl, ho, hp⟩ := hd
  refine Wp.go (fun _ q => Jvm.Free.XT.lcmp Y.here hx rfl (hb hby hd0) rfl q) ?_
  by_cases hc : x = z
  · exact Wp.go (fun _ q => XS.ifYes Y.here hx rfl (pc0 := pc + 1) (pc' := tgt) rfl (hb hby hd) rfl (Jvm.Free.XT.ll_eq_t hc) ho hp q) (qt hc)
  · exact Wp.go (fun _ q => XS.ifNo Y.here hx rfl (hb hby hd) rfl (Jvm.Free.XT.ll_eq_f hc) q) (qf hc)
theorem w_icmpne (X : Pos Z a0 n0 p l e R s m args below meth c code ml ret y T h k j) {x z : Int32} {o : Int} (hd : Jmp code pc (.if_icmp .ne o) o nx tgt) (qt : ¬ x = z → Wp n0 p e R s below Q T (mkF m tgt Ls S)) (qf : x = z → Wp n0 p e R s below Q T (mkF m nx Ls S)) : Wp n0 p e R s below Q T (mkF m pc Ls (.int z :: .int x :: S)) := by
  obtain ⟨hx, hZ, hby, hml, hret, hown, hnm, hlk, eT, hn0, hw, locs, N, Y⟩ := X
  obtain ⟨hd, rfl, ho, hp⟩ := hd
  by_cases hc : x = z
  · exact Wp.go (fun _ q => XS.icmpNo Y.here hx rfl (hb hby hd) rfl (Jvm.Free.XT.ii_ne_f hc) q) (qf hc)
  · exact Wp.go (fun _ q => XS.icmpYes Y.here hx rfl (pc0 := pc) (pc' := tgt) rfl (hb hby hd) rfl (Jvm.Free.XT.ii_ne_t hc) ho hp q) (qt hc)
theorem w_ifne (X : Pos Z a0 n0 p l e R s m args below meth c code ml ret y T h k j) {x : Int32} {o : Int} (hd : Jmp code pc (.ifCond .ne o) o nx tgt) (qt : ¬ x = 0 → Wp n0 p e R s below Q T (mkF m tgt Ls S)) (qf : x = 0 → Wp n0 p e R s below Q T (mkF m nx Ls S)) : Wp n0 p e R s below Q T (mkF m pc Ls (.int x :: S)) := by
  obtain ⟨hx, hZ, hby, hml, hret, hown, hnm, hlk, eT, hn0, hw, locs, N, Y⟩ := X
  obtain ⟨hd, rfl, ho, hp⟩ := hd
  by_cases hc : x = 0
  · exact Wp.go (fun _ q => XS.ifNo Y.here hx rfl (hb hby hd) rfl (Jvm.Free.XT.i0_ne_f hc) q) (qf hc)
  · exact Wp.go (fun _ q => XS.ifYes Y.here hx rfl (pc0 := pc) (pc' := tgt) rfl (hb hby hd) rfl (Jvm.Free.XT.i0_ne_t hc) ho hp q) (qt hc)
theorem w_lcmpne (X : Pos Z a0 n0 p l e R s m args below meth c code ml ret y T h k j) {x z : Int64} {o : Int} {mid : Nat} (hd0 : Dec code pc .lcmp 1 mid) (hd : Jmp code mid (.ifCond .ne o) o nx tgt) (qt : ¬ x = z → Wp n0 p e R s below Q T (mkF m tgt Ls S)) (qf : x = z → Wp n0 p e R s below Q T (mkF m nx Ls S)) : Wp n0 p e R s below Q T (mkF m pc Ls (.long z :: .long x :: S)) := by
  obtain ⟨hx, hZ, hby, hml, hret, hown, hnm, hlk, eT, hn0, hw, locs, N, Y⟩ := X
  obtain ⟨hd0, rfl⟩ := hd0
  obtain ⟨hd, rfl, ho, hp⟩ := hd
  refine Wp.go (fun _ q => Jvm.Free.XT.lcmp Y.here hx rfl (hb hby hd0) rfl q) ?_
  by_cases hc : x = z
  · exact Wp.go (fun _ q => XS.ifNo Y.here hx rfl (hb hby hd) rfl (Jvm.Free.XT.ll_ne_f hc) q) (qf hc)
  · exact Wp.go (fun _ q => XS.ifYes Y.here hx rfl (pc0 := pc + 1) (pc' := tgt) rfl (hb hby hd) rfl (Jvm.Free.XT.ll_ne_t hc) ho hp q) (qt hc)
theorem w_icmplt (X : Pos Z a0 n0 p l e R s m args below meth c code ml ret y T h k j) {x z : Int32} {o : Int} (hd : Jmp code pc (.if_icmp .lt o) o nx tgt) (qt : x < z → Wp n0 p e R s below Q T (mkF m tgt Ls S)) (qf : ¬ x < z → Wp n0 p e R s below Q T (mkF m nx Ls S)) : Wp n0 p e R s below Q T (mkF m pc Ls (.int z :: .int x :: S)) := by
  obtain ⟨hx, hZ, hby, hml, hret, hown, hnm, hlk, eT, hn0, hw, locs, N, Y⟩ := X
  obtain ⟨hd, rfl, ho, hp⟩ := hd
  by_cases hc : x < z
  · exact Wp.go (fun _ q => XS.icmpYes Y.here hx rfl (pc0 := pc) (pc' := tgt) rfl (hb hby hd) rfl (Jvm.Free.XT.ii_lt_t hc) ho hp q) (qt hc)
  · exact Wp.go (fun _ q => XS.icmpNo Y.here hx rfl (hb hby hd) rfl (Jvm.Free.XT.ii_lt_f hc) q) (qf hc)
theorem w_iflt (X : Pos Z a0 n0 p l e R s m args below meth c code ml ret y T h k j) {x : Int32} {o : Int} (hd : Jmp code pc (.ifCond .lt o) o nx tgt) (qt : x < 0 → Wp n0 p e R s below Q T (mkF m tgt Ls S)) (qf : ¬ x < 0 → Wp n0 p e R s below Q T (mkF m nx Ls S)) : Wp n0 p e R s below Q T (mkF m pc Ls (.int x :: S)) := by
  obtain ⟨hx, hZ, hby, hml, hret, hown, hnm, hlk, eT, hn0, hw, locs, N, Y⟩ := X
  obtain ⟨hd, rfl, ho, hp⟩ := hd
  by_cases hc : x < 0
  · exact Wp.go (fun _ q => XS.ifYes Y.here hx rfl (pc0 := pc) (pc' := tgt) rfl (hb hby hd) rfl (Jvm.Free.XT.i0_lt_t hc) ho hp q) (qt hc)
  · exact Wp.go (fun _ q => XS.ifNo Y.here hx rfl (hb hby hd) rfl (Jvm.Free.XT.i0_lt_f hc) q) (qf hc)
theorem w_lcmplt (X : Pos Z a0 n0 p l e R s m args below meth c code ml ret y T h k j) {x z : Int64} {o : Int} {mid : Nat} (hd0 : Dec code pc .lcmp 1 mid) (hd : Jmp code mid (.ifCond .lt o) o nx tgt) (qt : x < z → Wp n0 p e R s below Q T (mkF m tgt Ls S)) (qf : ¬ x < z → Wp n0 p e R s below Q T (mkF m nx Ls S)) : Wp n0 p e R s below Q T (mkF m pc Ls (.long z :: .long x :: S)) := by
  obtain ⟨hx, hZ, hby, hml, hret, hown, hnm, hlk, eT, hn0, hw, locs, N, Y⟩ := X
  obtain ⟨hd0, rfl⟩ := hd0
  obtain ⟨hd, rfl, ho, hp⟩ := hd
  refine Wp.go (fun _ q => Jvm.Free.XT.lcmp Y.here hx rfl (hb hby hd0) rfl q) ?_
  by_cases hc : x < z
  · exact Wp.go (fun _ q => XS.ifYes Y.here hx rfl (pc0 := pc + 1) (pc' := tgt) rfl (hb hby hd) rfl (Jvm.Free.XT.ll_lt_t hc) ho hp q) (qt hc)
  · exact Wp.go (fun _ q => XS.ifNo Y.here hx rfl (hb hby hd) rfl (Jvm.Free.XT.ll_lt_f hc) q) (qf hc)
theorem w_icmpge (X : Pos Z a0 n0 p l e R s m args below meth c code ml ret y T h k j) {x z : Int32} {o : Int} (hd : Jmp code pc (.if_icmp .ge o) o nx tgt) (qt : ¬ x < z → Wp n0 p e R s below Q T (mkF m tgt Ls S)) (qf : x < z → Wp n0 p e R s below Q T (mkF m nx Ls S)) : Wp n0 p e R s below Q T (mkF m pc Ls (.int z :: .int x :: S)) := by
  obtain ⟨hx, hZ, hby, hml, hret, hown, hnm, hlk, eT, hn0, hw, locs, N, Y⟩ := X
  obtain ⟨hd, rfl, ho, hp⟩ := hd
  by_cases hc : x < z
  · exact Wp.go (fun _ q => XS.icmpNo Y.here hx rfl (hb hby hd) rfl (Jvm.Free.XT.ii_ge_f hc) q) (qf hc)
  · exact Wp.go (fun _ q => XS.icmpYes Y.here hx rfl (pc0 := pc) (pc' := tgt) rfl (hb hby hd) rfl (Jvm.Free.XT.ii_ge_t hc) ho hp q) (qt hc)
theorem w_ifge (X : Pos Z a0 n0 p l e R s m args below meth c code ml ret y T h k j) {x : Int32} {o : Int} (hd : Jmp code pc (.ifCond .ge o) o nx tgt) (qt : ¬ x < 0 → Wp n0 p e R s below Q T (mkF m tgt Ls S)) (qf : x < 0 → Wp n0 p e R s below Q T (mkF m nx Ls S)) : Wp n0 p e R s below Q T (mkF m pc Ls (.int x :: S)) := by
  obtain ⟨hx, hZ, hby, hml, hret, hown, hnm, hlk, eT, hn0, hw, locs, N, Y⟩ := X
  obtain ⟨hd, rfl, ho, hp⟩ := hd
  by_cases hc : x < 0
  · exact Wp.go (fun _ q => XS.ifNo Y.here hx rfl (hb hby hd) rfl (Jvm.Free.XT.i0_ge_f hc) q) (qf hc)
  · exact Wp.go (fun _ q => XS.ifYes Y.here hx rfl (pc0 := pc) (pc' := tgt) rfl (hb hby hd) rfl (Jvm.Free.XT.i0_ge_t hc) ho hp q) (qt hc)
theorem w_lcmpge (X : Pos Z a0 n0 p l e R s m args below meth c code ml ret y T h k j) {x z : Int64} {o : Int} {mid : Nat} (hd0 : Dec code pc .lcmp 1 mid) (hd : Jmp code mid (.ifCond .ge o) o nx tgt) (qt : ¬ x < z → Wp n0 p e R s below Q T (mkF m tgt Ls S)) (qf : x < z → Wp n0 p e R s below Q T (mkF m nx Ls S)) : Wp n0 p e R s below Q T (mkF m pc Ls (.long z :: .long x :: S)) := by
  obtain ⟨hx, hZ, hby, hml, hret, hown, hnm, hlk, eT, hn0, hw, locs, N, Y⟩ := X
  obtain ⟨hd0, rfl⟩ := hd0
  obtain ⟨hd, rfl, ho, hp⟩ := hd
  refine Wp.go (fun _ q => Jvm.Free.XT.lcmp Y.here hx rfl (hb hby hd0) rfl q) ?_
  by_cases hc : x < z
  · exact Wp.go (fun _ q => XS.ifNo Y.here hx rfl (hb hby hd) rfl (Jvm.Free.XT.ll_ge_f hc) q) (qf hc)
  · exact Wp.go (fun _ q => XS.ifYes Y.here hx rfl (pc0 := pc + 1) (pc' := tgt) rfl (hb hby hd) rfl (Jvm.Free.XT.ll_ge_t hc) ho hp q) (qt hc)
theorem w_icmpgt (X : Pos Z a0 n0 p l e R s m args below meth c code ml ret y T h k j) {x z : Int32} {o : Int} (hd : Jmp code pc (.if_icmp .gt o) o nx tgt) (qt : z < x → Wp n0 p e R s below Q T (mkF m tgt Ls S)) (qf : ¬ z < x → Wp n0 p e R s below Q T (mkF m nx Ls S)) : Wp n0 p e R s below Q T (mkF m pc Ls (.int z :: .int x :: S)) := by
  obtain ⟨hx, hZ, hby, hml, hret, hown, hnm, hlk, eT, hn0, hw, locs, N, Y⟩ := X
  obtain ⟨hd, rfl, ho, hp⟩ := hd
  by_cases hc : z < x
  · exact Wp.go (fun _ q => XS.icmpYes Y.here hx rfl (pc0 := pc) (pc' := tgt) rfl (hb hby hd) rfl (Jvm.Free.XT.ii_gt_t hc) ho hp q) (qt hc)
  · exact Wp.go (fun _ q => XS.icmpNo Y.here hx rfl (hb hby hd) rfl (Jvm.Free.XT.ii_gt_f hc) q) (qf hc)
theorem w_ifgt (X : Pos Z a0 n0 p l e R s m args below meth c code ml ret y T h k j) {x : Int32} {o : Int} (hd : Jmp code pc (.ifCond .gt o) o nx tgt) (qt : 0 < x → Wp n0 p e R s below Q T (mkF m tgt Ls S)) (qf : ¬ 0 < x → Wp n0 p e R s below Q T (mkF m nx Ls S)) : Wp n0 p e R s below Q T (mkF m pc Ls (.int x :: S)) := by
  obtain ⟨hx, hZ, hby, hml, hret, hown, hnm, hlk, eT, hn0, hw, locs, N, Y⟩ := X
  obtain ⟨hd, rfl, ho, hp⟩ := hd
  by_cases hc : 0 < x
  · exact Wp.go (fun _ q => XS.ifYes Y.here hx rfl (pc0 := pc) (pc' := tgt) rfl (hb hby hd) rfl (Jvm.Free.XT.i0_gt_t hc) ho hp q) (qt hc)
  · exact Wp.go (fun _ q => XS.ifNo Y.here hx rfl (hb hby hd) rfl (Jvm.Free.XT.i0_gt_f hc) q) (qf hc)
theorem w_lcmpgt (X : Pos Z a0 n0 p l e R s m args below meth c code ml ret y T h k j) {x z : Int64} {o : Int} {mid : Nat} (hd0 : Dec code pc .lcmp 1 mid) (hd : Jmp code mid (.ifCond .gt o) o nx tgt) (qt : z < x → Wp n0 p e R s below Q T (mkF m tgt Ls S)) (qf : ¬ z < x → Wp n0 p e R s below Q T (mkF m nx Ls S)) : Wp n0 p e R s below Q T (mkF m pc Ls (.long z :: .long x :: S)) := by
  obtain ⟨hx, hZ, hby, hml, hret, hown, hnm, hlk, eT, hn0, hw, locs, N, Y⟩ := X
  obtain ⟨hd0, rfl⟩ := hd0
  obtain ⟨hd, rfl, ho, hp⟩ := hd
  refine Wp.go (fun _ q => Jvm.Free.XT.lcmp Y.here hx rfl (hb hby hd0) rfl q) ?_
  by_cases hc : z < x
  · exact Wp.go (fun _ q => XS.ifYes Y.here hx rfl (pc0 := pc + 1) (pc' := tgt) rfl (hb hby hd) rfl (Jvm.Free.XT.ll_gt_t hc) ho hp q) (qt hc)
  · exact Wp.go (fun _ q => XS.ifNo Y.here hx rfl (hb hby hd) rfl (Jvm.Free.XT.ll_gt_f hc) q) (qf hc)
theorem w_icmple (X : Pos Z a0 n0 p l e R s m args below meth c code ml ret y T h k j) {x z : Int32} {o : Int} (hd : Jmp code pc (.if_icmp .le o) o nx tgt) (qt : ¬ z < x → Wp n0 p e R s below Q T (mkF m tgt Ls S)) (qf : z < x → Wp n0 p e R s below Q T (mkF m nx Ls S)) : Wp n0 p e R s below Q T (mkF m pc Ls (.int z :: .int x :: S)) := by
  obtain ⟨hx, hZ, hby, hml, hret, hown, hnm, hlk, eT, hn0, hw, locs, N, Y⟩ := X
  obtain ⟨hd, rfl, ho, hp⟩ := hd
  by_cases hc : z < x
  · exact Wp.go (fun _ q => XS.icmpNo Y.here hx rfl (hb hby hd) rfl (Jvm.Free.XT.ii_le_f hc) q) (qf hc)
  · exact Wp.go (fun _ q => XS.icmpYes Y.here hx rfl (pc0 := pc) (pc' := tgt) rfl (hb hby hd) rfl (Jvm.Free.XT.ii_le_t hc) ho hp q) (qt hc)
theorem w_ifle (X : Pos Z a0 n0 p l e R s m args below meth c code ml ret y T h k j) {x : Int32} {o : Int} (hd : Jmp code pc (.ifCond .le o) o nx tgt) (qt : ¬ 0 < x → Wp n0 p e R s below Q T (mkF m tgt Ls S)) (qf : 0 < x → Wp n0 p e R s below Q T (mkF m nx Ls S)) : Wp n0 p e R s below Q T (mkF m pc Ls (.int x :: S)) := by
  obtain ⟨hx, hZ, hby, hml, hret, hown, hnm, hlk, eT, hn0, hw, locs, N, Y⟩ := X
  obtain ⟨hd, rfl, ho, hp⟩ := hd
  by_cases hc : 0 < x
  · exact Wp.go (fun _ q => XS.ifNo Y.here hx rfl (hb hby hd) rfl (Jvm.Free.XT.i0_le_f hc) q) (qf hc)
  · exact Wp.go (fun _ q => XS.ifYes Y.here hx rfl (pc0 := pc) (pc' := tgt) rfl (hb hby hd) rfl (Jvm.Free.XT.i0_le_t hc) ho hp q) (qt hc)
theorem w_lcmple (X : Pos Z a0 n0 p l e R s m args below meth c code ml ret y T h k j) {x z : Int64} {o : Int} {mid : Nat} (hd0 : Dec code pc .lcmp 1 mid) (hd : Jmp code mid (.ifCond .le o) o nx tgt) (qt : ¬ z < x → Wp n0 p e R s below Q T (mkF m tgt Ls S)) (qf : z < x → Wp n0 p e R s below Q T (mkF m nx Ls S)) : Wp n0 p e R s below Q T (mkF m pc Ls (.long z :: .long x :: S)) := by
  obtain ⟨hx, hZ, hby, hml, hret, hown, hnm, hlk, eT, hn0, hw, locs, N, Y⟩ := X
  obtain ⟨hd0, rfl⟩ := hd0
  obtain ⟨hd, rfl, ho, hp⟩ := hd
  refine Wp.go (fun _ q => Jvm.Free.XT.lcmp Y.here hx rfl (hb hby hd0) rfl q) ?_
  by_cases hc : z < x
  · exact Wp.go (fun _ q => XS.ifNo Y.here hx rfl (hb hby hd) rfl (Jvm.Free.XT.ll_le_f hc) q) (qf hc)
  · exact Wp.go (fun _ q => XS.ifYes Y.here hx rfl (pc0 := pc + 1) (pc' := tgt) rfl (hb hby hd) rfl (Jvm.Free.XT.ll_le_t hc) ho hp q) (qt hc)
theorem w_ldc (X : Pos Z a0 n0 p l e R s m args below meth c code ml ret y T h k j) {i : Nat} {v : Int32} (hd : Dec code pc (.ldc i) 2 nx) (wc : (Jvm.Cond.constant y.cls i v).before a0 Z = true) (q : Wp n0 p e R s below Q T (mkF m nx Ls (.int v :: S))) : Wp n0 p e R s below Q T (mkF m pc Ls S) := by
  obtain ⟨hx, hZ, hby, hml, hret, hown, hnm, hlk, eT, hn0, hw, locs, N, Y⟩ := X
  obtain ⟨hd, rfl⟩ := hd
  exact Wp.go (Y.ldcInt hx hown (mvT hZ wc) rfl (hb hby hd)) q
theorem w_ldc2 (X : Pos Z a0 n0 p l e R s m args below meth c code ml ret y T h k j) {i : Nat} {v : Int64} (hd : Dec code pc (.ldc2_w i) 3 nx) (wc : (Jvm.Cond.constantLong y.cls i v).before a0 Z = true) (q : Wp n0 p e R s below Q T (mkF m nx Ls (.long v :: S))) : Wp n0 p e R s below Q T (mkF m pc Ls S) := by
  obtain ⟨hx, hZ, hby, hml, hret, hown, hnm, hlk, eT, hn0, hw, locs, N, Y⟩ := X
  obtain ⟨hd, rfl⟩ := hd
  exact Wp.go (Y.ldc2Long hx hown (mvT hZ wc) rfl (hb hby hd)) q
theorem w_ldcw (X : Pos Z a0 n0 p l e R s m args below meth c code ml ret y T h k j) {i : Nat} {v : Int32} (hd : Dec code pc (.ldc_w i) 3 nx) (wc : (Jvm.Cond.constant y.cls i v).before a0 Z = true) (q : Wp n0 p e R s below Q T (mkF m nx Ls (.int v :: S))) : Wp n0 p e R s below Q T (mkF m pc Ls S) := by
  obtain ⟨hx, hZ, hby, hml, hret, hown, hnm, hlk, eT, hn0, hw, locs, N, Y⟩ := X
  obtain ⟨hd, rfl⟩ := hd
  exact Wp.go (Y.ldcwInt hx hown (mvT hZ wc) rfl (hb hby hd)) q
theorem w_wiinc (X : Pos Z a0 n0 p l e R s m args below meth c code ml ret y T h k j) {w : Nat} {i : Int} {d v r : Int32} {l' : Array Slot} (hd : Dec code pc (.iinc w i) 6 nx) (hl : Ls[w]? = some (.val (.int v))) (hi : Int32.ofInt i = d) (hr : v + d = r) (hl' : storeLocals Ls w (.int r) = some l') (q : Wp n0 p e R s below Q T (mkF m nx l' S)) : Wp n0 p e R s below Q T (mkF m pc Ls S) := by
  obtain ⟨hx, hZ, hby, hml, hret, hown, hnm, hlk, eT, hn0, hw, locs, N, Y⟩ := X
  obtain ⟨hd, rfl⟩ := hd
  subst hi hr
  refine Wp.go (fun _ q => ?_) q
  have hd' := hb hby hd
  have h := Y.here
  jvm_step h [h.top, hx, hd', hl, hl']
  exact q
theorem w_ireturn (X : Pos Z a0 n0 p l e R s m args below meth c code ml (some .int) y T h k j) {z : Int32} (hd : Dec code pc .ireturn 1 nx) (hk : k ≤ R.cells) (hj : j ≤ R.slots) (hq : Q (some (.int z)) h) : Wp n0 p e R s below Q T (mkF m pc Ls (.int z :: S)) := by
  obtain ⟨hx, hZ, hby, hml, hret, hown, hnm, hlk, eT, hn0, hw, locs, N, Y⟩ := X
  obtain ⟨hd, -⟩ := hd
  obtain ⟨fs, hr, hrun, hended, hW, hsame⟩ := Y.leave (v := (some (.int z))) (fun h => by rw [hret] at h; cases h) hlk
  exact ⟨_, _, retI Y hx hret (hb hby hd) hr, hrun, hended, _, _, rfl, ⟨N, by show n0 ≤ T.heap.size; rw [eT]; exact hn0, by show Q _ T.heap; rw [eT]; exact hq⟩, ⟨_, rfl⟩, hW, hsame.mono hk hj⟩
theorem w_breturn (X : Pos Z a0 n0 p l e R s m args below meth c code ml (some .byte) y T h k j) {z : Int32} (hd : Dec code pc .ireturn 1 nx) (hk : k ≤ R.cells) (hj : j ≤ R.slots) (hq : Q (some (.int (nar .byte z))) h) : Wp n0 p e R s below Q T (mkF m pc Ls (.int z :: S)) := by
  obtain ⟨hx, hZ, hby, hml, hret, hown, hnm, hlk, eT, hn0, hw, locs, N, Y⟩ := X
  obtain ⟨hd, -⟩ := hd
  obtain ⟨fs, hr, hrun, hended, hW, hsame⟩ := Y.leave (v := (some (.int (nar .byte z)))) (fun h => by rw [hret] at h; cases h) hlk
  exact ⟨_, _, retN Y hx (t := .byte) hret (by simp) (hb hby hd) hr, hrun, hended, _, _, rfl, ⟨N, by show n0 ≤ T.heap.size; rw [eT]; exact hn0, by show Q _ T.heap; rw [eT]; exact hq⟩, ⟨_, rfl⟩, hW, hsame.mono hk hj⟩
theorem w_zreturn (X : Pos Z a0 n0 p l e R s m args below meth c code ml (some .boolean) y T h k j) {z : Int32} (hd : Dec code pc .ireturn 1 nx) (hk : k ≤ R.cells) (hj : j ≤ R.slots) (hq : Q (some (.int (nar .boolean z))) h) : Wp n0 p e R s below Q T (mkF m pc Ls (.int z :: S)) := by
  obtain ⟨hx, hZ, hby, hml, hret, hown, hnm, hlk, eT, hn0, hw, locs, N, Y⟩ := X
  obtain ⟨hd, -⟩ := hd
  obtain ⟨fs, hr, hrun, hended, hW, hsame⟩ := Y.leave (v := (some (.int (nar .boolean z)))) (fun h => by rw [hret] at h; cases h) hlk
  exact ⟨_, _, retN Y hx (t := .boolean) hret (by simp) (hb hby hd) hr, hrun, hended, _, _, rfl, ⟨N, by show n0 ≤ T.heap.size; rw [eT]; exact hn0, by show Q _ T.heap; rw [eT]; exact hq⟩, ⟨_, rfl⟩, hW, hsame.mono hk hj⟩
theorem w_lreturn (X : Pos Z a0 n0 p l e R s m args below meth c code ml (some .long) y T h k j) {z : Int64} (hd : Dec code pc .lreturn 1 nx) (hk : k ≤ R.cells) (hj : j ≤ R.slots) (hq : Q (some (.long z)) h) : Wp n0 p e R s below Q T (mkF m pc Ls [.long z]) := by
  obtain ⟨hx, hZ, hby, hml, hret, hown, hnm, hlk, eT, hn0, hw, locs, N, Y⟩ := X
  obtain ⟨hd, -⟩ := hd
  obtain ⟨fs, hr, hrun, hended, hW, hsame⟩ := Y.leave (v := (some (.long z))) (fun h => by rw [hret] at h; cases h) hlk
  exact ⟨_, _, Y.lreturnOut hx hret (hb hby hd) hr, hrun, hended, _, _, rfl, ⟨N, by show n0 ≤ T.heap.size; rw [eT]; exact hn0, by show Q _ T.heap; rw [eT]; exact hq⟩, ⟨_, rfl⟩, hW, hsame.mono hk hj⟩
theorem w_return (X : Pos Z a0 n0 p l e R s m args below meth c code ml none y T h k j)  (hd : Dec code pc .return_ 1 nx) (hk : k ≤ R.cells) (hj : j ≤ R.slots) (hq : Q none h) : Wp n0 p e R s below Q T (mkF m pc Ls []) := by
  obtain ⟨hx, hZ, hby, hml, hret, hown, hnm, hlk, eT, hn0, hw, locs, N, Y⟩ := X
  obtain ⟨hd, -⟩ := hd
  obtain ⟨fs, hr, hrun, hended, hW, hsame⟩ := Y.leave (v := none) (fun _ => rfl) hlk
  exact ⟨_, _, Y.returnOut hx hret (hb hby hd) hr, hrun, hended, _, _, rfl, ⟨N, by show n0 ≤ T.heap.size; rw [eT]; exact hn0, by show Q _ T.heap; rw [eT]; exact hq⟩, ⟨_, rfl⟩, hW, hsame.mono hk hj⟩
theorem w_arraylength (X : Pos Z a0 n0 p l e R s m args below meth c code ml ret y T h k j) {a : Addr} {ty : FieldType} {n : Nat} {g : Nat → Value} (hd : Dec code pc .arraylength 1 nx) (B : Ba Z n0 h a ty n g) (q : Wp n0 p e R s below Q T (mkF m nx Ls (.int (Int32.ofNat n) :: S))) : Wp n0 p e R s below Q T (mkF m pc Ls (.ref a :: S)) := by
  obtain ⟨hx, hZ, hby, hml, hret, hown, hnm, hlk, eT, hn0, hw, locs, N, Y⟩ := X
  obtain ⟨hd, rfl⟩ := hd
  obtain ⟨-, hn, cl, A, hs, -⟩ := B
  subst hs
  exact Wp.go (fun _ q => Y.arraylength hx (g := mkF m pc Ls (.ref a :: S)) (cell := cl) (by rw [eT]; exact A.1) (State.isArrayOf_alike hZ.alike A.2.1) rfl rfl (hb hby hd) _ q) q
theorem w_baload (X : Pos Z a0 n0 p l e R s m args below meth c code ml ret y T h k j) {a : Addr} {n : Nat} {b : Nat → Int32} {x : Int32} (hd : Dec code pc .baload 1 nx) (B : Ba Z n0 h a .byte n (bI b)) (i : Nat) (hi : x = Int32.ofNat i) (hlt : i < n) (q : Wp n0 p e R s below Q T (mkF m nx Ls (.int (b i) :: S))) : Wp n0 p e R s below Q T (mkF m pc Ls (.int x :: .ref a :: S)) := by
  obtain ⟨hx, hZ, hby, hml, hret, hown, hnm, hlk, eT, hn0, hw, locs, N, Y⟩ := X
  obtain ⟨hd, rfl⟩ := hd
  obtain ⟨-, hn, cl, A, hs, hv⟩ := B
  subst hi
  exact Wp.go (fun _ q => Y.baloadBytes hx (g := mkF m pc Ls (.int (Int32.ofNat i) :: .ref a :: S)) (j := Int32.ofNat i) (v := .int (b i)) (by rw [eT]; exact A.1) (State.isArrayOf_alike hZ.alike A.2.1) A.2.2 (inb hn hs hlt) (by rw [ofNat_clamp (by omega)]; exact hv i hlt) rfl rfl (hb hby hd) _ q) q
theorem w_iaload (X : Pos Z a0 n0 p l e R s m args below meth c code ml ret y T h k j) {a : Addr} {n : Nat} {b : Nat → Int32} {x : Int32} (hd : Dec code pc .iaload 1 nx) (B : Ba Z n0 h a .int n (bI b)) (i : Nat) (hi : x = Int32.ofNat i) (hlt : i < n) (q : Wp n0 p e R s below Q T (mkF m nx Ls (.int (b i) :: S))) : Wp n0 p e R s below Q T (mkF m pc Ls (.int x :: .ref a :: S)) := by
  obtain ⟨hx, hZ, hby, hml, hret, hown, hnm, hlk, eT, hn0, hw, locs, N, Y⟩ := X
  obtain ⟨hd, rfl⟩ := hd
  obtain ⟨-, hn, cl, A, hs, hv⟩ := B
  subst hi
  exact Wp.go (fun _ q => Y.iaload hx (g := mkF m pc Ls (.int (Int32.ofNat i) :: .ref a :: S)) (j := Int32.ofNat i) (v := .int (b i)) (by rw [eT]; exact A.1) (State.isArrayOf_alike hZ.alike A.2.1) A.2.2 (inb hn hs hlt) (by rw [ofNat_clamp (by omega)]; exact hv i hlt) rfl rfl (hb hby hd) _ q) q
theorem w_laload (X : Pos Z a0 n0 p l e R s m args below meth c code ml ret y T h k j) {a : Addr} {n : Nat} {b : Nat → Int64} {x : Int32} (hd : Dec code pc .laload 1 nx) (B : Ba Z n0 h a .long n (bJ b)) (i : Nat) (hi : x = Int32.ofNat i) (hlt : i < n) (q : Wp n0 p e R s below Q T (mkF m nx Ls (.long (b i) :: S))) : Wp n0 p e R s below Q T (mkF m pc Ls (.int x :: .ref a :: S)) := by
  obtain ⟨hx, hZ, hby, hml, hret, hown, hnm, hlk, eT, hn0, hw, locs, N, Y⟩ := X
  obtain ⟨hd, rfl⟩ := hd
  obtain ⟨-, hn, cl, A, hs, hv⟩ := B
  subst hi
  exact Wp.go (fun _ q => Y.laload hx (g := mkF m pc Ls (.int (Int32.ofNat i) :: .ref a :: S)) (j := Int32.ofNat i) (v := .long (b i)) (by rw [eT]; exact A.1) (State.isArrayOf_alike hZ.alike A.2.1) A.2.2 (inb hn hs hlt) (by rw [ofNat_clamp (by omega)]; exact hv i hlt) rfl rfl (hb hby hd) _ q) q
theorem w_bastore (X : Pos Z a0 n0 p l e R s m args below meth c code ml ret y T h k j) {a : Addr} {n : Nat} {b : Nat → Int32} {x : Int32} {v : Int32} (hd : Dec code pc .bastore 1 nx) (B : Ba Z n0 h a .byte n (bI b)) (i : Nat) (hi : x = Int32.ofNat i) (hlt : i < n)
    (q : ∀ T' h', Pos Z a0 n0 p l e R s m args below meth c code ml ret y T' h' k j → Keep h h' [a] → Ba Z n0 h' a .byte n (bI (upd b i (jbyte v))) → Wp n0 p e R s below Q T' (mkF m nx Ls S)) : Wp n0 p e R s below Q T (mkF m pc Ls (.int v :: .int x :: .ref a :: S)) := by
  obtain ⟨hx, hZ, hby, hml, hret, hown, hnm, hlk, eT, hn0, hw, locs, N, Y⟩ := X
  obtain ⟨hd, rfl⟩ := hd
  obtain ⟨hna, hn, cl, A, hs, hv⟩ := B
  subst hi
  obtain ⟨T', h', Y', e', W', st⟩ := stB Y hx hZ eT A (j := Int32.ofNat i) (inb hn hs hlt) (g := mkF m pc Ls (.int v :: .int (Int32.ofNat i) :: .ref a :: S)) rfl rfl (hb hby hd)
  refine Wp.go st (q T' h' ⟨hx, hZ, hby, hml, hret, hown, hnm, hlk, e', by rw [W'.size]; exact hn0, hw, _, Fr.snoc Y' N hna, Y'⟩ (Keep.of_wr W') ⟨hna, hn, _, A.same W', (sz_set _ _ _).trans hs, fun q hq => ?_⟩)
  rw [ofNat_clamp (by omega)]
  by_cases hqi : q = i
  · subst hqi
    simp [Cell.setSlot, hs, hq, upd, bI, nar]
  · simp [Cell.setSlot, upd, hqi, bI, Array.getElem?_setIfInBounds_ne (Ne.symm hqi), hv q hq]
theorem w_iastore (X : Pos Z a0 n0 p l e R s m args below meth c code ml ret y T h k j) {a : Addr} {n : Nat} {b : Nat → Int32} {x : Int32} {v : Int32} (hd : Dec code pc .iastore 1 nx) (B : Ba Z n0 h a .int n (bI b)) (i : Nat) (hi : x = Int32.ofNat i) (hlt : i < n)
    (q : ∀ T' h', Pos Z a0 n0 p l e R s m args below meth c code ml ret y T' h' k j → Keep h h' [a] → Ba Z n0 h' a .int n (bI (upd b i (v))) → Wp n0 p e R s below Q T' (mkF m nx Ls S)) : Wp n0 p e R s below Q T (mkF m pc Ls (.int v :: .int x :: .ref a :: S)) := by
  obtain ⟨hx, hZ, hby, hml, hret, hown, hnm, hlk, eT, hn0, hw, locs, N, Y⟩ := X
  obtain ⟨hd, rfl⟩ := hd
  obtain ⟨hna, hn, cl, A, hs, hv⟩ := B
  subst hi
  obtain ⟨T', h', Y', e', W', st⟩ := stI Y hx hZ eT A (j := Int32.ofNat i) (inb hn hs hlt) (g := mkF m pc Ls (.int v :: .int (Int32.ofNat i) :: .ref a :: S)) rfl rfl (hb hby hd)
  refine Wp.go st (q T' h' ⟨hx, hZ, hby, hml, hret, hown, hnm, hlk, e', by rw [W'.size]; exact hn0, hw, _, Fr.snoc Y' N hna, Y'⟩ (Keep.of_wr W') ⟨hna, hn, _, A.same W', (sz_set _ _ _).trans hs, fun q hq => ?_⟩)
  rw [ofNat_clamp (by omega)]
  by_cases hqi : q = i
  · subst hqi
    simp [Cell.setSlot, hs, hq, upd, bI]
  · simp [Cell.setSlot, upd, hqi, bI, Array.getElem?_setIfInBounds_ne (Ne.symm hqi), hv q hq]
theorem w_lastore (X : Pos Z a0 n0 p l e R s m args below meth c code ml ret y T h k j) {a : Addr} {n : Nat} {b : Nat → Int64} {x : Int32} {v : Int64} (hd : Dec code pc .lastore 1 nx) (B : Ba Z n0 h a .long n (bJ b)) (i : Nat) (hi : x = Int32.ofNat i) (hlt : i < n)
    (q : ∀ T' h', Pos Z a0 n0 p l e R s m args below meth c code ml ret y T' h' k j → Keep h h' [a] → Ba Z n0 h' a .long n (bJ (upd b i (v))) → Wp n0 p e R s below Q T' (mkF m nx Ls S)) : Wp n0 p e R s below Q T (mkF m pc Ls (.long v :: .int x :: .ref a :: S)) := by
  obtain ⟨hx, hZ, hby, hml, hret, hown, hnm, hlk, eT, hn0, hw, locs, N, Y⟩ := X
  obtain ⟨hd, rfl⟩ := hd
  obtain ⟨hna, hn, cl, A, hs, hv⟩ := B
  subst hi
  obtain ⟨T', h', Y', e', W', st⟩ := stJ Y hx hZ eT A (j := Int32.ofNat i) (inb hn hs hlt) (g := mkF m pc Ls (.long v :: .int (Int32.ofNat i) :: .ref a :: S)) rfl rfl (hb hby hd)
  refine Wp.go st (q T' h' ⟨hx, hZ, hby, hml, hret, hown, hnm, hlk, e', by rw [W'.size]; exact hn0, hw, _, Fr.snoc Y' N hna, Y'⟩ (Keep.of_wr W') ⟨hna, hn, _, A.same W', (sz_set _ _ _).trans hs, fun q hq => ?_⟩)
  rw [ofNat_clamp (by omega)]
  by_cases hqi : q = i
  · subst hqi
    simp [Cell.setSlot, hs, hq, upd, bJ]
  · simp [Cell.setSlot, upd, hqi, bJ, Array.getElem?_setIfInBounds_ne (Ne.symm hqi), hv q hq]
theorem w_newB (X : Pos Z a0 n0 p l e R s m args below meth c code ml ret y T h k j) {x : Int32} (hd : Dec code pc (.newarray .byte) 2 nx) (wa : (Jvm.Cond.arrayClass .byte).before a0 Z = true) (n cap : Nat) (hx' : x = Int32.ofNat n) (hcap : n ≤ cap) (hb' : cap * 8 ≤ 536870912) (hk : k + 1 ≤ R.cells) (hj : j + cap ≤ R.slots)
    (q : ∀ T' h' a, Pos Z a0 n0 p l e R s m args below meth c code ml ret y T' h' (k + 1) (j + cap) → a = h.size → Ext h h' → Ba Z n0 h' a .byte n (bI fun _ => 0) → Wp n0 p e R s below Q T' (mkF m nx Ls (.ref a :: S))) : Wp n0 p e R s below Q T (mkF m pc Ls (.int x :: S)) := by
  obtain ⟨hx, hZ, hby, hml, hret, hown, hnm, hlk, eT, hn0, hw, locs, N, Y⟩ := X
  obtain ⟨hd, rfl⟩ := hd
  subst hx'
  obtain ⟨T', h', cA, Y', e', E', A', st⟩ := newP Y hx hZ (aty := .byte) wa eT (g := mkF m pc Ls (.int (Int32.ofNat n) :: S)) rfl (hb hby hd) rfl (ofNat_nn (by omega)) (cap := cap) (by rw [ofNat_clamp (by omega)]; exact hcap) hb' hk hj
  refine Wp.go st (q T' h' _ ⟨hx, hZ, hby, hml, hret, hown, hnm, hlk, e', Nat.le_trans hn0 E'.1, hw, _, N, Y'⟩ rfl E' ⟨hn0, by omega, _, A', by rw [sz_new, ofNat_clamp (by omega)], fun i hi => ?_⟩)
  have := get_new (cA := cA) (ty := .byte) (n := Int32.ofNat n) (k := Int32.ofNat i) (by rw [ofNat_clamp (by omega), ofNat_clamp (by omega)]; exact fun q => q.elim (ofNat_nn (by omega)) (fun q => by omega))
  rw [ofNat_clamp (by omega)] at this
  exact this
theorem w_newI (X : Pos Z a0 n0 p l e R s m args below meth c code ml ret y T h k j) {x : Int32} (hd : Dec code pc (.newarray .int) 2 nx) (wa : (Jvm.Cond.arrayClass .int).before a0 Z = true) (n cap : Nat) (hx' : x = Int32.ofNat n) (hcap : n ≤ cap) (hb' : cap * 8 ≤ 536870912) (hk : k + 1 ≤ R.cells) (hj : j + cap ≤ R.slots)
    (q : ∀ T' h' a, Pos Z a0 n0 p l e R s m args below meth c code ml ret y T' h' (k + 1) (j + cap) → a = h.size → Ext h h' → Ba Z n0 h' a .int n (bI fun _ => 0) → Wp n0 p e R s below Q T' (mkF m nx Ls (.ref a :: S))) : Wp n0 p e R s below Q T (mkF m pc Ls (.int x :: S)) := by
  obtain ⟨hx, hZ, hby, hml, hret, hown, hnm, hlk, eT, hn0, hw, locs, N, Y⟩ := X
  obtain ⟨hd, rfl⟩ := hd
  subst hx'
  obtain ⟨T', h', cA, Y', e', E', A', st⟩ := newP Y hx hZ (aty := .int) wa eT (g := mkF m pc Ls (.int (Int32.ofNat n) :: S)) rfl (hb hby hd) rfl (ofNat_nn (by omega)) (cap := cap) (by rw [ofNat_clamp (by omega)]; exact hcap) hb' hk hj
  refine Wp.go st (q T' h' _ ⟨hx, hZ, hby, hml, hret, hown, hnm, hlk, e', Nat.le_trans hn0 E'.1, hw, _, N, Y'⟩ rfl E' ⟨hn0, by omega, _, A', by rw [sz_new, ofNat_clamp (by omega)], fun i hi => ?_⟩)
  have := get_new (cA := cA) (ty := .int) (n := Int32.ofNat n) (k := Int32.ofNat i) (by rw [ofNat_clamp (by omega), ofNat_clamp (by omega)]; exact fun q => q.elim (ofNat_nn (by omega)) (fun q => by omega))
  rw [ofNat_clamp (by omega)] at this
  exact this
theorem w_newJ (X : Pos Z a0 n0 p l e R s m args below meth c code ml ret y T h k j) {x : Int32} (hd : Dec code pc (.newarray .long) 2 nx) (wa : (Jvm.Cond.arrayClass .long).before a0 Z = true) (n cap : Nat) (hx' : x = Int32.ofNat n) (hcap : n ≤ cap) (hb' : cap * 8 ≤ 536870912) (hk : k + 1 ≤ R.cells) (hj : j + cap ≤ R.slots)
    (q : ∀ T' h' a, Pos Z a0 n0 p l e R s m args below meth c code ml ret y T' h' (k + 1) (j + cap) → a = h.size → Ext h h' → Ba Z n0 h' a .long n (bJ fun _ => 0) → Wp n0 p e R s below Q T' (mkF m nx Ls (.ref a :: S))) : Wp n0 p e R s below Q T (mkF m pc Ls (.int x :: S)) := by
  obtain ⟨hx, hZ, hby, hml, hret, hown, hnm, hlk, eT, hn0, hw, locs, N, Y⟩ := X
  obtain ⟨hd, rfl⟩ := hd
  subst hx'
  obtain ⟨T', h', cA, Y', e', E', A', st⟩ := newP Y hx hZ (aty := .long) wa eT (g := mkF m pc Ls (.int (Int32.ofNat n) :: S)) rfl (hb hby hd) rfl (ofNat_nn (by omega)) (cap := cap) (by rw [ofNat_clamp (by omega)]; exact hcap) hb' hk hj
  refine Wp.go st (q T' h' _ ⟨hx, hZ, hby, hml, hret, hown, hnm, hlk, e', Nat.le_trans hn0 E'.1, hw, _, N, Y'⟩ rfl E' ⟨hn0, by omega, _, A', by rw [sz_new, ofNat_clamp (by omega)], fun i hi => ?_⟩)
  have := get_new (cA := cA) (ty := .long) (n := Int32.ofNat n) (k := Int32.ofNat i) (by rw [ofNat_clamp (by omega), ofNat_clamp (by omega)]; exact fun q => q.elim (ofNat_nn (by omega)) (fun q => by omega))
  rw [ofNat_clamp (by omega)] at this
  exact this
theorem w_static (X : Pos Z a0 n0 p l e R s m args below meth c code ml ret y T h k j) {z : MethodName} {cz : ByteArray} {mz : Nat} {rz : Option FieldType} {rm : Room} {Qz : Option Value → Heap → Prop} {ps : List FieldType} {rr : Option FieldType} {i : Nat} {argsL : List Value} (hd : Dec code pc (.invokestatic i) 3 nx) (C : Ctr l Z n0 z cz mz rz rm [] argsL.toArray h Qz) (wl : (Jvm.Cond.methodLink y.cls i z).before a0 Z = true) (ws : (Jvm.Cond.static z).before a0 Z = true) (wi : (Jvm.Cond.initialized z.cls).before a0 Z = true) (wc : (Jvm.Cond.code z cz mz rz).before a0 Z = true)
    (hz : z.cls ≠ "java/lang/invoke/MethodHandle" ∧ z.cls ≠ "java/lang/invoke/VarHandle") (hpd : parseMethodDescriptor z.desc = some ⟨ps, rr⟩) (hlen : argsL.length = ps.length) {S0 : List Value} (hS : S0 = argsL.reverse ++ S) (hsz : Ls.size = ml)
    (hf : rm.frames + 1 ≤ R.frames) (hlo : (S.map fun v => v.category).sum + (mz + 11) + rm.locals ≤ R.locals) (hk : k + rm.cells ≤ R.cells) (hj : j + rm.slots ≤ R.slots)
    (q : ∀ v T' h', Pos Z a0 n0 p l e R s m args below meth c code ml ret y T' h' (k + rm.cells) (j + rm.slots) → Qz v h' → Wp n0 p e R s below Q T' (mkF m nx Ls (v.toList ++ S))) : Wp n0 p e R s below Q T (mkF m pc Ls S0) := by
  obtain ⟨hx, hZ, hby, hml, hret, hown, hnm, hlk, eT, hn0, hw, locs, N, Y⟩ := X
  obtain ⟨hd, rfl⟩ := hd
  obtain ⟨v, _, ⟨T', L', k', j'⟩, -, Y', ⟨Lc, hQ, l1, l2, l3⟩, st⟩ := Jvm.LawKit.callS Y hx (y := z) hown (mvT hZ wl) (mvT hZ ws) (mvT hZ wi) (mvT hZ wc) hz (backOf (W := (S.map fun v => v.category).sum) (Q := fun v h L => Fr n0 L ∧ n0 ≤ h.size ∧ Qz v h) C hZ wc wi hf hlo) (g := mkF m pc Ls S0) rfl (by rw [hml]; exact hsz) (argsL := argsL) (rest := S) (lenOf hpd hlen) hS (by show 2 * 0 + _ ≤ _; omega) (hb hby hd) (fun _ _ => ⟨rfl, eT, hk, hj⟩)
  dsimp only [Pt.U, Pt.locs, Pt.cells, Pt.slots] at Y' l1 l2 l3 st hQ
  subst l1 l2 l3
  obtain ⟨N', hn', hQ⟩ := hQ
  exact Wp.go st (q v T' _ ⟨hx, hZ, hby, hml, hret, hown, hnm, hlk, rfl, hn', hw, _, Fr.app N N', Y'⟩ hQ)
theorem w_virtual (X : Pos Z a0 n0 p l e R s m args below meth c code ml ret y T h k j) {z : MethodName} {cz : ByteArray} {mz : Nat} {rz : Option FieldType} {rm : Room} {Qz : Option Value → Heap → Prop} {ps : List FieldType} {rr : Option FieldType} {i : Nat} {argsL : List Value} {a : Addr} (hd : Dec code pc (.invokevirtual i) 3 nx) (C : Ctr l Z n0 z cz mz rz rm [] (.ref a :: argsL).toArray h Qz) (E : Exa Z h a z.cls) (wl : (Jvm.Cond.methodLink y.cls i z).before a0 Z = true) (wdc : (Jvm.Cond.declares z).before a0 Z = true) (wse : (Jvm.Cond.selects z.cls z z).before a0 Z = true) (wim : (Jvm.Cond.instanceMethod z).before a0 Z = true) (wi : (Jvm.Cond.initialized z.cls).before a0 Z = true) (wc : (Jvm.Cond.code z cz mz rz).before a0 Z = true)
    (hz : z.cls ≠ "java/lang/invoke/MethodHandle" ∧ z.cls ≠ "java/lang/invoke/VarHandle") (hpd : parseMethodDescriptor z.desc = some ⟨ps, rr⟩) (hlen : argsL.length = ps.length) {S0 : List Value} (hS : S0 = argsL.reverse ++ .ref a :: S) (hsz : Ls.size = ml)
    (hf : rm.frames + 1 ≤ R.frames) (hlo : (S.map fun v => v.category).sum + (mz + 11) + rm.locals ≤ R.locals) (hk : k + rm.cells ≤ R.cells) (hj : j + rm.slots ≤ R.slots)
    (q : ∀ v T' h', Pos Z a0 n0 p l e R s m args below meth c code ml ret y T' h' (k + rm.cells) (j + rm.slots) → Qz v h' → Wp n0 p e R s below Q T' (mkF m nx Ls (v.toList ++ S))) : Wp n0 p e R s below Q T (mkF m pc Ls S0) := by
  obtain ⟨hx, hZ, hby, hml, hret, hown, hnm, hlk, eT, hn0, hw, locs, N, Y⟩ := X
  obtain ⟨hd, rfl⟩ := hd
  obtain ⟨cq, kq, qa, qb, qc⟩ := isOf hZ eT E
  have Ctr' := backOf (l := l) (R := R) (p := p) (e := e) (below := below) (s := s) (args := args) (len := 3) (W := (S.map fun v => v.category).sum) (Q := fun v h L => Fr n0 L ∧ n0 ≤ h.size ∧ Qz v h) C hZ wc wi hf hlo
  obtain ⟨v, _, ⟨T', L', k', j'⟩, -, Y', ⟨Lc, hQ, l1, l2, l3⟩, st⟩ := Y.virtualBack hx (y := z) (z := z) hown (mvT hZ wl) (mvT hZ wdc) (notFace_of_selects (args := #[]) (mvT hZ wse)) (mvT hZ wse) (mvT hZ wim) hz Ctr' qa qc (g := mkF m pc Ls S0) rfl (by rw [hml]; exact hsz) (Steps.refl _) (argsL := argsL) (rest := S) (lenOf hpd hlen) hS (by show 2 * 0 + _ ≤ _; omega) (hb hby hd) (fun _ _ => ⟨rfl, eT, hk, hj⟩)
  dsimp only [Pt.U, Pt.locs, Pt.cells, Pt.slots] at Y' l1 l2 l3 st hQ
  subst l1 l2 l3
  obtain ⟨N', hn', hQ⟩ := hQ
  exact Wp.go (fun _ t => st.trans t) (q v T' _ ⟨hx, hZ, hby, hml, hret, hown, hnm, hlk, rfl, hn', hw, _, Fr.app N N', Y'⟩ hQ)
theorem w_special (X : Pos Z a0 n0 p l e R s m args below meth c code ml ret y T h k j) {z : MethodName} {cz : ByteArray} {mz : Nat} {rm : Room} {Qz : Option Value → Heap → Prop} {ps : List FieldType} {rr : Option FieldType} {i : Nat} {argsL : List Value} {a : Addr} (hd : Dec code pc (.invokespecial i) 3 nx) (C : Ctr l Z n0 z cz mz none rm [] (.ref a :: argsL).toArray h Qz) (hz1 : z.name = "<init>") (wl : (Jvm.Cond.methodLink y.cls i z).before a0 Z = true) (wim : (Jvm.Cond.instanceMethod z).before a0 Z = true) (wi : (Jvm.Cond.initialized z.cls).before a0 Z = true) (wc : (Jvm.Cond.code z cz mz none).before a0 Z = true)
    (hz : z.cls ≠ "java/lang/invoke/MethodHandle" ∧ z.cls ≠ "java/lang/invoke/VarHandle") (hpd : parseMethodDescriptor z.desc = some ⟨ps, rr⟩) (hlen : argsL.length = ps.length) {S0 : List Value} (hS : S0 = argsL.reverse ++ .ref a :: S) (hsz : Ls.size = ml)
    (hf : rm.frames + 1 ≤ R.frames) (hlo : (S.map fun v => v.category).sum + (mz + 11) + rm.locals ≤ R.locals) (hk : k + rm.cells ≤ R.cells) (hj : j + rm.slots ≤ R.slots)
    (q : ∀ v T' h', Pos Z a0 n0 p l e R s m args below meth c code ml ret y T' h' (k + rm.cells) (j + rm.slots) → Qz v h' → Wp n0 p e R s below Q T' (mkF m nx Ls (v.toList ++ S))) : Wp n0 p e R s below Q T (mkF m pc Ls S0) := by
  obtain ⟨hx, hZ, hby, hml, hret, hown, hnm, hlk, eT, hn0, hw, locs, N, Y⟩ := X
  obtain ⟨hd, rfl⟩ := hd
  have Ctr' := backOf (l := l) (R := R) (p := p) (e := e) (below := below) (s := s) (args := args) (len := 3) (W := (S.map fun v => v.category).sum) (Q := fun v h L => Fr n0 L ∧ n0 ≤ h.size ∧ Qz v h) C hZ wc wi hf hlo
  obtain ⟨v, _, ⟨T', L', k', j'⟩, -, Y', ⟨Lc, hQ, l1, l2, l3⟩, st⟩ := Y.specialBack hx (y := z) hz1 hown (mvT hZ wl) (mvT hZ wim) (mvT hZ wc) hz Ctr' (g := mkF m pc Ls S0) rfl (by rw [hml]; exact hsz) (Steps.refl _) (a := a) (argsL := argsL) (rest := S) (lenOf hpd hlen) hS (by show 2 * 0 + _ ≤ _; omega) (hb hby hd) (fun _ _ => ⟨rfl, eT, hk, hj⟩)
  dsimp only [Pt.U, Pt.locs, Pt.cells, Pt.slots] at Y' l1 l2 l3 st hQ
  subst l1 l2 l3
  obtain ⟨N', hn', hQ⟩ := hQ
  exact Wp.go (fun _ t => st.trans t) (q v T' _ ⟨hx, hZ, hby, hml, hret, hown, hnm, hlk, rfl, hn', hw, _, Fr.app N N', Y'⟩ hQ)
theorem w_new (X : Pos Z a0 n0 p l e R s m args below meth c code ml ret y T h k j) {i n : Nat} {C : String} (hd : Dec code pc (.new i) 3 nx) (w : (Jvm.Cond.classLink y.cls i C).before a0 Z = true) (wi : (Jvm.Cond.instantiable C n).before a0 Z = true) (wz : (Jvm.Cond.initialized C).before a0 Z = true) (hk : k + 1 ≤ R.cells) (hj : j + n ≤ R.slots)
    (q : ∀ T' h' a, Pos Z a0 n0 p l e R s m args below meth c code ml ret y T' h' (k + 1) (j + n) → a = h.size → n0 ≤ a → Ext h h' → Exa Z h' a C → (∀ {O nm d : String} {ty : FieldType}, Laid Z a0 C O nm d → parseFieldDescriptor d = some ty → Fld Z h' a O nm d (defaultValue ty)) → Wp n0 p e R s below Q T' (mkF m nx Ls (.ref a :: S))) : Wp n0 p e R s below Q T (mkF m pc Ls S) := by
  obtain ⟨hx, hZ, hby, hml, hret, hown, hnm, hlk, eT, hn0, hw, locs, N, Y⟩ := X
  obtain ⟨hd, rfl⟩ := hd
  obtain ⟨T', h', Y', e', E', A', D', -, st⟩ := newO Y hx hZ hown w wi wz eT (g := mkF m pc Ls S) rfl (hb hby hd) hk hj
  exact Wp.go st (q T' h' _ ⟨hx, hZ, hby, hml, hret, hown, hnm, hlk, e', Nat.le_trans hn0 E'.1, hw, _, N, Y'⟩ rfl hn0 E' A' D')
theorem w_getF (X : Pos Z a0 n0 p l e R s m args below meth c code ml ret y T h k j) {i : Nat} {O nm d : String} {a : Addr} {v : Value} (hd : Dec code pc (.getfield i) 3 nx) (w : (Jvm.Cond.fieldLink y.cls i O nm d).before a0 Z = true) (F : Fld Z h a O nm d v)
    (q : ∀ T', Pos Z a0 n0 p l e R s m args below meth c code ml ret y T' h k j → Wp n0 p e R s below Q T' (mkF m nx Ls (v :: S))) : Wp n0 p e R s below Q T (mkF m pc Ls (.ref a :: S)) := by
  obtain ⟨hx, hZ, hby, hml, hret, hown, hnm, hlk, eT, hn0, hw, locs, N, Y⟩ := X
  obtain ⟨hd, rfl⟩ := hd
  obtain ⟨T', Y', e', st⟩ := getF Y hx hZ hown (host := "") (Or.inl w) Via.refl eT F (g := mkF m pc Ls (.ref a :: S)) rfl rfl (hb hby hd)
  exact Wp.go st (q T' ⟨hx, hZ, hby, hml, hret, hown, hnm, hlk, e', hn0, hw, _, N, Y'⟩)
theorem w_putF (X : Pos Z a0 n0 p l e R s m args below meth c code ml ret y T h k j) {i kk : Nat} {C O nm d : String} {ty : FieldType} {a : Addr} {v old : Value} (hd : Dec code pc (.putfield i) 3 nx) (w : (Jvm.Cond.fieldLink y.cls i O nm d).before a0 Z = true) (F : Fld Z h a O nm d old) (E : Exa Z h a C) (hna : n0 ≤ a) (L : (Jvm.Cond.lays C O nm d).before a0 Z = true ∨ ((Jvm.Cond.laysFinal C O nm d).before a0 Z = true ∧ y.cls = O ∧ y.name = "<init>")) (wi : (Jvm.Cond.instantiable C kk).before a0 Z = true) (hty : parseFieldDescriptor d = some ty) (hn : narrow ty v = v) (hf : fits ty v = true)
    (q : ∀ T' h', Pos Z a0 n0 p l e R s m args below meth c code ml ret y T' h' k j → Wr h h' a (Jvm.RoadKit.slotOf Z O nm d) v → Wp n0 p e R s below Q T' (mkF m nx Ls S)) : Wp n0 p e R s below Q T (mkF m pc Ls (v :: .ref a :: S)) := by
  obtain ⟨hx, hZ, hby, hml, hret, hown, hnm, hlk, eT, hn0, hw, locs, N, Y⟩ := X
  obtain ⟨hd, rfl⟩ := hd
  obtain ⟨T', h', Y', e', W', st⟩ := putF Y hx hZ hown (host := "") (Or.inl w) Via.refl eT F E (L.imp id fun q => ⟨q.1, q.2.1, hnm.trans q.2.2⟩) wi hty hn hf (g := mkF m pc Ls (v :: .ref a :: S)) rfl rfl (hb hby hd)
  exact Wp.go st (q T' h' ⟨hx, hZ, hby, hml, hret, hown, hnm, hlk, e', by rw [W'.size]; exact hn0, hw, _, Fr.snoc Y' N hna, Y'⟩ W')
end OwnKit
section OwnInit
variable {Z : State} {a0 : Array Value} {n0 : Nat} {p : Program} {l : Launch} {e : Env} {R : Room} {s : State} {m : MethodId} {args : Array Value} {below : List Frame} {meth : Method} {c : Code} {code : ByteArray} {ml : Nat} {ret : Option FieldType} {y : MethodName} {T : State} {h h' : Heap} {k j : Nat} {Q : Option Value → Heap → Prop} {pc nx tgt : Nat} {Ls : Array Slot} {S : List Value}
theorem w_initO (X : Pos Z a0 n0 p l e R s m args below meth c code ml ret y T h k j) {i : Nat} {a : Addr} (hd : Dec code pc (.invokespecial i) 3 nx) (w1 : (Jvm.Cond.methodLink y.cls i Lib.objectInit).before a0 Z = true) (w2 : (Jvm.Cond.instanceMethod Lib.objectInit).before a0 Z = true) (w3 : (Jvm.Cond.code Lib.objectInit object_method_1_code 1 none).before a0 Z = true) (hsz : Ls.size = ml) (hf : 1 ≤ R.frames) (hlo : (S.map fun v => v.category).sum + 12 ≤ R.locals)
    (q : ∀ T', Pos Z a0 n0 p l e R s m args below meth c code ml ret y T' h k j → Wp n0 p e R s below Q T' (mkF m nx Ls S)) : Wp n0 p e R s below Q T (mkF m pc Ls (.ref a :: S)) := by
  obtain ⟨hx, hZ, hby, hml, hret, hown, hnm, hlk, eT, hn0, hw, locs, N, Y⟩ := X
  obtain ⟨hd, rfl⟩ := hd
  obtain ⟨T', Y', e', st⟩ := initO Y hx hZ hown w1 w2 w3 eT (g := mkF m pc Ls (.ref a :: S)) rfl (by rw [hml]; exact hsz) rfl (hb hby hd) hf (W := (S.map fun v => v.category).sum) (by show 2 * 0 + _ ≤ _; omega) hlo
  exact Wp.go st (q T' ⟨hx, hZ, hby, hml, hret, hown, hnm, hlk, e', hn0, hw, _, N, Y'⟩)
end OwnInit
theorem D0_0 : Dec code 0 (.iload_n 0) 1 1 := ⟨at_0, rfl⟩
theorem D0_1 : Dec code 1 (.sipush 255) 3 4 := ⟨at_1, rfl⟩
theorem D0_4 : Dec code 4 .iand 1 5 := ⟨at_4, rfl⟩
theorem D0_5 : Dec code 5 (.istore 5) 2 7 := ⟨at_5, rfl⟩
theorem D0_7 : Dec code 7 (.iload_n 1) 1 8 := ⟨at_7, rfl⟩
theorem D0_8 : Dec code 8 (.sipush 255) 3 11 := ⟨at_8, rfl⟩
theorem D0_11 : Dec code 11 .iand 1 12 := ⟨at_11, rfl⟩
theorem D0_12 : Dec code 12 (.istore 6) 2 14 := ⟨at_12, rfl⟩
theorem D0_14 : Dec code 14 (.bipush 17) 2 16 := ⟨at_14, rfl⟩
theorem D0_16 : Dec code 16 (.iload_n 3) 1 17 := ⟨at_16, rfl⟩
theorem D0_17 : Dec code 17 (.ldc 7) 2 19 := ⟨at_17, rfl⟩
theorem D0_19 : Dec code 19 .iand 1 20 := ⟨at_19, rfl⟩
theorem D0_20 : Dec code 20 (.bipush 8) 2 22 := ⟨at_20, rfl⟩
theorem D0_22 : Dec code 22 .irem 1 23 := ⟨at_22, rfl⟩
theorem D0_23 : Dec code 23 .iadd 1 24 := ⟨at_23, rfl⟩
theorem D0_24 : Dec code 24 (.istore 7) 2 26 := ⟨at_24, rfl⟩
theorem D0_26 : Dec code 26 (.bipush 24) 2 28 := ⟨at_26, rfl⟩
theorem D0_28 : Dec code 28 (.iload 7) 2 30 := ⟨at_28, rfl⟩
theorem D0_30 : Dec code 30 .isub 1 31 := ⟨at_30, rfl⟩
theorem D0_31 : Dec code 31 (.istore 8) 2 33 := ⟨at_31, rfl⟩
theorem D0_33 : Dec code 33 (.iload_n 2) 1 34 := ⟨at_33, rfl⟩
theorem D0_34 : Dec code 34 (.sipush 255) 3 37 := ⟨at_34, rfl⟩
theorem D0_37 : Dec code 37 .iand 1 38 := ⟨at_37, rfl⟩
theorem D0_38 : Dec code 38 (.iconst 1) 1 39 := ⟨at_38, rfl⟩
theorem D0_39 : Dec code 39 (.iload 8) 2 41 := ⟨at_39, rfl⟩
theorem D0_41 : Dec code 41 .ishl 1 42 := ⟨at_41, rfl⟩
theorem D0_42 : Dec code 42 (.iconst 1) 1 43 := ⟨at_42, rfl⟩
theorem D0_43 : Dec code 43 .isub 1 44 := ⟨at_43, rfl⟩
theorem D0_44 : Dec code 44 (.iconst (-1)) 1 45 := ⟨at_44, rfl⟩
theorem D0_45 : Dec code 45 .ixor 1 46 := ⟨at_45, rfl⟩
theorem D0_46 : Dec code 46 .iand 1 47 := ⟨at_46, rfl⟩
theorem D0_47 : Dec code 47 (.istore 9) 2 49 := ⟨at_47, rfl⟩
theorem D0_49 : Dec code 49 (.iconst 3) 1 50 := ⟨at_49, rfl⟩
theorem D0_50 : Dec code 50 (.newarray .byte) 2 52 := ⟨at_50, rfl⟩
theorem D0_52 : Dec code 52 (.astore 10) 2 54 := ⟨at_52, rfl⟩
theorem D0_54 : Dec code 54 (.aload 10) 2 56 := ⟨at_54, rfl⟩
theorem D0_56 : Dec code 56 (.iconst 0) 1 57 := ⟨at_56, rfl⟩
theorem D0_57 : Dec code 57 (.iload 5) 2 59 := ⟨at_57, rfl⟩
theorem D0_59 : Dec code 59 .i2b 1 60 := ⟨at_59, rfl⟩
theorem D0_60 : Dec code 60 .bastore 1 61 := ⟨at_60, rfl⟩
theorem D0_61 : Dec code 61 (.aload 10) 2 63 := ⟨at_61, rfl⟩
theorem D0_63 : Dec code 63 (.iconst 1) 1 64 := ⟨at_63, rfl⟩
theorem D0_64 : Dec code 64 (.iload 6) 2 66 := ⟨at_64, rfl⟩
theorem D0_66 : Dec code 66 .i2b 1 67 := ⟨at_66, rfl⟩
theorem D0_67 : Dec code 67 .bastore 1 68 := ⟨at_67, rfl⟩
theorem D0_68 : Dec code 68 (.aload 10) 2 70 := ⟨at_68, rfl⟩
theorem D0_70 : Dec code 70 (.iconst 2) 1 71 := ⟨at_70, rfl⟩
theorem D0_71 : Dec code 71 (.iload 9) 2 73 := ⟨at_71, rfl⟩
theorem D0_73 : Dec code 73 .i2b 1 74 := ⟨at_73, rfl⟩
theorem D0_74 : Dec code 74 .bastore 1 75 := ⟨at_74, rfl⟩
theorem D0_75 : Dec code 75 (.new 8) 3 78 := ⟨at_75, rfl⟩
theorem D0_78 : Dec code 78 .dup 1 79 := ⟨at_78, rfl⟩
theorem D0_79 : Dec code 79 (.aload 10) 2 81 := ⟨at_79, rfl⟩
theorem D0_81 : Dec code 81 (.iload 7) 2 83 := ⟨at_81, rfl⟩
theorem D0_83 : Dec code 83 (.invokespecial 10) 3 86 := ⟨at_83, rfl⟩
theorem D0_86 : Dec code 86 (.astore 11) 2 88 := ⟨at_86, rfl⟩
theorem D0_88 : Dec code 88 (.iload 4) 2 90 := ⟨at_88, rfl⟩
theorem D0_90 : Dec code 90 (.ldc 7) 2 92 := ⟨at_90, rfl⟩
theorem D0_92 : Dec code 92 .iand 1 93 := ⟨at_92, rfl⟩
theorem D0_93 : Dec code 93 (.iload 7) 2 95 := ⟨at_93, rfl⟩
theorem D0_95 : Dec code 95 .irem 1 96 := ⟨at_95, rfl⟩
theorem D0_96 : Dec code 96 (.istore 12) 2 98 := ⟨at_96, rfl⟩
theorem D0_98 : Dec code 98 (.iload 5) 2 100 := ⟨at_98, rfl⟩
theorem D0_100 : Dec code 100 (.bipush 16) 2 102 := ⟨at_100, rfl⟩
theorem D0_102 : Dec code 102 .ishl 1 103 := ⟨at_102, rfl⟩
theorem D0_103 : Dec code 103 (.iload 6) 2 105 := ⟨at_103, rfl⟩
theorem D0_105 : Dec code 105 (.bipush 8) 2 107 := ⟨at_105, rfl⟩
theorem D0_107 : Dec code 107 .ishl 1 108 := ⟨at_107, rfl⟩
theorem D0_108 : Dec code 108 .ior 1 109 := ⟨at_108, rfl⟩
theorem D0_109 : Dec code 109 (.iload 9) 2 111 := ⟨at_109, rfl⟩
theorem D0_111 : Dec code 111 .ior 1 112 := ⟨at_111, rfl⟩
theorem D0_112 : Dec code 112 (.istore 13) 2 114 := ⟨at_112, rfl⟩
theorem D0_114 : Dec code 114 (.iload 13) 2 116 := ⟨at_114, rfl⟩
theorem D0_116 : Dec code 116 (.bipush 23) 2 118 := ⟨at_116, rfl⟩
theorem D0_118 : Dec code 118 (.iload 12) 2 120 := ⟨at_118, rfl⟩
theorem D0_120 : Dec code 120 .isub 1 121 := ⟨at_120, rfl⟩
theorem D0_121 : Dec code 121 .iushr 1 122 := ⟨at_121, rfl⟩
theorem D0_122 : Dec code 122 (.iconst 1) 1 123 := ⟨at_122, rfl⟩
theorem D0_123 : Dec code 123 .iand 1 124 := ⟨at_123, rfl⟩
theorem D0_124 : Jmp code 124 (.ifCond .eq 7) 7 127 131 := ⟨at_124, rfl, by decide, by decide⟩
theorem D0_127 : Dec code 127 (.iconst 1) 1 128 := ⟨at_127, rfl⟩
theorem D0_128 : Jmp code 128 (.goto 4) 4 131 132 := ⟨at_128, rfl, by decide, by decide⟩
theorem D0_131 : Dec code 131 (.iconst 0) 1 132 := ⟨at_131, rfl⟩
theorem D0_132 : Dec code 132 (.istore 14) 2 134 := ⟨at_132, rfl⟩
theorem D0_134 : Dec code 134 (.aload 11) 2 136 := ⟨at_134, rfl⟩
theorem D0_136 : Dec code 136 (.iload 12) 2 138 := ⟨at_136, rfl⟩
theorem D0_138 : Dec code 138 (.invokevirtual 13) 3 141 := ⟨at_138, rfl⟩
theorem D0_141 : Dec code 141 (.iload 14) 2 143 := ⟨at_141, rfl⟩
theorem D0_143 : Jmp code 143 (.if_icmp .ne 7) 7 146 150 := ⟨at_143, rfl, by decide, by decide⟩
theorem D0_146 : Dec code 146 (.iconst 1) 1 147 := ⟨at_146, rfl⟩
theorem D0_147 : Jmp code 147 (.goto 4) 4 150 151 := ⟨at_147, rfl, by decide, by decide⟩
theorem D0_151 : Dec code 151 .ireturn 1 152 := ⟨at_151, rfl⟩
theorem D1_0 : Dec prog_150_method_1_code 0 (.aload_n 0) 1 1 := ⟨by decide +kernel, rfl⟩
theorem D1_1 : Dec prog_150_method_1_code 1 (.invokespecial 1) 3 4 := ⟨by decide +kernel, rfl⟩
theorem D1_4 : Dec prog_150_method_1_code 4 (.iload_n 2) 1 5 := ⟨by decide +kernel, rfl⟩
theorem D1_5 : Jmp prog_150_method_1_code 5 (.ifCond .ge 17) 17 8 22 := ⟨by decide +kernel, rfl, by decide, by decide⟩
theorem D1_22 : Dec prog_150_method_1_code 22 (.aload_n 1) 1 23 := ⟨by decide +kernel, rfl⟩
theorem D1_23 : Dec prog_150_method_1_code 23 .arraylength 1 24 := ⟨by decide +kernel, rfl⟩
theorem D1_24 : Dec prog_150_method_1_code 24 (.iload_n 2) 1 25 := ⟨by decide +kernel, rfl⟩
theorem D1_25 : Dec prog_150_method_1_code 25 (.invokestatic 16) 3 28 := ⟨by decide +kernel, rfl⟩
theorem D1_28 : Jmp prog_150_method_1_code 28 (.if_icmp .eq 23) 23 31 51 := ⟨by decide +kernel, rfl, by decide, by decide⟩
theorem D1_51 : Dec prog_150_method_1_code 51 (.aload_n 1) 1 52 := ⟨by decide +kernel, rfl⟩
theorem D1_52 : Dec prog_150_method_1_code 52 (.invokevirtual 25) 3 55 := ⟨by decide +kernel, rfl⟩
theorem D1_55 : Dec prog_150_method_1_code 55 (.checkcast 26) 3 58 := ⟨by decide +kernel, rfl⟩
theorem D1_58 : Dec prog_150_method_1_code 58 (.astore_n 1) 1 59 := ⟨by decide +kernel, rfl⟩
theorem D1_59 : Dec prog_150_method_1_code 59 (.bipush 8) 2 61 := ⟨by decide +kernel, rfl⟩
theorem D1_61 : Dec prog_150_method_1_code 61 (.aload_n 1) 1 62 := ⟨by decide +kernel, rfl⟩
theorem D1_62 : Dec prog_150_method_1_code 62 .arraylength 1 63 := ⟨by decide +kernel, rfl⟩
theorem D1_63 : Dec prog_150_method_1_code 63 .imul 1 64 := ⟨by decide +kernel, rfl⟩
theorem D1_64 : Dec prog_150_method_1_code 64 (.iload_n 2) 1 65 := ⟨by decide +kernel, rfl⟩
theorem D1_65 : Dec prog_150_method_1_code 65 .isub 1 66 := ⟨by decide +kernel, rfl⟩
theorem D1_66 : Dec prog_150_method_1_code 66 (.istore_n 3) 1 67 := ⟨by decide +kernel, rfl⟩
theorem D1_67 : Dec prog_150_method_1_code 67 (.iload_n 3) 1 68 := ⟨by decide +kernel, rfl⟩
theorem D1_68 : Jmp prog_150_method_1_code 68 (.ifCond .le 28) 28 71 96 := ⟨by decide +kernel, rfl, by decide, by decide⟩
theorem D1_71 : Dec prog_150_method_1_code 71 (.aload_n 1) 1 72 := ⟨by decide +kernel, rfl⟩
theorem D1_72 : Dec prog_150_method_1_code 72 (.aload_n 1) 1 73 := ⟨by decide +kernel, rfl⟩
theorem D1_73 : Dec prog_150_method_1_code 73 .arraylength 1 74 := ⟨by decide +kernel, rfl⟩
theorem D1_74 : Dec prog_150_method_1_code 74 (.iconst 1) 1 75 := ⟨by decide +kernel, rfl⟩
theorem D1_75 : Dec prog_150_method_1_code 75 .isub 1 76 := ⟨by decide +kernel, rfl⟩
theorem D1_76 : Dec prog_150_method_1_code 76 .baload 1 77 := ⟨by decide +kernel, rfl⟩
theorem D1_77 : Dec prog_150_method_1_code 77 (.iconst 1) 1 78 := ⟨by decide +kernel, rfl⟩
theorem D1_78 : Dec prog_150_method_1_code 78 (.iload_n 3) 1 79 := ⟨by decide +kernel, rfl⟩
theorem D1_79 : Dec prog_150_method_1_code 79 .ishl 1 80 := ⟨by decide +kernel, rfl⟩
theorem D1_80 : Dec prog_150_method_1_code 80 (.iconst 1) 1 81 := ⟨by decide +kernel, rfl⟩
theorem D1_81 : Dec prog_150_method_1_code 81 .isub 1 82 := ⟨by decide +kernel, rfl⟩
theorem D1_82 : Dec prog_150_method_1_code 82 .iand 1 83 := ⟨by decide +kernel, rfl⟩
theorem D1_83 : Jmp prog_150_method_1_code 83 (.ifCond .eq 13) 13 86 96 := ⟨by decide +kernel, rfl, by decide, by decide⟩
theorem D1_96 : Dec prog_150_method_1_code 96 (.aload_n 0) 1 97 := ⟨by decide +kernel, rfl⟩
theorem D1_97 : Dec prog_150_method_1_code 97 (.aload_n 1) 1 98 := ⟨by decide +kernel, rfl⟩
theorem D1_98 : Dec prog_150_method_1_code 98 (.putfield 33) 3 101 := ⟨by decide +kernel, rfl⟩
theorem D1_101 : Dec prog_150_method_1_code 101 (.aload_n 0) 1 102 := ⟨by decide +kernel, rfl⟩
theorem D1_102 : Dec prog_150_method_1_code 102 (.iload_n 2) 1 103 := ⟨by decide +kernel, rfl⟩
theorem D1_103 : Dec prog_150_method_1_code 103 (.putfield 36) 3 106 := ⟨by decide +kernel, rfl⟩
theorem D1_106 : Dec prog_150_method_1_code 106 .return_ 1 107 := ⟨by decide +kernel, rfl⟩
theorem D2_0 : Dec jdk_30_method_1_code 0 (.aload_n 0) 1 1 := ⟨by decide +kernel, rfl⟩
theorem D2_1 : Dec jdk_30_method_1_code 1 (.invokespecial 1) 3 4 := ⟨by decide +kernel, rfl⟩
theorem D2_4 : Dec jdk_30_method_1_code 4 .return_ 1 5 := ⟨by decide +kernel, rfl⟩
theorem D4_0 : Dec prog_150_method_2_code 0 (.iload_n 0) 1 1 := ⟨by decide +kernel, rfl⟩
theorem D4_1 : Dec prog_150_method_2_code 1 (.bipush 8) 2 3 := ⟨by decide +kernel, rfl⟩
theorem D4_3 : Dec prog_150_method_2_code 3 .idiv 1 4 := ⟨by decide +kernel, rfl⟩
theorem D4_4 : Dec prog_150_method_2_code 4 (.iload_n 0) 1 5 := ⟨by decide +kernel, rfl⟩
theorem D4_5 : Dec prog_150_method_2_code 5 (.bipush 8) 2 7 := ⟨by decide +kernel, rfl⟩
theorem D4_7 : Dec prog_150_method_2_code 7 .irem 1 8 := ⟨by decide +kernel, rfl⟩
theorem D4_8 : Jmp prog_150_method_2_code 8 (.ifCond .ne 7) 7 11 15 := ⟨by decide +kernel, rfl, by decide, by decide⟩
theorem D4_11 : Dec prog_150_method_2_code 11 (.iconst 0) 1 12 := ⟨by decide +kernel, rfl⟩
theorem D4_12 : Jmp prog_150_method_2_code 12 (.goto 4) 4 15 16 := ⟨by decide +kernel, rfl, by decide, by decide⟩
theorem D4_15 : Dec prog_150_method_2_code 15 (.iconst 1) 1 16 := ⟨by decide +kernel, rfl⟩
theorem D4_16 : Dec prog_150_method_2_code 16 .iadd 1 17 := ⟨by decide +kernel, rfl⟩
theorem D4_17 : Dec prog_150_method_2_code 17 .ireturn 1 18 := ⟨by decide +kernel, rfl⟩
theorem D5_0 : Dec prog_150_method_4_code 0 (.aload_n 0) 1 1 := ⟨by decide +kernel, rfl⟩
theorem D5_1 : Dec prog_150_method_4_code 1 (.getfield 33) 3 4 := ⟨by decide +kernel, rfl⟩
theorem D5_4 : Dec prog_150_method_4_code 4 (.iload_n 1) 1 5 := ⟨by decide +kernel, rfl⟩
theorem D5_5 : Dec prog_150_method_4_code 5 (.bipush 8) 2 7 := ⟨by decide +kernel, rfl⟩
theorem D5_7 : Dec prog_150_method_4_code 7 .idiv 1 8 := ⟨by decide +kernel, rfl⟩
theorem D5_8 : Dec prog_150_method_4_code 8 .baload 1 9 := ⟨by decide +kernel, rfl⟩
theorem D5_9 : Dec prog_150_method_4_code 9 (.sipush 128) 3 12 := ⟨by decide +kernel, rfl⟩
theorem D5_12 : Dec prog_150_method_4_code 12 (.iload_n 1) 1 13 := ⟨by decide +kernel, rfl⟩
theorem D5_13 : Dec prog_150_method_4_code 13 (.bipush 8) 2 15 := ⟨by decide +kernel, rfl⟩
theorem D5_15 : Dec prog_150_method_4_code 15 .irem 1 16 := ⟨by decide +kernel, rfl⟩
theorem D5_16 : Dec prog_150_method_4_code 16 .iushr 1 17 := ⟨by decide +kernel, rfl⟩
theorem D5_17 : Dec prog_150_method_4_code 17 .iand 1 18 := ⟨by decide +kernel, rfl⟩
theorem D5_18 : Jmp prog_150_method_4_code 18 (.ifCond .eq 7) 7 21 25 := ⟨by decide +kernel, rfl, by decide, by decide⟩
theorem D5_21 : Dec prog_150_method_4_code 21 (.iconst 1) 1 22 := ⟨by decide +kernel, rfl⟩
theorem D5_22 : Jmp prog_150_method_4_code 22 (.goto 4) 4 25 26 := ⟨by decide +kernel, rfl, by decide, by decide⟩
theorem D5_25 : Dec prog_150_method_4_code 25 (.iconst 0) 1 26 := ⟨by decide +kernel, rfl⟩
theorem D5_26 : Dec prog_150_method_4_code 26 .ireturn 1 27 := ⟨by decide +kernel, rfl⟩
theorem pd_0 : parseMethodDescriptor "()V" = some ⟨[], none⟩ := by decide +kernel
theorem pd_1 : parseMethodDescriptor "(I)I" = some ⟨[.int], some .int⟩ := by decide +kernel
theorem pd_2 : parseMethodDescriptor "([BI)V" = some ⟨[(.array .byte), .int], none⟩ := by decide +kernel
theorem pd_3 : parseMethodDescriptor "(I)Z" = some ⟨[.int], some .boolean⟩ := by decide +kernel
section OwnMore
variable {Z : State} {a0 : Array Value} {n0 : Nat} {p : Program} {l : Launch} {e : Env} {R : Room} {s : State} {m : MethodId} {args : Array Value} {below : List Frame} {meth : Method} {c : Code} {code : ByteArray} {ml : Nat} {ret : Option FieldType} {y : MethodName} {T : State} {h h' : Heap} {k j : Nat} {Q : Option Value → Heap → Prop} {pc nx tgt : Nat} {Ls : Array Slot} {S : List Value}

theorem w_newBE (X : Pos Z a0 n0 p l e R s m args below meth c code ml ret y T h k j) {x : Int32} (hd : Dec code pc (.newarray .byte) 2 nx) (wa : (Jvm.Cond.arrayClass .byte).before a0 Z = true) (n cap : Nat) (hx' : x = Int32.ofNat n) (hcap : n ≤ cap) (hb' : cap * 8 ≤ 536870912) (hk : k + 1 ≤ R.cells) (hj : j + cap ≤ R.slots)
    (q : ∀ T' h' a, Pos Z a0 n0 p l e R s m args below meth c code ml ret y T' h' (k + 1) (j + cap) → a = h.size → Ext h h' → Ba Z n0 h' a .byte n (bI fun _ => 0) → Exa Z h' a "[B" → Wp n0 p e R s below Q T' (mkF m nx Ls (.ref a :: S))) : Wp n0 p e R s below Q T (mkF m pc Ls (.int x :: S)) := by
  obtain ⟨hx, hZ, hby, hml, hret, hown, hnm, hlk, eT, hn0, hw, locs, N, Y⟩ := X
  obtain ⟨hd, rfl⟩ := hd
  subst hx'
  obtain ⟨T', h', cA, Y', e', E', A', F', st⟩ := newPE Y hx hZ (aty := .byte) wa eT (g := mkF m pc Ls (.int (Int32.ofNat n) :: S)) rfl (hb hby hd) rfl (ofNat_nn (by omega)) (cap := cap) (by rw [ofNat_clamp (by omega)]; exact hcap) hb' hk hj (ad := "[B") (by decide)
  refine Wp.go st (q T' h' _ ⟨hx, hZ, hby, hml, hret, hown, hnm, hlk, e', Nat.le_trans hn0 E'.1, hw, _, N, Y'⟩ rfl E' ⟨hn0, by omega, _, A', by rw [sz_new, ofNat_clamp (by omega)], fun i hi => ?_⟩ F')
  have := get_new (cA := cA) (ty := .byte) (n := Int32.ofNat n) (k := Int32.ofNat i) (by rw [ofNat_clamp (by omega), ofNat_clamp (by omega)]; exact fun q => q.elim (ofNat_nn (by omega)) (fun q => by omega))
  rw [ofNat_clamp (by omega)] at this
  exact this
theorem w_clone (X : Pos Z a0 n0 p l e R s m args below meth c code ml ret y T h k j) {i n : Nat} {a : Addr} {b : Nat → Int32} (hd : Dec code pc (.invokevirtual i) 3 nx) (w1 : (Jvm.Cond.methodLink y.cls i ⟨"[B", "clone", "()Ljava/lang/Object;"⟩).before a0 Z = true) (w2 : (Jvm.Cond.sameMethod "[B" "java/lang/Object" "clone" "()Ljava/lang/Object;").before a0 Z = true) (w3 : (Jvm.Cond.native ⟨"java/lang/Object", "clone", "()Ljava/lang/Object;"⟩).before a0 Z = true)
    (w4 : (Jvm.Cond.instanceMethod ⟨"java/lang/Object", "clone", "()Ljava/lang/Object;"⟩).before a0 Z = true) (w5 : (Jvm.Cond.selects "[B" ⟨"[B", "clone", "()Ljava/lang/Object;"⟩ ⟨"java/lang/Object", "clone", "()Ljava/lang/Object;"⟩).before a0 Z = true) (w6 : (Jvm.Cond.castable "[B" "java/lang/Cloneable").before a0 Z = true)
    (B : Ba Z n0 h a .byte n (bI b)) (E : Exa Z h a "[B") (hfit : ∀ i, i < n → fits .byte (.int (b i)) = true) (hsz : Ls.size = ml) (hf : 1 ≤ R.frames) (hlo : (S.map fun v => v.category).sum + 14 ≤ R.locals) (hk : k + 1 ≤ R.cells) (hj : j + n ≤ R.slots)
    (q : ∀ T' h' a', Pos Z a0 n0 p l e R s m args below meth c code ml ret y T' h' (k + 1) (j + n) → Ext h h' → Ba Z n0 h' a' .byte n (bI b) → Exa Z h' a' "[B" → Wp n0 p e R s below Q T' (mkF m nx Ls (.ref a' :: S))) : Wp n0 p e R s below Q T (mkF m pc Ls (.ref a :: S)) := by
  obtain ⟨hx, hZ, hby, hml, hret, hown, hnm, hlk, eT, hn0, hw, locs, N, Y⟩ := X
  obtain ⟨hd, rfl⟩ := hd
  obtain ⟨hna, hn, cl, A, hs, hv⟩ := B
  have FC : FitC Z cl := fitC_of A fun i hi v hv' => by rw [hs] at hi; rw [hv i hi] at hv'; cases hv'; exact hfit i hi
  obtain ⟨T', h', Y', e', E', A', F', st⟩ := cloneA Y hx hZ hown w1 w2 w3 w4 w5 w6 eT A E FC (g := mkF m pc Ls (.ref a :: S)) rfl (by rw [hml]; exact hsz) rfl (hb hby hd) hf (W := (S.map fun v => v.category).sum) (cap := n) (by show 2 * 0 + _ ≤ _; omega) hlo (by rw [hs]; exact Nat.le_refl _) hk hj
  exact Wp.go st (q T' h' _ ⟨hx, hZ, hby, hml, hret, hown, hnm, hlk, e', Nat.le_trans hn0 E'.1, hw, _, N, Y'⟩ E' ⟨hn0, hn, _, A', hs, hv⟩ F')
theorem w_cast (X : Pos Z a0 n0 p l e R s m args below meth c code ml ret y T h k j) {i : Nat} {a : Addr} {K : String} (hd : Dec code pc (.checkcast i) 3 nx) (w : (Jvm.Cond.classLink y.cls i K).before a0 Z = true) (E : Exa Z h a K)
    (q : ∀ T', Pos Z a0 n0 p l e R s m args below meth c code ml ret y T' h k j → Wp n0 p e R s below Q T' (mkF m nx Ls (.ref a :: S))) : Wp n0 p e R s below Q T (mkF m pc Ls (.ref a :: S)) := by
  obtain ⟨hx, hZ, hby, hml, hret, hown, hnm, hlk, eT, hn0, hw, locs, N, Y⟩ := X
  obtain ⟨hd, rfl⟩ := hd
  obtain ⟨T', Y', e', st⟩ := castY Y hx hZ hown w eT (Ins.self E) (g := mkF m pc Ls (.ref a :: S)) rfl rfl (hb hby hd)
  exact Wp.go st (q T' ⟨hx, hZ, hby, hml, hret, hown, hnm, hlk, e', hn0, hw, _, N, Y'⟩)
end OwnMore
-- CUT
section OwnNums
theorem n_bv (a : Nat) : (Int32.ofNat a).toBitVec = BitVec.ofNat 32 a := rfl
theorem eq_mod {x y : Int32} (h : (x.toInt - y.toInt) % 4294967296 = 0) : x = y := Int32.toInt_inj.mp (by have := rng32 x; have := rng32 y; omega)
theorem eq_modL {x y : Int64} (h : (x.toInt - y.toInt) % 18446744073709551616 = 0) : x = y := Int64.toInt_inj.mp (by have := rng64 x; have := rng64 y; omega)
theorem n_add (a b : Nat) : Int32.ofNat a + Int32.ofNat b = Int32.ofNat (a + b) := (Int32.ofNat_add a b).symm
theorem n_mul (a b : Nat) : Int32.ofNat a * Int32.ofNat b = Int32.ofNat (a * b) := (Int32.ofNat_mul a b).symm
theorem n_sub {a b : Nat} (h : b ≤ a) : Int32.ofNat a - Int32.ofNat b = Int32.ofNat (a - b) := by
  have := n_add (a - b) b
  rw [Nat.sub_add_cancel h] at this
  rw [← this, Int32.add_sub_cancel]
theorem n_and (a b : Nat) : Int32.ofNat a &&& Int32.ofNat b = Int32.ofNat (a &&& b) := by
  apply Int32.toBitVec_inj.mp
  rw [Int32.toBitVec_and, n_bv, n_bv, n_bv]
  exact BitVec.ofNat_and.symm
theorem n_or (a b : Nat) : Int32.ofNat a ||| Int32.ofNat b = Int32.ofNat (a ||| b) := by
  apply Int32.toBitVec_inj.mp
  rw [Int32.toBitVec_or, n_bv, n_bv, n_bv]
  exact BitVec.ofNat_or.symm
theorem n_q {k : Nat} (hk : k < 32) : (Int32.ofNat k).toBitVec.toNat % 32 = k := by
  rw [n_bv, BitVec.toNat_ofNat]; omega
theorem n_q64 {k : Nat} (hk : k < 64) : (Int32.ofNat k).toBitVec.toNat % 64 = k := by
  rw [n_bv, BitVec.toNat_ofNat]; omega
theorem toInt_mod (a : Nat) : ((Int32.ofNat a).toInt - a) % 4294967296 = 0 := by
  have h := bm32 (((BitVec.ofNat 32 a).toNat : Nat) : Int)
  rw [show (Int32.ofNat a).toInt = (BitVec.ofNat 32 a).toInt from rfl, BitVec.toInt_eq_toNat_bmod]
  rw [BitVec.toNat_ofNat] at *
  generalize Int.bmod ((a % 2 ^ 32 : Nat) : Int) (2 ^ 32) = w1 at *
  omega
theorem n_inj {a b : Nat} (ha : a < 2147483648) (hb : b < 2147483648) : Int32.ofNat a = Int32.ofNat b ↔ a = b := ⟨fun h => by have := congrArg Int32.toInt h; rw [ofNat_toInt ha, ofNat_toInt hb] at this; omega, fun h => by rw [h]⟩
theorem n_shl (a : Nat) {k : Nat} (hk : k < 32) : jshl (Int32.ofNat a) (Int32.ofNat k) = Int32.ofNat (a * 2 ^ k) := by
  apply eq_mod
  have h1 : ((jshl (Int32.ofNat a) (Int32.ofNat k)).toInt - (Int32.ofNat a).toInt * ((2 ^ k : Nat) : Int)) % 4294967296 = 0 := c_ishl (Int32.ofNat a) (Int32.ofNat k) k (n_q hk)
  generalize (jshl (Int32.ofNat a) (Int32.ofNat k)).toInt = w1 at *
  have h2 := toInt_mod (a * 2 ^ k)
  have h3 := toInt_mod a
  obtain ⟨q, hq⟩ := Int.dvd_of_emod_eq_zero h3
  have h4 : (Int32.ofNat a).toInt * ((2 ^ k : Nat) : Int) - ((a * 2 ^ k : Nat) : Int) = 4294967296 * (q * ((2 ^ k : Nat) : Int)) := by
    rw [Int.natCast_mul, ← Int.sub_mul, hq, Int.mul_assoc]
  omega
theorem n_ushr0 (x : Int32) : jushr x 0 = x := by
  apply Int32.toBitVec_inj.mp
  simp [jushr]
theorem n_ushr {a k : Nat} (ha : a < 2147483648) (hk : k < 32) : jushr (Int32.ofNat a) (Int32.ofNat k) = Int32.ofNat (a / 2 ^ k) := by
  rcases Nat.eq_zero_or_pos k with rfl | h0
  · rw [Nat.pow_zero, Nat.div_one]; exact n_ushr0 _
  · have hd : a / 2 ^ k ≤ a := Nat.div_le_self _ _
    refine eq_ofNat (by omega) ?_
    rw [c_iushr (Int32.ofNat a) (Int32.ofNat k) k (n_q hk) h0, ofNat_toInt ha, show ((a : Int) % 4294967296) = a by omega]
    exact (Int.natCast_ediv _ _).symm
theorem n_shr {a k : Nat} (ha : a < 2147483648) (hk : k < 32) : jshr (Int32.ofNat a) (Int32.ofNat k) = Int32.ofNat (a / 2 ^ k) := by
  have hd : a / 2 ^ k ≤ a := Nat.div_le_self _ _
  refine eq_ofNat (by omega) ?_
  rw [c_ishr (Int32.ofNat a) (Int32.ofNat k) k (n_q hk), ofNat_toInt ha]
  exact (Int.natCast_ediv _ _).symm
theorem n_low (a k : Nat) : Int32.ofNat a &&& Int32.ofNat (2 ^ k - 1) = Int32.ofNat (a % 2 ^ k) := by rw [n_and, Nat.and_two_pow_sub_one_eq_mod]
theorem n_orlow (a : Nat) {i t : Nat} (ht : t < 2 ^ i) : Int32.ofNat (2 ^ i * a) ||| Int32.ofNat t = Int32.ofNat (2 ^ i * a + t) := by rw [n_or, Nat.two_pow_add_eq_or_of_lt ht]
theorem n_rem {a k : Nat} (ha : a < 2147483648) (h1 : 0 < k) (hk : k < 2147483648) : Int32.ofNat a % Int32.ofNat k = Int32.ofNat (a % k) := by
  have hm := Nat.mod_lt a h1
  refine eq_ofNat (by omega) ?_
  rw [(c_irem (Int32.ofNat a) (Int32.ofNat k) k (ofNat_toInt hk)).1 (by rw [ofNat_toInt ha]; omega), ofNat_toInt ha]
  exact (Int.natCast_emod _ _).symm
theorem n_nn (x : Int32) (h : 0 ≤ x.toInt) : ∃ u : Nat, u < 2147483648 ∧ x = Int32.ofNat u := by
  have := rng32 x
  exact ⟨x.toInt.toNat, by omega, eq_ofNat (by omega) (by omega)⟩
theorem n_mask31 (x : Int32) : ∃ u : Nat, u < 2147483648 ∧ x &&& 2147483647 = Int32.ofNat u := n_nn _ (c_and x 2147483647 (by decide)).1
theorem n_mask (x : Int32) (k : Nat) (hk : k ≤ 31) {m : Int32} (hm : m.toBitVec.toNat = 2 ^ k - 1) : x &&& m = Int32.ofNat ((x.toInt % (2 ^ k : Nat)).toNat) := by
  have h1 : (0 : Int) < ((2 ^ k : Nat) : Int) := by
    have := Nat.two_pow_pos k
    omega
  have h2 : ((2 ^ k : Nat) : Int) ≤ 2147483648 := by
    have : 2 ^ k ≤ 2147483648 := Nat.pow_le_pow_right (n := 2) (by decide) hk
    omega
  have h3 := Int.emod_nonneg x.toInt (Int.ne_of_gt h1)
  have h4 := Int.emod_lt_of_pos x.toInt h1
  exact eq_ofNat (by omega) (by rw [c_mask x m k hk hm]; omega)
theorem jbyte_idem (x : Int32) : jbyte (jbyte x) = jbyte x := by
  have h1 := c_i2b x
  have h2 := c_i2b (jbyte x)
  exact Int32.toInt_inj.mp (by simp only [jbyte] at *; omega)
theorem jbyte_and (x : Int32) (k : Nat) (hk : k ≤ 8) {m : Int32} (hm : m.toBitVec.toNat = 2 ^ k - 1) : jbyte x &&& m = x &&& m := by
  have h1 := (c_i2b x).1
  apply Int32.toInt_inj.mp
  rw [c_mask _ m k (by omega) hm, c_mask _ m k (by omega) hm]
  have : ∃ c : Nat, 256 = 2 ^ k * c := ⟨2 ^ (8 - k), by rw [← Nat.pow_add, show k + (8 - k) = 8 by omega]⟩
  obtain ⟨c, hc⟩ := this
  obtain ⟨q, hq⟩ := Int.dvd_of_emod_eq_zero h1
  have h2 : (jbyte x).toInt = x.toInt + ((2 ^ k : Nat) : Int) * ((c : Int) * q) := by
    have h3 : (256 : Int) = ((2 ^ k : Nat) : Int) * (c : Int) := by rw [← Int.natCast_mul, ← hc]; rfl
    rw [h3, Int.mul_assoc] at hq
    simp only [jbyte]; omega
  rw [h2, Int.add_mul_emod_self_left]
end OwnNums

def Bsv (Z : State) (n0 : Nat) (h : Heap) (o : Addr) (v_0 v_1 : Value) : Prop := n0 ≤ o ∧ Exa Z h o "com/example/wireproof/wireproof/value/BitStringValue" ∧ Fld Z h o "com/example/wireproof/wireproof/value/BitStringValue" "octets" "[B" v_0 ∧ Fld Z h o "com/example/wireproof/wireproof/value/BitStringValue" "length" "I" v_1
theorem Bsv.ext {Z : State} {n0 : Nat} {h h' : Heap} {o : Addr} {v_0 v_1 : Value} (O : Bsv Z n0 h o v_0 v_1) (X : Ext h h') : Bsv Z n0 h' o v_0 v_1 := by
  obtain ⟨q0, E, F0, F1⟩ := O
  exact ⟨q0, E.ext X, F0.ext X, F1.ext X⟩
theorem Bsv.keep {Z : State} {n0 : Nat} {h h' : Heap} {o : Addr} {v_0 v_1 : Value} {ws : List Addr} (O : Bsv Z n0 h o v_0 v_1) (K : Keep h h' ws) (q : o ∉ ws) : Bsv Z n0 h' o v_0 v_1 := by
  obtain ⟨q0, E, F0, F1⟩ := O
  exact ⟨q0, E.keep K, F0.keep K q, F1.keep K q⟩
theorem Bsv.neB {Z : State} {n0 : Nat} {h : Heap} {o : Addr} {v_0 v_1 : Value} {a0 : Array Value} {a : Addr} {ty : FieldType} {n : Nat} {g : Nat → Value} (hw : ∀ d ∈ tables_1, d.before a0 Z = true) (O : Bsv Z n0 h o v_0 v_1) (B : Ba Z n0 h a ty n g) : o ≠ a := by
  obtain ⟨-, -, c, A, -⟩ := B
  exact ne_arr O.2.1 (hw _ (List.mem_of_getElem? (i := 3) rfl)) A
theorem Bsv.keepB {Z : State} {n0 : Nat} {h h' : Heap} {o : Addr} {v_0 v_1 : Value} {a0 : Array Value} {a : Addr} {ty : FieldType} {n : Nat} {g : Nat → Value} (hw : ∀ d ∈ tables_1, d.before a0 Z = true) (O : Bsv Z n0 h o v_0 v_1) (B : Ba Z n0 h a ty n g) (K : Keep h h' [a]) : Bsv Z n0 h' o v_0 v_1 := O.keep K (ninS (O.neB hw B) nin0)
theorem Bsv.baW {Z : State} {n0 : Nat} {h h' : Heap} {o : Addr} {v_0 v_1 : Value} {a0 : Array Value} {a : Addr} {ty : FieldType} {n sl : Nat} {v : Value} {g : Nat → Value} (hw : ∀ d ∈ tables_1, d.before a0 Z = true) (O : Bsv Z n0 h o v_0 v_1) (B : Ba Z n0 h a ty n g) (W : Wr h h' o sl v) : Ba Z n0 h' a ty n g := B.keep (Keep.of_wr W) (ninS (Ne.symm (O.neB hw B)) nin0)
theorem Bsv.baK {Z : State} {n0 : Nat} {h h' : Heap} {o : Addr} {v_0 v_1 : Value} {a0 : Array Value} {a : Addr} {ty : FieldType} {n : Nat} {g : Nat → Value} (hw : ∀ d ∈ tables_1, d.before a0 Z = true) (O : Bsv Z n0 h o v_0 v_1) (B : Ba Z n0 h a ty n g) (K : Keep h h' [o]) : Ba Z n0 h' a ty n g := B.keep K (ninS (Ne.symm (O.neB hw B)) nin0)
theorem Bsv.put_octets {Z : State} {n0 : Nat} {h h' : Heap} {o : Addr} {v_0 v_1 : Value} {a0 : Array Value} {v : Value} (hw : ∀ d ∈ tables_1, d.before a0 Z = true) (O : Bsv Z n0 h o v_0 v_1) (W : Wr h h' o (Jvm.RoadKit.slotOf Z "com/example/wireproof/wireproof/value/BitStringValue" "octets" "[B") v) : Bsv Z n0 h' o v v_1 := by
  obtain ⟨q0, E, F0, F1⟩ := O
  exact ⟨q0, E.wr W, (F0.same W), (F1.other W (Or.inr (slot_ne (Or.inr (hw _ (List.mem_of_getElem? (i := 31) rfl))) (Or.inr (hw _ (List.mem_of_getElem? (i := 29) rfl))) (by decide) (t := .int) (t' := (.array .byte)) (by decide) (by decide))))⟩
theorem Bsv.put_length {Z : State} {n0 : Nat} {h h' : Heap} {o : Addr} {v_0 v_1 : Value} {a0 : Array Value} {v : Value} (hw : ∀ d ∈ tables_1, d.before a0 Z = true) (O : Bsv Z n0 h o v_0 v_1) (W : Wr h h' o (Jvm.RoadKit.slotOf Z "com/example/wireproof/wireproof/value/BitStringValue" "length" "I") v) : Bsv Z n0 h' o v_0 v := by
  obtain ⟨q0, E, F0, F1⟩ := O
  exact ⟨q0, E.wr W, (F0.other W (Or.inr (slot_ne (Or.inr (hw _ (List.mem_of_getElem? (i := 29) rfl))) (Or.inr (hw _ (List.mem_of_getElem? (i := 31) rfl))) (by decide) (t := (.array .byte)) (t' := .int) (by decide) (by decide)))), (F1.same W)⟩
theorem Bsv.new {Z : State} {n0 : Nat} {h : Heap} {o : Addr} {a0 : Array Value} (hw : ∀ d ∈ tables_1, d.before a0 Z = true) (q0 : n0 ≤ o) (E : Exa Z h o "com/example/wireproof/wireproof/value/BitStringValue") (D : ∀ {O nm d : String} {ty : FieldType}, Laid Z a0 "com/example/wireproof/wireproof/value/BitStringValue" O nm d → parseFieldDescriptor d = some ty → Fld Z h o O nm d (defaultValue ty)) : Bsv Z n0 h o .null (.int 0) := ⟨q0, E, D (Or.inr (hw _ (List.mem_of_getElem? (i := 29) rfl))) (ty := (.array .byte)) (by decide), D (Or.inr (hw _ (List.mem_of_getElem? (i := 31) rfl))) (ty := .int) (by decide)⟩
theorem n_div {a k : Nat} (ha : a < 2147483648) (h1 : 1 < k) (hk : k < 2147483648) : Int32.ofNat a / Int32.ofNat k = Int32.ofNat (a / k) := by
  have hd : a / k ≤ a := Nat.div_le_self _ _
  refine eq_ofNat (by omega) ?_
  rw [(c_idiv (Int32.ofNat a) (Int32.ofNat k) k (ofNat_toInt hk) (fun q => by have := congrArg Int32.toInt q; rw [ofNat_toInt hk, show (-1 : Int32).toInt = -1 from rfl] at this; omega)).1 (by rw [ofNat_toInt ha]; omega), ofNat_toInt ha]
  exact (Int.natCast_ediv _ _).symm
theorem own_hi (a m M : Int32) (t : Nat) (ht : t ≤ 31) (hm : m.toBitVec.toNat = 2 ^ t - 1) (hM : M = ~~~m) : ((a &&& M).toInt - (a.toInt - a.toInt % (2 ^ t : Nat))) % 4294967296 = 0 := by
  have e : (a &&& M) + (a &&& m) = a := by
    subst hM
    apply Int32.toBitVec_inj.mp
    rw [Int32.toBitVec_add, Int32.toBitVec_and, Int32.toBitVec_and, Int32.toBitVec_not]
    rw [BitVec.add_eq_or_of_and_eq_zero]
    · apply BitVec.eq_of_getLsbD_eq
      intro i hi
      simp only [BitVec.getLsbD_or, BitVec.getLsbD_and, BitVec.getLsbD_not, hi, decide_true, Bool.true_and]
      cases a.toBitVec.getLsbD i <;> cases m.toBitVec.getLsbD i <;> rfl
    · apply BitVec.eq_of_getLsbD_eq
      intro i hi
      simp only [BitVec.getLsbD_and, BitVec.getLsbD_not, hi, decide_true, Bool.true_and, BitVec.getLsbD_zero]
      cases a.toBitVec.getLsbD i <;> cases m.toBitVec.getLsbD i <;> rfl
  have h1 := c_iadd (a &&& M) (a &&& m)
  rw [e, c_mask a m t ht hm] at h1
  omega
theorem bv_low {u : Nat} (hu : u ≤ 8) : (Int32.ofNat (2 ^ u - 1)).toBitVec.toNat = 2 ^ u - 1 := by
  have : 2 ^ u ≤ 256 := Nat.pow_le_pow_right (n := 2) (by decide) hu
  rw [n_bv, BitVec.toNat_ofNat]; omega
theorem own_mask {u : Nat} (hu : u ≤ 8) : jshl 1 (Int32.ofNat u) - 1 = Int32.ofNat (2 ^ u - 1) := by
  rw [show jshl 1 (Int32.ofNat u) = Int32.ofNat (1 * 2 ^ u) from n_shl 1 (by omega), Nat.one_mul]
  exact n_sub (b := 1) (Nat.two_pow_pos u)
theorem own_n2 (x : Int32) {u : Nat} (hu : u ≤ 7) : ∃ N : Nat, N < 256 ∧ N % 2 ^ u = 0 ∧ (x &&& 255) &&& ((jshl 1 (Int32.ofNat u) - 1) ^^^ (-1)) = Int32.ofNat N := by
  obtain ⟨A, hA, eA⟩ : ∃ A : Nat, A < 256 ∧ x &&& 255 = Int32.ofNat A := ⟨_, by omega, n_mask x 8 (by decide) (m := 255) (by decide)⟩
  have hM : Int32.ofNat (2 ^ u - 1) ^^^ (-1) = ~~~(Int32.ofNat (2 ^ u - 1)) := by
    apply Int32.toBitVec_inj.mp
    rw [Int32.toBitVec_xor, Int32.toBitVec_not]
    exact BitVec.xor_allOnes
  rw [own_mask (by omega), eA]
  have h1 := own_hi (Int32.ofNat A) (Int32.ofNat (2 ^ u - 1)) _ u (by omega) (bv_low (by omega)) hM
  have h2 : 2 ^ u ≤ 128 := Nat.pow_le_pow_right (n := 2) (by decide) hu
  have h3 := Nat.mod_le A (2 ^ u)
  refine ⟨A - A % 2 ^ u, by omega, Nat.sub_mod_eq_zero_of_mod_eq (Nat.mod_mod _ _).symm |> fun q => by simpa using q, eq_ofNat (by omega) ?_⟩
  have h4 := rng32 (Int32.ofNat A &&& (Int32.ofNat (2 ^ u - 1) ^^^ (-1)))
  rw [ofNat_toInt (by omega), show ((A : Int) % ((2 ^ u : Nat) : Int)) = ((A % 2 ^ u : Nat) : Int) from (Int.natCast_emod _ _).symm] at h1
  omega
theorem own_and {N j : Nat} (hj : j ≤ 7) : jbyte (jbyte (Int32.ofNat N)) &&& Int32.ofNat (2 ^ j) = Int32.ofNat (N / 2 ^ j % 2 * 2 ^ j) := by
  have e1 : (255 : Int32) &&& Int32.ofNat (2 ^ j) = Int32.ofNat (2 ^ j) := by
    have hc : j = 0 ∨ j = 1 ∨ j = 2 ∨ j = 3 ∨ j = 4 ∨ j = 5 ∨ j = 6 ∨ j = 7 := by omega
    rcases hc with rfl | rfl | rfl | rfl | rfl | rfl | rfl | rfl <;> decide
  have e2 : N &&& 2 ^ j = N / 2 ^ j % 2 * 2 ^ j := by
    have h1 := Nat.div_add_mod (N &&& 2 ^ j) (2 ^ j)
    rw [Nat.and_div_two_pow, Nat.and_mod_two_pow, Nat.mod_self, Nat.and_zero, Nat.div_self (Nat.two_pow_pos j), Nat.and_one_is_mod, Nat.add_zero, Nat.mul_comm] at h1
    exact h1.symm
  rw [jbyte_idem, ← e1, ← Int32.and_assoc, jbyte_and _ 8 (by decide) (by decide), Int32.and_assoc, e1, n_and, e2]
/-- the bit by the octets, and by the word -/
theorem own_bit (N0 N1 N2 I : Nat) (g : Nat → Int32) (h0 : N0 < 256) (h1 : N1 < 256) (h2 : N2 < 256) (hI : I < 24) (g0 : g 0 = jbyte (jbyte (Int32.ofNat N0))) (g1 : g 1 = jbyte (jbyte (Int32.ofNat N1))) (g2 : g 2 = jbyte (jbyte (Int32.ofNat N2))) :
    g (I / 8) &&& Int32.ofNat (2 ^ (7 - I % 8)) = 0 ↔ (65536 * N0 + 256 * N1 + N2) / 2 ^ (23 - I) % 2 = 0 := by
  have key : ∀ (N M j k : Nat), j ≤ 7 → (N / 2 ^ j % 2 = M / 2 ^ k % 2) → (jbyte (jbyte (Int32.ofNat N)) &&& Int32.ofNat (2 ^ j) = 0 ↔ M / 2 ^ k % 2 = 0) := by
    intro N M j k hj hq
    have hp := Nat.two_pow_pos j
    have hp2 : 2 ^ j ≤ 128 := Nat.pow_le_pow_right (n := 2) (by decide) hj
    rw [own_and hj, ← hq]
    have hm := Nat.mod_two_eq_zero_or_one (N / 2 ^ j)
    rcases hm with h | h <;> rw [h]
    · simp
    · rw [Nat.one_mul]
      refine ⟨fun q => ?_, fun q => absurd q (by decide)⟩
      have := (n_inj (a := 2 ^ j) (b := 0) (by omega) (by decide)).mp q
      omega
  have hc : I = 0 ∨ I = 1 ∨ I = 2 ∨ I = 3 ∨ I = 4 ∨ I = 5 ∨ I = 6 ∨ I = 7 ∨ I = 8 ∨ I = 9 ∨ I = 10 ∨ I = 11 ∨ I = 12 ∨ I = 13 ∨ I = 14 ∨ I = 15 ∨ I = 16 ∨ I = 17 ∨ I = 18 ∨ I = 19 ∨ I = 20 ∨ I = 21 ∨ I = 22 ∨ I = 23 := by omega
  rcases hc with rfl | rfl | rfl | rfl | rfl | rfl | rfl | rfl | rfl | rfl | rfl | rfl | rfl | rfl | rfl | rfl | rfl | rfl | rfl | rfl | rfl | rfl | rfl | rfl
  · rw [show 0 / 8 = 0 from rfl, g0]; exact key N0 _ 7 23 (by decide) (by omega)
  · rw [show 1 / 8 = 0 from rfl, g0]; exact key N0 _ 6 22 (by decide) (by omega)
  · rw [show 2 / 8 = 0 from rfl, g0]; exact key N0 _ 5 21 (by decide) (by omega)
  · rw [show 3 / 8 = 0 from rfl, g0]; exact key N0 _ 4 20 (by decide) (by omega)
  · rw [show 4 / 8 = 0 from rfl, g0]; exact key N0 _ 3 19 (by decide) (by omega)
  · rw [show 5 / 8 = 0 from rfl, g0]; exact key N0 _ 2 18 (by decide) (by omega)
  · rw [show 6 / 8 = 0 from rfl, g0]; exact key N0 _ 1 17 (by decide) (by omega)
  · rw [show 7 / 8 = 0 from rfl, g0]; exact key N0 _ 0 16 (by decide) (by omega)
  · rw [show 8 / 8 = 1 from rfl, g1]; exact key N1 _ 7 15 (by decide) (by omega)
  · rw [show 9 / 8 = 1 from rfl, g1]; exact key N1 _ 6 14 (by decide) (by omega)
  · rw [show 10 / 8 = 1 from rfl, g1]; exact key N1 _ 5 13 (by decide) (by omega)
  · rw [show 11 / 8 = 1 from rfl, g1]; exact key N1 _ 4 12 (by decide) (by omega)
  · rw [show 12 / 8 = 1 from rfl, g1]; exact key N1 _ 3 11 (by decide) (by omega)
  · rw [show 13 / 8 = 1 from rfl, g1]; exact key N1 _ 2 10 (by decide) (by omega)
  · rw [show 14 / 8 = 1 from rfl, g1]; exact key N1 _ 1 9 (by decide) (by omega)
  · rw [show 15 / 8 = 1 from rfl, g1]; exact key N1 _ 0 8 (by decide) (by omega)
  · rw [show 16 / 8 = 2 from rfl, g2]; exact key N2 _ 7 7 (by decide) (by omega)
  · rw [show 17 / 8 = 2 from rfl, g2]; exact key N2 _ 6 6 (by decide) (by omega)
  · rw [show 18 / 8 = 2 from rfl, g2]; exact key N2 _ 5 5 (by decide) (by omega)
  · rw [show 19 / 8 = 2 from rfl, g2]; exact key N2 _ 4 4 (by decide) (by omega)
  · rw [show 20 / 8 = 2 from rfl, g2]; exact key N2 _ 3 3 (by decide) (by omega)
  · rw [show 21 / 8 = 2 from rfl, g2]; exact key N2 _ 2 2 (by decide) (by omega)
  · rw [show 22 / 8 = 2 from rfl, g2]; exact key N2 _ 1 1 (by decide) (by omega)
  · rw [show 23 / 8 = 2 from rfl, g2]; exact key N2 _ 0 0 (by decide) (by omega)
theorem ef_2 (m : MethodId) (l0 : Addr) : entryFrame m #[(.ref l0)] 1 = mkF m 0 #[.val (.ref l0)] [] := by first | (simp [entryFrame, mkF, argsToLocals, Value.category]; done) | rfl
theorem pn_2 : plainName "java/lang/Record" = true := by first | (simp [plainName, overriddenIn]; done) | decide +kernel
set_option maxRecDepth 65536 in
set_option maxHeartbeats 40000000 in
theorem rm2 {l : Launch} {Z : State} {a0 : Array Value} {n0 : Nat} {h : Heap} (hw : ∀ d ∈ tables_1, d.before a0 Z = true) (hn : n0 ≤ h.size) (l0 : Addr) :
    Ctr l Z n0 (⟨"java/lang/Record", "<init>", "()V"⟩ : MethodName) jdk_30_method_1_code 1 none ({ frames := 1, cells := 0, slots := 0, locals := 12 } : Room) [] #[(.ref l0)] h (fun v h' => v = none ∧ h = h') := by
  refine ctr_of (plainFor_of_name pn_2) hw hn ?_
  intro p e s m below meth c T X
  refine Wp.cast (ef_2 m l0) ?_
  refine w_aloadN X D2_0 rfl rfl ?_
  refine w_initO X D2_1 (hw _ (List.mem_of_getElem? (i := 13) rfl)) (hw _ (List.mem_of_getElem? (i := 14) rfl)) (hw _ (List.mem_of_getElem? (i := 15) rfl)) rfl (Nat.le_of_ble_eq_true rfl) (Nat.le_of_ble_eq_true rfl) (fun T1 X1 => ?_)
  exact w_return X1 D2_4 (by decide) (by decide) (⟨rfl, rfl⟩)
theorem ef_4 (m : MethodId) (x1 : Int32) : entryFrame m #[(.int x1)] 1 = mkF m 0 #[.val (.int x1)] [] := by first | (simp [entryFrame, mkF, argsToLocals, Value.category]; done) | rfl
theorem pn_4 : plainName "com/example/wireproof/wireproof/value/BitStringValue" = true := by first | (simp [plainName, overriddenIn]; done) | decide +kernel
set_option maxRecDepth 65536 in
set_option maxHeartbeats 40000000 in
theorem rm4 {l : Launch} {Z : State} {a0 : Array Value} {n0 : Nat} {h : Heap} (hw : ∀ d ∈ tables_1, d.before a0 Z = true) (hn : n0 ≤ h.size) (x1 : Int32) (L : Nat) (eL : x1 = Int32.ofNat L) (h1 : 17 ≤ L) (h2 : L ≤ 24) :
    Ctr l Z n0 (⟨"com/example/wireproof/wireproof/value/BitStringValue", "octetsFor", "(I)I"⟩ : MethodName) prog_150_method_2_code 1 (some .int) ({ frames := 0, cells := 0, slots := 0, locals := 0 } : Room) [] #[(.int x1)] h (fun v h' => v = some (.int 3) ∧ h = h') := by
  refine ctr_of (plainFor_of_name pn_4) hw hn ?_
  intro p e s m below meth c T X
  refine Wp.cast (ef_4 m x1) ?_
  subst eL
  refine w_iloadN X D4_0 rfl ?_
  refine w_bipush X D4_1 (v := (8 : Int32)) rfl ?_
  refine w_idiv X D4_3 (by decide) ?_
  rw [show Int32.ofNat L / 8 = Int32.ofNat (L / 8) from n_div (k := 8) (by omega) (by decide) (by decide)]
  refine w_iloadN X D4_4 rfl ?_
  refine w_bipush X D4_5 (v := (8 : Int32)) rfl ?_
  refine w_irem X D4_7 (by decide) ?_
  rw [show Int32.ofNat L % 8 = Int32.ofNat (L % 8) from n_rem (k := 8) (by omega) (by decide) (by decide)]
  refine w_ifne X D4_8 (fun hc8 => ?_) (fun hc8 => ?_)
  · refine w_iconst X D4_15 (v := (1 : Int32)) rfl ?_
    refine w_iadd X D4_16 ?_
    exact w_ireturn X D4_17 (by decide) (by decide) (⟨by
            have hz : ¬ L % 8 = 0 := fun q => hc8 (by rw [q]; rfl)
            rw [show L / 8 = 2 by omega]; rfl, rfl⟩)
  · refine w_iconst X D4_11 (v := (0 : Int32)) rfl ?_
    refine w_goto X D4_12 ?_
    refine w_iadd X D4_16 ?_
    exact w_ireturn X D4_17 (by decide) (by decide) (⟨by
            have hz : L % 8 = 0 := (n_inj (b := 0) (by omega) (by decide)).mp hc8
            rw [show L / 8 = 3 by omega]; rfl, rfl⟩)
theorem ef_1 (m : MethodId) (l0 : Addr) (a : Addr) (x1 : Int32) : entryFrame m #[(.ref l0), (.ref a), (.int x1)] 4 = mkF m 0 #[.val (.ref l0), .val (.ref a), .val (.int x1), .unset] [] := by first | (simp [entryFrame, mkF, argsToLocals, Value.category]; done) | rfl
theorem pn_1 : plainName "com/example/wireproof/wireproof/value/BitStringValue" = true := by first | (simp [plainName, overriddenIn]; done) | decide +kernel
set_option maxRecDepth 65536 in
set_option maxHeartbeats 40000000 in
theorem rm1 {l : Launch} {Z : State} {a0 : Array Value} {n0 : Nat} {h : Heap} (hw : ∀ d ∈ tables_1, d.before a0 Z = true) (hn : n0 ≤ h.size) (l0 : Addr) (a : Addr) (x1 : Int32) (L N2 : Nat) (g : Nat → Int32) (eL : x1 = Int32.ofNat L) (h1 : 17 ≤ L) (h2 : L ≤ 24) (O : Bsv Z n0 h l0 .null (.int 0)) (B : Ba Z n0 h a .byte 3 (bI g)) (AE : Exa Z h a "[B") (hfit : ∀ i, i < 3 → fits .byte (.int (g i)) = true) (g2 : g 2 = jbyte (jbyte (Int32.ofNat N2))) (hN2 : N2 % 2 ^ (24 - L) = 0) :
    Ctr l Z n0 (⟨"com/example/wireproof/wireproof/value/BitStringValue", "<init>", "([BI)V"⟩ : MethodName) prog_150_method_1_code 4 none ({ frames := 2, cells := 1, slots := 3, locals := 24 } : Room) [] #[(.ref l0), (.ref a), (.int x1)] h (fun v h' => v = none ∧ ∃ a2, Bsv Z n0 h' l0 (.ref a2) (.int (Int32.ofNat L)) ∧ Ba Z n0 h' a2 .byte 3 (bI g)) := by
  refine ctr_of (plainFor_of_name pn_1) hw hn ?_
  intro p e s m below meth c T X
  refine Wp.cast (ef_1 m l0 a x1) ?_
  subst eL
  refine w_aloadN X D1_0 rfl rfl ?_
  refine w_special X D1_1 (rm2 hw X.sz l0) rfl (hw _ (List.mem_of_getElem? (i := 8) rfl)) (hw _ (List.mem_of_getElem? (i := 9) rfl)) (hw _ (List.mem_of_getElem? (i := 11) rfl)) (hw _ (List.mem_of_getElem? (i := 12) rfl)) (by decide) pd_0 rfl (S := []) rfl rfl (Nat.le_of_ble_eq_true rfl) (Nat.le_of_ble_eq_true rfl) (Nat.le_of_ble_eq_true rfl) (Nat.le_of_ble_eq_true rfl) (fun v1 T1 h1 X1 q1 => ?_)
  obtain ⟨rfl, rfl⟩ := q1
  show Wp _ _ _ _ _ _ _ _ (mkF m 4 #[.val (.ref l0), .val (.ref a), .val (.int (Int32.ofNat L)), .unset] [])
  refine w_iloadN X1 D1_4 rfl ?_
  refine w_ifge X1 D1_5 (fun hc5 => ?_) (fun hc5 => by exact absurd hc5 (ofNat_nn (by omega)))
  refine w_aloadN X1 D1_22 rfl rfl ?_
  refine w_arraylength X1 D1_23 B ?_
  refine w_iloadN X1 D1_24 rfl ?_
  refine w_static X1 D1_25 (rm4 hw X1.sz _ L rfl h1 h2) (hw _ (List.mem_of_getElem? (i := 16) rfl)) (hw _ (List.mem_of_getElem? (i := 17) rfl)) (hw _ (List.mem_of_getElem? (i := 4) rfl)) (hw _ (List.mem_of_getElem? (i := 18) rfl)) (by decide) pd_1 rfl (S := [(.int (Int32.ofNat 3))]) rfl rfl (Nat.le_of_ble_eq_true rfl) (Nat.le_of_ble_eq_true rfl) (Nat.le_of_ble_eq_true rfl) (Nat.le_of_ble_eq_true rfl) (fun v2 T2 h2 X2 q2 => ?_)
  obtain ⟨rfl, rfl⟩ := q2
  show Wp _ _ _ _ _ _ _ _ (mkF m 28 #[.val (.ref l0), .val (.ref a), .val (.int (Int32.ofNat L)), .unset] [(.int (3 : Int32)), (.int (Int32.ofNat 3))])
  refine w_icmpeq X2 D1_28 (fun hc28 => ?_) (fun hc28 => by exact absurd rfl hc28)
  refine w_aloadN X2 D1_51 rfl rfl ?_
  refine w_clone X2 D1_52 (hw _ (List.mem_of_getElem? (i := 19) rfl)) (hw _ (List.mem_of_getElem? (i := 20) rfl)) (hw _ (List.mem_of_getElem? (i := 24) rfl)) (hw _ (List.mem_of_getElem? (i := 22) rfl)) (hw _ (List.mem_of_getElem? (i := 23) rfl)) (hw _ (List.mem_of_getElem? (i := 25) rfl)) B AE hfit rfl (Nat.le_of_ble_eq_true rfl) (Nat.le_of_ble_eq_true rfl) (Nat.le_of_ble_eq_true rfl) (Nat.le_of_ble_eq_true rfl) (fun T3 h3 a3 X3 E3 B3 AE3 => ?_)
  have O3 := O.ext E3
  refine w_cast X3 D1_55 (hw _ (List.mem_of_getElem? (i := 26) rfl)) AE3 (fun T4 X4 => ?_)
  refine w_astoreN X4 D1_58 (l' := #[.val (.ref l0), .val (.ref a3), .val (.int (Int32.ofNat L)), .unset]) rfl rfl ?_
  refine w_bipush X4 D1_59 (v := (8 : Int32)) rfl ?_
  refine w_aloadN X4 D1_61 rfl rfl ?_
  refine w_arraylength X4 D1_62 B3 ?_
  refine w_imul X4 D1_63 ?_
  refine w_iloadN X4 D1_64 rfl ?_
  refine w_isub X4 D1_65 ?_
  rw [show (8 : Int32) * Int32.ofNat 3 - Int32.ofNat L = Int32.ofNat (24 - L) from n_sub (a := 24) (by omega)]
  refine w_istoreN X4 D1_66 (l' := #[.val (.ref l0), .val (.ref a3), .val (.int (Int32.ofNat L)), .val (.int (Int32.ofNat (24 - L)))]) rfl ?_
  refine w_iloadN X4 D1_67 rfl ?_
  refine w_ifle X4 D1_68 (fun hc68 => ?_) (fun hc68 => ?_)
  · refine w_aloadN X4 D1_96 rfl rfl ?_
    refine w_aloadN X4 D1_97 rfl rfl ?_
    refine w_putF X4 D1_98 (hw _ (List.mem_of_getElem? (i := 28) rfl)) O3.2.2.1 O3.2.1 O3.1 (Or.inr ⟨(hw _ (List.mem_of_getElem? (i := 29) rfl)), rfl, rfl⟩) (hw _ (List.mem_of_getElem? (i := 3) rfl)) (ty := (.array .byte)) (by decide) rfl rfl (fun T5 h5 X5 W5 => ?_)
    have O5 := O3.put_octets hw W5
    have B3_W5 := O3.baW hw B3 W5
    refine w_aloadN X5 D1_101 rfl rfl ?_
    refine w_iloadN X5 D1_102 rfl ?_
    refine w_putF X5 D1_103 (hw _ (List.mem_of_getElem? (i := 30) rfl)) O5.2.2.2 O5.2.1 O5.1 (Or.inr ⟨(hw _ (List.mem_of_getElem? (i := 31) rfl)), rfl, rfl⟩) (hw _ (List.mem_of_getElem? (i := 3) rfl)) (ty := .int) (by decide) rfl rfl (fun T6 h6 X6 W6 => ?_)
    have O6 := O5.put_length hw W6
    have B3_W6 := O5.baW hw B3_W5 W6
    exact w_return X6 D1_106 (by decide) (by decide) (⟨rfl, a3, O6, B3_W6⟩)
  · refine w_aloadN X4 D1_71 rfl rfl ?_
    refine w_aloadN X4 D1_72 rfl rfl ?_
    refine w_arraylength X4 D1_73 B3 ?_
    refine w_iconst X4 D1_74 (v := (1 : Int32)) rfl ?_
    refine w_isub X4 D1_75 ?_
    refine w_baload X4 D1_76 B3 2 rfl (by decide) ?_
    refine w_iconst X4 D1_77 (v := (1 : Int32)) rfl ?_
    refine w_iloadN X4 D1_78 rfl ?_
    refine w_ishl X4 D1_79 ?_
    refine w_iconst X4 D1_80 (v := (1 : Int32)) rfl ?_
    refine w_isub X4 D1_81 ?_
    rw [own_mask (u := 24 - L) (by omega)]
    refine w_iand X4 D1_82 ?_
    refine w_ifeq X4 D1_83 (fun hc83 => ?_) (fun hc83 => by exact absurd (by rw [g2, jbyte_idem, jbyte_and _ (24 - L) (by omega) (bv_low (by omega)), n_low, hN2]; rfl) hc83)
    refine w_aloadN X4 D1_96 rfl rfl ?_
    refine w_aloadN X4 D1_97 rfl rfl ?_
    refine w_putF X4 D1_98 (hw _ (List.mem_of_getElem? (i := 28) rfl)) O3.2.2.1 O3.2.1 O3.1 (Or.inr ⟨(hw _ (List.mem_of_getElem? (i := 29) rfl)), rfl, rfl⟩) (hw _ (List.mem_of_getElem? (i := 3) rfl)) (ty := (.array .byte)) (by decide) rfl rfl (fun T7 h7 X7 W7 => ?_)
    have O7 := O3.put_octets hw W7
    have B3_W7 := O3.baW hw B3 W7
    refine w_aloadN X7 D1_101 rfl rfl ?_
    refine w_iloadN X7 D1_102 rfl ?_
    refine w_putF X7 D1_103 (hw _ (List.mem_of_getElem? (i := 30) rfl)) O7.2.2.2 O7.2.1 O7.1 (Or.inr ⟨(hw _ (List.mem_of_getElem? (i := 31) rfl)), rfl, rfl⟩) (hw _ (List.mem_of_getElem? (i := 3) rfl)) (ty := .int) (by decide) rfl rfl (fun T8 h8 X8 W8 => ?_)
    have O8 := O7.put_length hw W8
    have B3_W8 := O7.baW hw B3_W7 W8
    exact w_return X8 D1_106 (by decide) (by decide) (⟨rfl, a3, O8, B3_W8⟩)
theorem ef_5 (m : MethodId) (l0 : Addr) (x1 : Int32) : entryFrame m #[(.ref l0), (.int x1)] 2 = mkF m 0 #[.val (.ref l0), .val (.int x1)] [] := by first | (simp [entryFrame, mkF, argsToLocals, Value.category]; done) | rfl
theorem pn_5 : plainName "com/example/wireproof/wireproof/value/BitStringValue" = true := by first | (simp [plainName, overriddenIn]; done) | decide +kernel
set_option maxRecDepth 65536 in
set_option maxHeartbeats 40000000 in
theorem rm5 {l : Launch} {Z : State} {a0 : Array Value} {n0 : Nat} {h : Heap} (hw : ∀ d ∈ tables_1, d.before a0 Z = true) (hn : n0 ≤ h.size) (l0 : Addr) (x1 : Int32) (I : Nat) (r : Int32) (a2 : Addr) (lv : Int32) (g : Nat → Int32) (eI : x1 = Int32.ofNat I) (hI : I < 24) (O : Bsv Z n0 h l0 (.ref a2) (.int lv)) (B : Ba Z n0 h a2 .byte 3 (bI g)) (hr0 : g (I / 8) &&& Int32.ofNat (2 ^ (7 - I % 8)) = 0 → r = 0) (hr1 : ¬ g (I / 8) &&& Int32.ofNat (2 ^ (7 - I % 8)) = 0 → r = 1) :
    Ctr l Z n0 (⟨"com/example/wireproof/wireproof/value/BitStringValue", "bit", "(I)Z"⟩ : MethodName) prog_150_method_4_code 2 (some .boolean) ({ frames := 0, cells := 0, slots := 0, locals := 0 } : Room) [] #[(.ref l0), (.int x1)] h (fun v h' => v = some (.int r) ∧ h = h') := by
  refine ctr_of (plainFor_of_name pn_5) hw hn ?_
  intro p e s m below meth c T X
  refine Wp.cast (ef_5 m l0 x1) ?_
  subst eI
  refine w_aloadN X D5_0 rfl rfl ?_
  refine w_getF X D5_1 (hw _ (List.mem_of_getElem? (i := 28) rfl)) O.2.2.1 (fun T1 X1 => ?_)
  refine w_iloadN X1 D5_4 rfl ?_
  refine w_bipush X1 D5_5 (v := (8 : Int32)) rfl ?_
  refine w_idiv X1 D5_7 (by decide) ?_
  rw [show Int32.ofNat I / 8 = Int32.ofNat (I / 8) from n_div (k := 8) (by omega) (by decide) (by decide)]
  refine w_baload X1 D5_8 B (I / 8) rfl (by omega) ?_
  refine w_sipush X1 D5_9 (v := (128 : Int32)) rfl ?_
  refine w_iloadN X1 D5_12 rfl ?_
  refine w_bipush X1 D5_13 (v := (8 : Int32)) rfl ?_
  refine w_irem X1 D5_15 (by decide) ?_
  rw [show Int32.ofNat I % 8 = Int32.ofNat (I % 8) from n_rem (k := 8) (by omega) (by decide) (by decide)]
  refine w_iushr X1 D5_16 ?_
  rw [show jushr (128 : Int32) (Int32.ofNat (I % 8)) = Int32.ofNat (2 ^ (7 - I % 8)) from (n_ushr (a := 128) (by decide) (by omega)).trans (by congr 1; have hc : I % 8 = 0 ∨ I % 8 = 1 ∨ I % 8 = 2 ∨ I % 8 = 3 ∨ I % 8 = 4 ∨ I % 8 = 5 ∨ I % 8 = 6 ∨ I % 8 = 7 := (by omega); rcases hc with h | h | h | h | h | h | h | h <;> rw [h])]
  refine w_iand X1 D5_17 ?_
  refine w_ifeq X1 D5_18 (fun hc18 => ?_) (fun hc18 => ?_)
  · refine w_iconst X1 D5_25 (v := (0 : Int32)) rfl ?_
    exact w_zreturn X1 D5_26 (by decide) (by decide) (⟨by rw [hr0 hc18]; rfl, rfl⟩)
  · refine w_iconst X1 D5_21 (v := (1 : Int32)) rfl ?_
    refine w_goto X1 D5_22 ?_
    exact w_zreturn X1 D5_26 (by decide) (by decide) (⟨by rw [hr1 hc18]; rfl, rfl⟩)
theorem ef_0 (m : MethodId) (a : Int32) (b : Int32) (c0 : Int32) (d : Int32) (e0 : Int32) : entryFrame m #[(.int a), (.int b), (.int c0), (.int d), (.int e0)] maxLocals = mkF m 0 #[.val (.int a), .val (.int b), .val (.int c0), .val (.int d), .val (.int e0), .unset, .unset, .unset, .unset, .unset, .unset, .unset, .unset, .unset, .unset] [] := by first | (simp [entryFrame, mkF, argsToLocals, Value.category, maxLocals]; done) | rfl
theorem pn_0 : plainName "com/example/wireproof/wireproof/value/BitStringValueBitPinLaw" = true := by first | (simp [plainName, overriddenIn]; done) | decide +kernel
set_option maxRecDepth 65536 in
set_option maxHeartbeats 40000000 in
theorem rm0 {l : Launch} {Z : State} {a0 : Array Value} {n0 : Nat} {h : Heap} (hw : ∀ d ∈ tables_1, d.before a0 Z = true) (hn : n0 ≤ h.size) (a : Int32) (b : Int32) (c0 : Int32) (d : Int32) (e0 : Int32) :
    Ctr l Z n0 x code maxLocals ret room_1 tables_1 #[(.int a), (.int b), (.int c0), (.int d), (.int e0)] h (fun v h' => v = some (.int 1)) := by
  refine ctr_of (plainFor_of_name pn_0) hw hn ?_
  intro p e s m below meth c T X
  refine Wp.cast (ef_0 m a b c0 d e0) ?_
  refine w_iloadN X D0_0 rfl ?_
  refine w_sipush X D0_1 (v := (255 : Int32)) rfl ?_
  refine w_iand X D0_4 ?_
  obtain ⟨N0, hN0, eN0⟩ : ∃ A : Nat, A < 256 ∧ a &&& 255 = Int32.ofNat A := ⟨_, by omega, n_mask a 8 (by decide) (m := 255) (by decide)⟩
  rw [eN0]
  refine w_istore X D0_5 (l' := #[.val (.int a), .val (.int b), .val (.int c0), .val (.int d), .val (.int e0), .val (.int (Int32.ofNat N0)), .unset, .unset, .unset, .unset, .unset, .unset, .unset, .unset, .unset]) rfl ?_
  refine w_iloadN X D0_7 rfl ?_
  refine w_sipush X D0_8 (v := (255 : Int32)) rfl ?_
  refine w_iand X D0_11 ?_
  obtain ⟨N1, hN1, eN1⟩ : ∃ A : Nat, A < 256 ∧ b &&& 255 = Int32.ofNat A := ⟨_, by omega, n_mask b 8 (by decide) (m := 255) (by decide)⟩
  rw [eN1]
  refine w_istore X D0_12 (l' := #[.val (.int a), .val (.int b), .val (.int c0), .val (.int d), .val (.int e0), .val (.int (Int32.ofNat N0)), .val (.int (Int32.ofNat N1)), .unset, .unset, .unset, .unset, .unset, .unset, .unset, .unset]) rfl ?_
  refine w_bipush X D0_14 (v := (17 : Int32)) rfl ?_
  refine w_iloadN X D0_16 rfl ?_
  refine w_ldc X D0_17 (hw _ (List.mem_of_getElem? (i := 0) rfl)) ?_
  refine w_iand X D0_19 ?_
  refine w_bipush X D0_20 (v := (8 : Int32)) rfl ?_
  refine w_irem X D0_22 (by decide) ?_
  refine w_iadd X D0_23 ?_
  obtain ⟨q, hq, eq⟩ : ∃ q : Nat, q < 8 ∧ (d &&& 2147483647) % 8 = Int32.ofNat q := by
    obtain ⟨v, hv, ev⟩ := n_mask31 d
    exact ⟨v % 8, Nat.mod_lt _ (by decide), by rw [ev]; exact n_rem (k := 8) hv (by decide) (by decide)⟩
  obtain ⟨L, eL⟩ : ∃ L, L = 17 + q := ⟨_, rfl⟩
  rw [eq, show (17 : Int32) + Int32.ofNat q = Int32.ofNat (17 + q) from n_add 17 q, ← eL]
  refine w_istore X D0_24 (l' := #[.val (.int a), .val (.int b), .val (.int c0), .val (.int d), .val (.int e0), .val (.int (Int32.ofNat N0)), .val (.int (Int32.ofNat N1)), .val (.int (Int32.ofNat L)), .unset, .unset, .unset, .unset, .unset, .unset, .unset]) rfl ?_
  refine w_bipush X D0_26 (v := (24 : Int32)) rfl ?_
  refine w_iload X D0_28 rfl ?_
  refine w_isub X D0_30 ?_
  rw [show (24 : Int32) - Int32.ofNat L = Int32.ofNat (24 - L) from n_sub (a := 24) (by omega)]
  refine w_istore X D0_31 (l' := #[.val (.int a), .val (.int b), .val (.int c0), .val (.int d), .val (.int e0), .val (.int (Int32.ofNat N0)), .val (.int (Int32.ofNat N1)), .val (.int (Int32.ofNat L)), .val (.int (Int32.ofNat (24 - L))), .unset, .unset, .unset, .unset, .unset, .unset]) rfl ?_
  refine w_iloadN X D0_33 rfl ?_
  refine w_sipush X D0_34 (v := (255 : Int32)) rfl ?_
  refine w_iand X D0_37 ?_
  refine w_iconst X D0_38 (v := (1 : Int32)) rfl ?_
  refine w_iload X D0_39 rfl ?_
  refine w_ishl X D0_41 ?_
  refine w_iconst X D0_42 (v := (1 : Int32)) rfl ?_
  refine w_isub X D0_43 ?_
  refine w_iconst X D0_44 (v := (-1 : Int32)) rfl ?_
  refine w_ixor X D0_45 ?_
  refine w_iand X D0_46 ?_
  obtain ⟨N2, hN2, hN2', eN2⟩ := own_n2 c0 (u := 24 - L) (by omega)
  rw [eN2]
  refine w_istore X D0_47 (l' := #[.val (.int a), .val (.int b), .val (.int c0), .val (.int d), .val (.int e0), .val (.int (Int32.ofNat N0)), .val (.int (Int32.ofNat N1)), .val (.int (Int32.ofNat L)), .val (.int (Int32.ofNat (24 - L))), .val (.int (Int32.ofNat N2)), .unset, .unset, .unset, .unset, .unset]) rfl ?_
  refine w_iconst X D0_49 (v := (3 : Int32)) rfl ?_
  refine w_newBE X D0_50 (hw _ (List.mem_of_getElem? (i := 1) rfl)) 3 3 rfl (Nat.le_of_ble_eq_true rfl) (by decide) (Nat.le_of_ble_eq_true rfl) (Nat.le_of_ble_eq_true rfl) (fun T1 h1 a1 X1 g1 E1 B1 AE1 => ?_)
  refine w_astore X1 D0_52 (l' := #[.val (.int a), .val (.int b), .val (.int c0), .val (.int d), .val (.int e0), .val (.int (Int32.ofNat N0)), .val (.int (Int32.ofNat N1)), .val (.int (Int32.ofNat L)), .val (.int (Int32.ofNat (24 - L))), .val (.int (Int32.ofNat N2)), .val (.ref a1), .unset, .unset, .unset, .unset]) rfl rfl ?_
  refine w_aload X1 D0_54 rfl rfl ?_
  refine w_iconst X1 D0_56 (v := (0 : Int32)) rfl ?_
  refine w_iload X1 D0_57 rfl ?_
  refine w_i2b X1 D0_59 ?_
  refine w_bastore X1 D0_60 B1 0 rfl (by decide) (fun T2 h2 X2 K2 B2 => ?_)
  refine w_aload X2 D0_61 rfl rfl ?_
  refine w_iconst X2 D0_63 (v := (1 : Int32)) rfl ?_
  refine w_iload X2 D0_64 rfl ?_
  refine w_i2b X2 D0_66 ?_
  refine w_bastore X2 D0_67 B2 1 rfl (by decide) (fun T3 h3 X3 K3 B3 => ?_)
  refine w_aload X3 D0_68 rfl rfl ?_
  refine w_iconst X3 D0_70 (v := (2 : Int32)) rfl ?_
  refine w_iload X3 D0_71 rfl ?_
  refine w_i2b X3 D0_73 ?_
  refine w_bastore X3 D0_74 B3 2 rfl (by decide) (fun T4 h4 X4 K4 B4 => ?_)
  have AE : Exa Z h4 a1 "[B" := ((AE1.keep K2).keep K3).keep K4
  obtain ⟨g, eg⟩ : ∃ g : Nat → Int32, g = (upd (upd (upd (fun _ => 0) 0 (jbyte (jbyte (Int32.ofNat N0)))) 1 (jbyte (jbyte (Int32.ofNat N1)))) 2 (jbyte (jbyte (Int32.ofNat N2)))) := ⟨_, rfl⟩
  have Bg : Ba Z n0 h4 a1 .byte 3 (bI g) := by rw [eg]; exact B4
  have g0 : g 0 = jbyte (jbyte (Int32.ofNat N0)) := by rw [eg]; rfl
  have g1 : g 1 = jbyte (jbyte (Int32.ofNat N1)) := by rw [eg]; rfl
  have g2 : g 2 = jbyte (jbyte (Int32.ofNat N2)) := by rw [eg]; rfl
  have hfit : ∀ i, i < 3 → fits .byte (.int (g i)) = true := fun i hi => by
    have hc : i = 0 ∨ i = 1 ∨ i = 2 := by omega
    rcases hc with rfl | rfl | rfl
    · rw [g0]; exact fits_nar_byte _
    · rw [g1]; exact fits_nar_byte _
    · rw [g2]; exact fits_nar_byte _
  clear eg
  refine w_new X4 D0_75 (hw _ (List.mem_of_getElem? (i := 2) rfl)) (hw _ (List.mem_of_getElem? (i := 3) rfl)) (hw _ (List.mem_of_getElem? (i := 4) rfl)) (Nat.le_of_ble_eq_true rfl) (Nat.le_of_ble_eq_true rfl) (fun T5 h5 a5 X5 g5 n5 E5 A5 D5 => ?_)
  have Bg_E5 := Bg.ext E5
  have O5 := Bsv.new hw n5 A5 D5
  refine w_dup X5 D0_78 rfl ?_
  refine w_aload X5 D0_79 rfl rfl ?_
  refine w_iload X5 D0_81 rfl ?_
  refine w_special X5 D0_83 (rm1 hw X5.sz a5 a1 _ L N2 g rfl (by omega) (by omega) O5 Bg_E5 (AE.ext E5) hfit g2 hN2') rfl (hw _ (List.mem_of_getElem? (i := 5) rfl)) (hw _ (List.mem_of_getElem? (i := 6) rfl)) (hw _ (List.mem_of_getElem? (i := 4) rfl)) (hw _ (List.mem_of_getElem? (i := 7) rfl)) (by decide) pd_2 rfl (S := [(.ref a5)]) rfl rfl (Nat.le_of_ble_eq_true rfl) (Nat.le_of_ble_eq_true rfl) (Nat.le_of_ble_eq_true rfl) (Nat.le_of_ble_eq_true rfl) (fun v6 T6 h6 X6 q6 => ?_)
  obtain ⟨rfl, a2, O6, B6⟩ := q6
  show Wp _ _ _ _ _ _ _ _ (mkF m 86 #[.val (.int a), .val (.int b), .val (.int c0), .val (.int d), .val (.int e0), .val (.int (Int32.ofNat N0)), .val (.int (Int32.ofNat N1)), .val (.int (Int32.ofNat L)), .val (.int (Int32.ofNat (24 - L))), .val (.int (Int32.ofNat N2)), .val (.ref a1), .unset, .unset, .unset, .unset] [(.ref a5)])
  refine w_astore X6 D0_86 (l' := #[.val (.int a), .val (.int b), .val (.int c0), .val (.int d), .val (.int e0), .val (.int (Int32.ofNat N0)), .val (.int (Int32.ofNat N1)), .val (.int (Int32.ofNat L)), .val (.int (Int32.ofNat (24 - L))), .val (.int (Int32.ofNat N2)), .val (.ref a1), .val (.ref a5), .unset, .unset, .unset]) rfl rfl ?_
  refine w_iload X6 D0_88 rfl ?_
  refine w_ldc X6 D0_90 (hw _ (List.mem_of_getElem? (i := 0) rfl)) ?_
  refine w_iand X6 D0_92 ?_
  refine w_iload X6 D0_93 rfl ?_
  refine w_irem X6 D0_95 (fun q => by have := (n_inj (b := 0) (by omega) (by decide)).mp q; omega) ?_
  obtain ⟨I, hI, eI⟩ : ∃ I : Nat, I < L ∧ (e0 &&& 2147483647) % Int32.ofNat L = Int32.ofNat I := by
    obtain ⟨v, hv, ev⟩ := n_mask31 e0
    exact ⟨v % L, Nat.mod_lt _ (by omega), by rw [ev]; exact n_rem hv (by omega) (by omega)⟩
  rw [eI]
  refine w_istore X6 D0_96 (l' := #[.val (.int a), .val (.int b), .val (.int c0), .val (.int d), .val (.int e0), .val (.int (Int32.ofNat N0)), .val (.int (Int32.ofNat N1)), .val (.int (Int32.ofNat L)), .val (.int (Int32.ofNat (24 - L))), .val (.int (Int32.ofNat N2)), .val (.ref a1), .val (.ref a5), .val (.int (Int32.ofNat I)), .unset, .unset]) rfl ?_
  refine w_iload X6 D0_98 rfl ?_
  refine w_bipush X6 D0_100 (v := (16 : Int32)) rfl ?_
  refine w_ishl X6 D0_102 ?_
  refine w_iload X6 D0_103 rfl ?_
  refine w_bipush X6 D0_105 (v := (8 : Int32)) rfl ?_
  refine w_ishl X6 D0_107 ?_
  refine w_ior X6 D0_108 ?_
  refine w_iload X6 D0_109 rfl ?_
  refine w_ior X6 D0_111 ?_
  obtain ⟨W, hW⟩ : ∃ W, W = 65536 * N0 + 256 * N1 + N2 := ⟨_, rfl⟩
  rw [show jshl (Int32.ofNat N0) 16 ||| jshl (Int32.ofNat N1) 8 ||| Int32.ofNat N2 = Int32.ofNat W by
      rw [show jshl (Int32.ofNat N0) 16 = Int32.ofNat (N0 * 2 ^ 16) from n_shl N0 (k := 16) (by decide), show jshl (Int32.ofNat N1) 8 = Int32.ofNat (N1 * 2 ^ 8) from n_shl N1 (k := 8) (by decide), Nat.mul_comm N0, n_orlow _ (by omega), show 2 ^ 16 * N0 + N1 * 2 ^ 8 = 2 ^ 8 * (256 * N0 + N1) by omega, n_orlow _ (by omega)]
      congr 1; omega]
  refine w_istore X6 D0_112 (l' := #[.val (.int a), .val (.int b), .val (.int c0), .val (.int d), .val (.int e0), .val (.int (Int32.ofNat N0)), .val (.int (Int32.ofNat N1)), .val (.int (Int32.ofNat L)), .val (.int (Int32.ofNat (24 - L))), .val (.int (Int32.ofNat N2)), .val (.ref a1), .val (.ref a5), .val (.int (Int32.ofNat I)), .val (.int (Int32.ofNat W)), .unset]) rfl ?_
  refine w_iload X6 D0_114 rfl ?_
  refine w_bipush X6 D0_116 (v := (23 : Int32)) rfl ?_
  refine w_iload X6 D0_118 rfl ?_
  refine w_isub X6 D0_120 ?_
  rw [show (23 : Int32) - Int32.ofNat I = Int32.ofNat (23 - I) from n_sub (a := 23) (by omega)]
  refine w_iushr X6 D0_121 ?_
  rw [n_ushr (show W < 2147483648 by omega) (show 23 - I < 32 by omega)]
  refine w_iconst X6 D0_122 (v := (1 : Int32)) rfl ?_
  refine w_iand X6 D0_123 ?_
  rw [show Int32.ofNat (W / 2 ^ (23 - I)) &&& 1 = Int32.ofNat (W / 2 ^ (23 - I) % 2) from n_low _ 1]
  refine w_ifeq X6 D0_124 (fun hc124 => ?_) (fun hc124 => ?_)
  · refine w_iconst X6 D0_131 (v := (0 : Int32)) rfl ?_
    refine w_istore X6 D0_132 (l' := #[.val (.int a), .val (.int b), .val (.int c0), .val (.int d), .val (.int e0), .val (.int (Int32.ofNat N0)), .val (.int (Int32.ofNat N1)), .val (.int (Int32.ofNat L)), .val (.int (Int32.ofNat (24 - L))), .val (.int (Int32.ofNat N2)), .val (.ref a1), .val (.ref a5), .val (.int (Int32.ofNat I)), .val (.int (Int32.ofNat W)), .val (.int (0 : Int32))]) rfl ?_
    refine w_aload X6 D0_134 rfl rfl ?_
    refine w_iload X6 D0_136 rfl ?_
    have hb := own_bit N0 N1 N2 I g hN0 hN1 hN2 (by omega) g0 g1 g2
    rw [← hW] at hb
    have hz : W / 2 ^ (23 - I) % 2 = 0 := (n_inj (b := 0) (by omega) (by decide)).mp hc124
    refine w_virtual X6 D0_138 (rm5 hw X6.sz a5 _ I 0 a2 _ g rfl (by omega) O6 B6 (fun _ => rfl) (fun q => absurd (hb.mpr hz) q)) O6.2.1 (hw _ (List.mem_of_getElem? (i := 32) rfl)) (hw _ (List.mem_of_getElem? (i := 33) rfl)) (hw _ (List.mem_of_getElem? (i := 35) rfl)) (hw _ (List.mem_of_getElem? (i := 34) rfl)) (hw _ (List.mem_of_getElem? (i := 4) rfl)) (hw _ (List.mem_of_getElem? (i := 36) rfl)) (by decide) pd_3 rfl (S := []) rfl rfl (Nat.le_of_ble_eq_true rfl) (Nat.le_of_ble_eq_true rfl) (Nat.le_of_ble_eq_true rfl) (Nat.le_of_ble_eq_true rfl) (fun v7 T7 h7 X7 q7 => ?_)
    obtain ⟨rfl, rfl⟩ := q7
    show Wp _ _ _ _ _ _ _ _ (mkF m 141 #[.val (.int a), .val (.int b), .val (.int c0), .val (.int d), .val (.int e0), .val (.int (Int32.ofNat N0)), .val (.int (Int32.ofNat N1)), .val (.int (Int32.ofNat L)), .val (.int (Int32.ofNat (24 - L))), .val (.int (Int32.ofNat N2)), .val (.ref a1), .val (.ref a5), .val (.int (Int32.ofNat I)), .val (.int (Int32.ofNat W)), .val (.int (0 : Int32))] [(.int (0 : Int32))])
    refine w_iload X7 D0_141 rfl ?_
    refine w_icmpne X7 D0_143 (fun hc143 => by exact absurd rfl hc143) (fun hc143 => ?_)
    refine w_iconst X7 D0_146 (v := (1 : Int32)) rfl ?_
    refine w_goto X7 D0_147 ?_
    exact w_zreturn X7 D0_151 (by decide) (by decide) (rfl)
  · refine w_iconst X6 D0_127 (v := (1 : Int32)) rfl ?_
    refine w_goto X6 D0_128 ?_
    refine w_istore X6 D0_132 (l' := #[.val (.int a), .val (.int b), .val (.int c0), .val (.int d), .val (.int e0), .val (.int (Int32.ofNat N0)), .val (.int (Int32.ofNat N1)), .val (.int (Int32.ofNat L)), .val (.int (Int32.ofNat (24 - L))), .val (.int (Int32.ofNat N2)), .val (.ref a1), .val (.ref a5), .val (.int (Int32.ofNat I)), .val (.int (Int32.ofNat W)), .val (.int (1 : Int32))]) rfl ?_
    refine w_aload X6 D0_134 rfl rfl ?_
    refine w_iload X6 D0_136 rfl ?_
    have hb := own_bit N0 N1 N2 I g hN0 hN1 hN2 (by omega) g0 g1 g2
    rw [← hW] at hb
    have hz : ¬ W / 2 ^ (23 - I) % 2 = 0 := fun q => hc124 (by rw [q]; rfl)
    refine w_virtual X6 D0_138 (rm5 hw X6.sz a5 _ I 1 a2 _ g rfl (by omega) O6 B6 (fun q => absurd (hb.mp q) hz) (fun _ => rfl)) O6.2.1 (hw _ (List.mem_of_getElem? (i := 32) rfl)) (hw _ (List.mem_of_getElem? (i := 33) rfl)) (hw _ (List.mem_of_getElem? (i := 35) rfl)) (hw _ (List.mem_of_getElem? (i := 34) rfl)) (hw _ (List.mem_of_getElem? (i := 4) rfl)) (hw _ (List.mem_of_getElem? (i := 36) rfl)) (by decide) pd_3 rfl (S := []) rfl rfl (Nat.le_of_ble_eq_true rfl) (Nat.le_of_ble_eq_true rfl) (Nat.le_of_ble_eq_true rfl) (Nat.le_of_ble_eq_true rfl) (fun v8 T8 h8 X8 q8 => ?_)
    obtain ⟨rfl, rfl⟩ := q8
    show Wp _ _ _ _ _ _ _ _ (mkF m 141 #[.val (.int a), .val (.int b), .val (.int c0), .val (.int d), .val (.int e0), .val (.int (Int32.ofNat N0)), .val (.int (Int32.ofNat N1)), .val (.int (Int32.ofNat L)), .val (.int (Int32.ofNat (24 - L))), .val (.int (Int32.ofNat N2)), .val (.ref a1), .val (.ref a5), .val (.int (Int32.ofNat I)), .val (.int (Int32.ofNat W)), .val (.int (1 : Int32))] [(.int (1 : Int32))])
    refine w_iload X8 D0_141 rfl ?_
    refine w_icmpne X8 D0_143 (fun hc143 => by exact absurd rfl hc143) (fun hc143 => ?_)
    refine w_iconst X8 D0_146 (v := (1 : Int32)) rfl ?_
    refine w_goto X8 D0_147 ?_
    exact w_zreturn X8 D0_151 (by decide) (by decide) (rfl)
set_option maxRecDepth 65536 in
set_option maxHeartbeats 40000000 in
theorem comes_1 {Post : Tables → Env → Array Value → State → Outcome → State → Prop} (hpost : ∀ tb e args s v u, (limb_1_1.after args s (.returned v) u = true ∧ limb_1_2.after args s (.returned v) u = true ∧ True) → FrameEnd s (.returned v) u (Jvm.fieldLocs frame_1_writes args s ++ Jvm.arrayLocs frame_1_arrays args s ++ Jvm.staticLocs frame_1_statics s) 16 128 → Post tb e args s (.returned v) u) :
    ArmFor flags0 classFile x code maxLocals ret World_1 tables_1 room_1 Calls_1 rest_1 Pre_1 Post := by
  intro l hfl _ _ p e ha hc hk s m args below hf hA hF happ hP
  obtain ⟨hcalls, hrest, hpre⟩ := hP
  obtain ⟨-, -, -, hnamed, -, -, -, hat⟩ := (Spec.applies_iff hf).mp happ
  obtain ⟨hg, hn⟩ := and_e (Cond.before_iff.mp (show (Jvm.Cond.and given_1 narrow_1).before args s = true from hpre))
  obtain ⟨hcount, g0⟩ := and_e hg
  obtain ⟨ga0, g1⟩ := and_e g0
  obtain ⟨ga1, g2⟩ := and_e g1
  obtain ⟨ga2, g3⟩ := and_e g2
  obtain ⟨ga3, g4⟩ := and_e g3
  obtain ⟨w0, w1, w2, w3, w4, rfl⟩ : ∃ w0 w1 w2 w3 w4 : Value, args = #[w0, w1, w2, w3, w4] := by
    have hs : args.size = 5 := by simpa [Cond.value, given_1] using hcount
    obtain ⟨L⟩ := args
    match L, hs with
    | [w0, w1, w2, w3, w4], _ => exact ⟨w0, w1, w2, w3, w4, rfl⟩
  have hw := fun d (hd : d ∈ tables_1) => atoms_spec (ws := Jvm.Cond.code x code maxLocals ret :: tables_1) hat d (List.mem_cons_of_mem _ hd)
  obtain ⟨i0, ei0⟩ := is_v ga0
  obtain rfl : w0 = (.int i0) := Option.some.inj ei0
  obtain ⟨i1, ei1⟩ := is_v ga1
  obtain rfl : w1 = (.int i1) := Option.some.inj ei1
  obtain ⟨i2, ei2⟩ := is_v ga2
  obtain rfl : w2 = (.int i2) := Option.some.inj ei2
  obtain ⟨i3, ei3⟩ := is_v ga3
  obtain rfl : w3 = (.int i3) := Option.some.inj ei3
  obtain ⟨i4, ei4⟩ := is_v g4
  obtain rfl : w4 = (.int i4) := Option.some.inj ei4
  obtain ⟨n, o, h1, h2, h3, _, L, rfl, ⟨N, -, rfl⟩, hq⟩ := rm0 (l := l) (Z := s) (n0 := s.heap.size) (h := s.heap) hw (Nat.le_refl _) i0 i1 i2 i3 i4 p e ha hc hk s m _ below hf ((Spec.applies_iff_loose hf).mp happ).1 ⟨rfl, State.Warmed39.refl s, rfl⟩ trivial
  refine ⟨n, _, h1, h2, h3, hpost _ _ _ _ _ _ ⟨Cond.after_iff.mpr rfl, Cond.after_iff.mpr (eq_i res_at (Term.int_eval (1)) rfl), trivial⟩ ⟨hq.1, hq.2.1, (hq.2.2.sift fun y hy => Or.inr (N y hy)).mono (by decide) (by decide)⟩⟩
theorem main_1_1 : Claimed_1_1 := comes_1 fun _ _ _ _ _ _ h hF => ⟨h.1, hF⟩
theorem main_1_2 : Claimed_1_2 := comes_1 fun _ _ _ _ _ _ h hF => ⟨h.2.1, hF⟩
end Jvm.Pilot.@@N@@
namespace Jvm.Pilot.@@N@@
open Jvm Jvm.ClassFile Sem Op Lib Jvm.Free Jvm.Stand Jvm.Pilot.@@N@@.Jvm.D
/-! MADE BY PROGRAM (witnessworld.py) out of the Statement's table words and the real class files: 11 classes; the members and pool entries that the words name. The judged class is class 1, her method 1. -/
namespace start1
open Jvm.ClassFile
def u (s : String) : CpInfo := .utf8 (stringToUtf16 s)
/-- a pool by its gaps: so many unusable entries, then the entry; so many at the end -/
def gap : Nat → List CpInfo → List CpInfo
  | 0, r => r
  | n + 1, r => .unusable :: gap n r
def poolList (es : List (Nat × CpInfo)) (last : Nat) : List CpInfo := es.foldr (fun e r => gap e.1 (e.2 :: r)) (gap last [])
def pool (es : List (Nat × CpInfo)) (last : Nat) : Array CpInfo := ⟨poolList es last⟩
def fileOf (pool : Array CpInfo) (this : Nat) (attrs : Array Attribute := #[]) (ms : Array MethodInfo := #[]) (fl : Nat := 33) (sup : Nat := 0) (ifs : Array Nat := #[]) (fds : Array FieldInfo := #[]) : ClassFile where
  minorVersion := 0
  majorVersion := 65
  constantPool := pool
  accessFlags := fl
  thisClass := this
  superClass := sup
  interfaces := ifs
  fields := fds
  methods := ms
  attributes := attrs
def plain (name : String) (sup : Option ClassId) : Class where
  name := name
  kind := .ordinary
  loader := none
  accessFlags := 33
  super := sup
  interfaces := #[]
  cf := none
  fields := #[]
  methods := #[]
  instanceTypes := #[]
  staticTypes := #[]
  resolved := #[]
  callSites := []
  init := .initialized
  statics := none
  mirror := none

def pool0 : Array CpInfo := pool [(5, u "<init>"), (0, u "()V"), (1, .class_ 10), (1, u "java/lang/Object"), (85, u "clone"), (0, u "()Ljava/lang/Object;")] 26

def k0c0 : Code := { maxStack := 0, maxLocals := 1, code := object_method_1_code, exceptionTable := #[], attributes := #[] }
def k0m0 : Method := { name := "<init>", desc := "()V", sig := { parameters := [], returnType := none }, accessFlags := 1, code := some k0c0 }
def k0m1 : Method := { name := "clone", desc := "()Ljava/lang/Object;", sig := { parameters := [], returnType := some (.object "java/lang/Object") }, accessFlags := 260, code := none }
/-- java/lang/Object -/
def k0 : Class := { plain "java/lang/Object" none with
  accessFlags := 33
  interfaces := #[]
  cf := some (fileOf pool0 8 #[] #[{ accessFlags := 1, nameIndex := 5, descriptorIndex := 6, attributes := #[] }, { accessFlags := 260, nameIndex := 96, descriptorIndex := 97, attributes := #[] }] 33 0 #[] #[])
  fields := #[]
  methods := #[k0m0, k0m1]
  instanceTypes := #[]
  staticTypes := #[]
  resolved := Array.replicate 124 none
  statics := none }

def pool1 : Array CpInfo := pool [(2, .class_ 4), (1, u "java/lang/Object"), (0, u "<init>"), (0, u "()V"), (0, .integer 2147483647), (0, .class_ 9), (0, u "com/example/wireproof/wireproof/value/BitStringValue"), (0, .methodref 8 11), (0, .nameAndType 5 12), (0, u "([BI)V"), (0, .methodref 8 14), (0, .nameAndType 15 16), (0, u "bit"), (0, u "(I)Z"), (0, .class_ 18), (0, u "com/example/wireproof/wireproof/value/BitStringValueBitPinLaw"), (2, u "law"), (0, u "(IIIII)Z")] 5

def k1m0 : Method := { name := "<init>", desc := "()V", sig := { parameters := [], returnType := none }, accessFlags := 1, code := none }
def k1c1 : Code := { maxStack := 4, maxLocals := 15, code := code, exceptionTable := #[], attributes := #[] }
def k1m1 : Method := { name := "law", desc := "(IIIII)Z", sig := { parameters := [.int, .int, .int, .int, .int], returnType := some .boolean }, accessFlags := 9, code := some k1c1 }
/-- com/example/wireproof/wireproof/value/BitStringValueBitPinLaw -/
def k1 : Class := { plain "com/example/wireproof/wireproof/value/BitStringValueBitPinLaw" (some 0) with
  accessFlags := 49
  interfaces := #[]
  cf := some (fileOf pool1 17 #[] #[{ accessFlags := 1, nameIndex := 5, descriptorIndex := 6, attributes := #[] }, { accessFlags := 9, nameIndex := 21, descriptorIndex := 22, attributes := #[] }] 49 2 #[] #[])
  fields := #[]
  methods := #[k1m0, k1m1]
  instanceTypes := #[]
  staticTypes := #[]
  resolved := Array.replicate 28 none
  statics := none }

def pool2 : Array CpInfo := pool [(1, .methodref 2 3), (0, .class_ 4), (0, .nameAndType 5 6), (0, u "java/lang/Object"), (0, u "<init>"), (0, u "()V"), (0, .class_ 8), (0, u "java/lang/Record")] 13

def k2c0 : Code := { maxStack := 1, maxLocals := 1, code := jdk_30_method_1_code, exceptionTable := #[], attributes := #[] }
def k2m0 : Method := { name := "<init>", desc := "()V", sig := { parameters := [], returnType := none }, accessFlags := 4, code := some k2c0 }
/-- java/lang/Record -/
def k2 : Class := { plain "java/lang/Record" (some 0) with
  accessFlags := 1057
  interfaces := #[]
  cf := some (fileOf pool2 7 #[] #[{ accessFlags := 4, nameIndex := 5, descriptorIndex := 6, attributes := #[] }] 1057 2 #[] #[])
  fields := #[]
  methods := #[k2m0]
  instanceTypes := #[]
  staticTypes := #[]
  resolved := Array.replicate 22 none
  statics := none }

def pool3 : Array CpInfo := pool [(1, .class_ 2), (0, u "com/example/wireproof/wireproof/value/Value"), (0, .class_ 4), (0, u "java/lang/Object")] 27

/-- com/example/wireproof/wireproof/value/Value -/
def k3 : Class := { plain "com/example/wireproof/wireproof/value/Value" (some 0) with
  accessFlags := 1537
  interfaces := #[]
  cf := some (fileOf pool3 1 #[] #[] 1537 3 #[] #[])
  fields := #[]
  methods := #[]
  instanceTypes := #[]
  staticTypes := #[]
  resolved := Array.replicate 32 none
  statics := none }

def pool4 : Array CpInfo := pool [(1, .methodref 2 3), (0, .class_ 4), (0, .nameAndType 5 6), (0, u "java/lang/Record"), (0, u "<init>"), (0, u "()V"), (9, .methodref 17 18), (0, .class_ 19), (0, .nameAndType 20 21), (0, u "com/example/wireproof/wireproof/value/BitStringValue"), (0, u "octetsFor"), (0, u "(I)I"), (3, .methodref 26 27), (0, .class_ 28), (0, .nameAndType 29 30), (0, u "[B"), (0, u "clone"), (0, u "()Ljava/lang/Object;"), (2, .fieldref 17 34), (0, .nameAndType 35 28), (0, u "octets"), (0, .fieldref 17 37), (0, .nameAndType 38 39), (0, u "length"), (0, u "I"), (23, .class_ 64), (0, u "com/example/wireproof/wireproof/value/Value"), (0, u "([BI)V"), (5, u "bit"), (0, u "(I)Z")] 26

def k4c0 : Code := { maxStack := 5, maxLocals := 4, code := prog_150_method_1_code, exceptionTable := #[], attributes := #[] }
def k4m0 : Method := { name := "<init>", desc := "([BI)V", sig := { parameters := [(.array .byte), .int], returnType := none }, accessFlags := 1, code := some k4c0 }
def k4c1 : Code := { maxStack := 3, maxLocals := 1, code := prog_150_method_2_code, exceptionTable := #[], attributes := #[] }
def k4m1 : Method := { name := "octetsFor", desc := "(I)I", sig := { parameters := [.int], returnType := some .int }, accessFlags := 9, code := some k4c1 }
def k4c2 : Code := { maxStack := 4, maxLocals := 2, code := prog_150_method_4_code, exceptionTable := #[], attributes := #[] }
def k4m2 : Method := { name := "bit", desc := "(I)Z", sig := { parameters := [.int], returnType := some .boolean }, accessFlags := 1, code := some k4c2 }
/-- com/example/wireproof/wireproof/value/BitStringValue -/
def k4 : Class := { plain "com/example/wireproof/wireproof/value/BitStringValue" (some 2) with
  accessFlags := 49
  interfaces := #[3]
  cf := some (fileOf pool4 17 #[] #[{ accessFlags := 1, nameIndex := 5, descriptorIndex := 65, attributes := #[] }, { accessFlags := 9, nameIndex := 20, descriptorIndex := 21, attributes := #[] }, { accessFlags := 1, nameIndex := 71, descriptorIndex := 72, attributes := #[] }] 49 2 #[63] #[{ accessFlags := 18, nameIndex := 35, descriptorIndex := 28, attributes := #[] }, { accessFlags := 18, nameIndex := 38, descriptorIndex := 39, attributes := #[] }])
  fields := #[{ name := "octets", type := (.array .byte), accessFlags := 18, slot := 0, constantValue := 0 }, { name := "length", type := .int, accessFlags := 18, slot := 1, constantValue := 0 }]
  methods := #[k4m0, k4m1, k4m2]
  instanceTypes := #[(.array .byte), .int]
  staticTypes := #[]
  resolved := Array.replicate 99 none
  statics := none }

def pool5 : Array CpInfo := pool [(1, .class_ 2), (0, u "java/lang/Cloneable"), (0, .class_ 4), (0, u "java/lang/Object")] 2

/-- java/lang/Cloneable -/
def k5 : Class := { plain "java/lang/Cloneable" (some 0) with
  accessFlags := 1537
  interfaces := #[]
  cf := some (fileOf pool5 1 #[] #[] 1537 3 #[] #[])
  fields := #[]
  methods := #[]
  instanceTypes := #[]
  staticTypes := #[]
  resolved := Array.replicate 7 none
  statics := none }

def pool6 : Array CpInfo := pool [(1, u "java/io/Serializable"), (0, .class_ 1), (0, u "java/lang/Object"), (0, .class_ 3)] 3

/-- java/io/Serializable -/
def k6 : Class := { plain "java/io/Serializable" (some 0) with
  accessFlags := 1537
  interfaces := #[]
  cf := some (fileOf pool6 2 #[] #[] 1537 4 #[] #[])
  fields := #[]
  methods := #[]
  instanceTypes := #[]
  staticTypes := #[]
  resolved := Array.replicate 8 none
  statics := none }

/-- the primitive byte -/
def k7 : Class := { plain "byte" none with kind := .primitive 'B', accessFlags := 0x411 }
/-- [B -/
def k8 : Class := { plain "[B" (some 0) with kind := .array 7 .byte, interfaces := #[5, 6], accessFlags := 1041 }

/-- the primitive int -/
def k9 : Class := { plain "int" none with kind := .primitive 'I', accessFlags := 0x411 }
/-- [I -/
def k10 : Class := { plain "[I" (some 0) with kind := .array 9 .int, interfaces := #[5, 6], accessFlags := 1041 }

def heap : Heap := #[]
def classes : Array Class := #[k0, k1, k2, k3, k4, k5, k6, k7, k8, k9, k10]
def interned : List (Array UInt16 × Addr) := []
def slotsUsed : Nat := 0
def theMethod : MethodId := ⟨1, 1⟩
def args0 : Array Value := #[.int 200, .int 3, .int 250, .int 5, .int 9]
def aboutOver (below : List Frame) : State where
  vm := { classes := classes, interned := interned.toArray }
  heap := heap
  slotsUsed := slotsUsed
  threads := #[{ frames := .invoking theMethod args0 :: below }]
def below0 : List Frame := [.native { method := ⟨0, 0⟩, args := #[] }]
def about1 : State := aboutOver below0
def p0 : Program := .bare "" "" ""
def e0 : Env := launch0.env 0 0 0
theorem w_frames : about1.frames = Frame.invoking theMethod args0 :: below0 := rfl
set_option maxRecDepth 65536 in
theorem w_args : argsFit about1.vm theMethod args0 = true := by decide +kernel
set_option maxRecDepth 65536 in
theorem w_heap : heapFits about1 = true := by decide +kernel
set_option maxRecDepth 65536 in
theorem w_runnable : about1.curStatus? = some .runnable := by decide +kernel
set_option maxRecDepth 65536 in
theorem w_alone : about1.alone = true := by decide +kernel
set_option maxRecDepth 65536 in
theorem w_named : about1.methodNamed? x = some theMethod := by decide +kernel
set_option maxRecDepth 65536 in
theorem w_hears : about1.hears theMethod below0 = true := by decide +kernel
set_option maxRecDepth 65536 in
theorem w_ripe : about1.ripe theMethod args0 below0 = true := by decide +kernel
theorem w_running : about1.status = .running := rfl
set_option maxRecDepth 65536 in
theorem w_room : about1.hasRoom e0.platform room_1 = true :=
  launch0.hasRoom_least _ room_1 (by decide +kernel) (by decide +kernel) (by decide +kernel) (by decide +kernel) (by decide +kernel) (by decide +kernel)
theorem allAtoms_all (ts : List Jvm.Cond) (a : Array Jvm.Value) (st : Jvm.State) : (allAtoms ts).before a st = ts.all (fun c => c.before a st) := by
  induction ts with
  | nil => rfl
  | cons c t ih =>
    show (Jvm.Cond.and c (allAtoms t)).before a st = _
    rw [Jvm.Cond.before_and, ih, List.all_cons]
def words1 : List Jvm.Cond := Jvm.Cond.code x code maxLocals ret :: tables_1
/-- a 'code' word, met by the world's own term for the bytes: nothing is compared byte by byte -/
theorem code_word {y : MethodName} {bytes : ByteArray} {mx : Nat} {rt : Option FieldType} {a : Array Value} {s : State} {m : MethodId} {meth : Method} {c : Code} (h1 : s.methodNamed? y = some m) (h2 : s.vm.method? m = some meth) (h3 : meth.code = some c) (h4 : c.code = bytes)
    (h5 : (c.maxLocals == mx && c.exceptionTable.isEmpty && decide (c.maxStack ≤ mostOperands) && decide (meth.sig.returnType = rt) && !meth.locks && decide (parseMethodDescriptor y.desc = some meth.sig)) = true) : (Jvm.Cond.code y bytes mx rt).before a s = true := by
  simp only [Bool.and_eq_true, beq_iff_eq, Bool.not_eq_true', decide_eq_true_eq] at h5
  obtain ⟨⟨⟨⟨⟨g1, g2⟩, g3⟩, g4⟩, g5⟩, g6⟩ := h5
  simp [Cond.before, Cond.holds, Cond.value, h1, h2, h3, h4, g1, g2, g3, g4, g5, g6]
def isCode : Jvm.Cond → Bool
  | .code _ _ _ _ => true
  | _ => false
theorem all_split {L : List Jvm.Cond} {P : Jvm.Cond → Bool} (h1 : L.all (fun c => isCode c || P c) = true) (h2 : ∀ c ∈ L.filter isCode, P c = true) : L.all P = true := by
  refine List.all_eq_true.mpr fun c hc => ?_
  have h := List.all_eq_true.mp h1 c hc
  rcases Bool.eq_false_or_eq_true (isCode c) with hi | hi
  · exact h2 c (List.mem_filter.mpr ⟨hc, hi⟩)
  · simpa [hi] using h
set_option maxRecDepth 65536 in
theorem w_c0 : (Jvm.Cond.code x code maxLocals ret).before args0 about1 = true := code_word (m := ⟨1, 1⟩) (meth := k1m1) (c := k1c1) (by decide +kernel) rfl rfl rfl (by decide +kernel)
set_option maxRecDepth 65536 in
theorem w_c1 : (Jvm.Cond.code ({ cls := "com/example/wireproof/wireproof/value/BitStringValue", name := "<init>", desc := "([BI)V" } : Jvm.MethodName) prog_150_method_1_code (4 : Nat) (Option.none : Option Jvm.ClassFile.FieldType)).before args0 about1 = true := code_word (m := ⟨4, 0⟩) (meth := k4m0) (c := k4c0) (by decide +kernel) rfl rfl rfl (by decide +kernel)
set_option maxRecDepth 65536 in
theorem w_c2 : (Jvm.Cond.code ({ cls := "java/lang/Record", name := "<init>", desc := "()V" } : Jvm.MethodName) jdk_30_method_1_code (1 : Nat) (Option.none : Option Jvm.ClassFile.FieldType)).before args0 about1 = true := code_word (m := ⟨2, 0⟩) (meth := k2m0) (c := k2c0) (by decide +kernel) rfl rfl rfl (by decide +kernel)
set_option maxRecDepth 65536 in
theorem w_c3 : (Jvm.Cond.code ({ cls := "java/lang/Object", name := "<init>", desc := "()V" } : Jvm.MethodName) object_method_1_code (1 : Nat) (Option.none : Option Jvm.ClassFile.FieldType)).before args0 about1 = true := code_word (m := ⟨0, 0⟩) (meth := k0m0) (c := k0c0) (by decide +kernel) rfl rfl rfl (by decide +kernel)
set_option maxRecDepth 65536 in
theorem w_c4 : (Jvm.Cond.code ({ cls := "com/example/wireproof/wireproof/value/BitStringValue", name := "octetsFor", desc := "(I)I" } : Jvm.MethodName) prog_150_method_2_code (1 : Nat) (Option.some Jvm.ClassFile.FieldType.int)).before args0 about1 = true := code_word (m := ⟨4, 1⟩) (meth := k4m1) (c := k4c1) (by decide +kernel) rfl rfl rfl (by decide +kernel)
set_option maxRecDepth 65536 in
theorem w_c5 : (Jvm.Cond.code ({ cls := "com/example/wireproof/wireproof/value/BitStringValue", name := "bit", desc := "(I)Z" } : Jvm.MethodName) prog_150_method_4_code (2 : Nat) (Option.some Jvm.ClassFile.FieldType.boolean)).before args0 about1 = true := code_word (m := ⟨4, 2⟩) (meth := k4m2) (c := k4c2) (by decide +kernel) rfl rfl rfl (by decide +kernel)
def codes1 : List Jvm.Cond := [Jvm.Cond.code x code maxLocals ret, Jvm.Cond.code ({ cls := "com/example/wireproof/wireproof/value/BitStringValue", name := "<init>", desc := "([BI)V" } : Jvm.MethodName) prog_150_method_1_code (4 : Nat) (Option.none : Option Jvm.ClassFile.FieldType), Jvm.Cond.code ({ cls := "java/lang/Record", name := "<init>", desc := "()V" } : Jvm.MethodName) jdk_30_method_1_code (1 : Nat) (Option.none : Option Jvm.ClassFile.FieldType), Jvm.Cond.code ({ cls := "java/lang/Object", name := "<init>", desc := "()V" } : Jvm.MethodName) object_method_1_code (1 : Nat) (Option.none : Option Jvm.ClassFile.FieldType), Jvm.Cond.code ({ cls := "com/example/wireproof/wireproof/value/BitStringValue", name := "octetsFor", desc := "(I)I" } : Jvm.MethodName) prog_150_method_2_code (1 : Nat) (Option.some Jvm.ClassFile.FieldType.int), Jvm.Cond.code ({ cls := "com/example/wireproof/wireproof/value/BitStringValue", name := "bit", desc := "(I)Z" } : Jvm.MethodName) prog_150_method_4_code (2 : Nat) (Option.some Jvm.ClassFile.FieldType.boolean)]
set_option maxRecDepth 65536 in
theorem codes_eq : words1.filter isCode = codes1 := rfl
theorem w_codes : ∀ c ∈ words1.filter isCode, c.before args0 about1 = true := by
  rw [codes_eq]
  intro c hc
  simp only [codes1, List.mem_cons, List.not_mem_nil, or_false] at hc
  rcases hc with rfl | rfl | rfl | rfl | rfl | rfl
  · exact w_c0
  · exact w_c1
  · exact w_c2
  · exact w_c3
  · exact w_c4
  · exact w_c5
set_option maxRecDepth 65536 in
theorem w_t1 : (words1.take 24).all (fun c => isCode c || c.before args0 about1) = true := by decide +kernel
set_option maxRecDepth 65536 in
theorem w_t2 : (words1.drop 24).all (fun c => isCode c || c.before args0 about1) = true := by decide +kernel
theorem w_tables : (allAtoms (Jvm.Cond.code x code maxLocals ret :: tables_1)).before args0 about1 = true := by
  rw [allAtoms_all]
  show words1.all (fun c => c.before args0 about1) = true
  refine all_split ?_ w_codes
  rw [← List.take_append_drop 24 words1, List.all_append, w_t1, w_t2]
  rfl
set_option maxRecDepth 65536 in
theorem w_case : (Jvm.Cond.and given_1 narrow_1).before args0 about1 = true := by decide +kernel
theorem w_applies : (headSpec (Jvm.Cond.code x code maxLocals ret :: tables_1) room_1).applies x e0.platform about1 = true :=
  (Spec.applies_iff w_frames).mpr ⟨w_running, w_runnable, w_alone, w_named, w_hears, w_ripe, w_room, w_tables⟩
theorem atStart : AtStart classFile x code maxLocals ret World_1 tables_1 room_1 Calls_1 rest_1 Pre_1 launch0 p0 e0 about1 theMethod args0 below0 :=
  ⟨lists_1, trivial, launch0.admits_env _ _ _, launch0.least_env, fairChoices_fair.cas, fairChoices_fair.clock, w_frames, w_args, w_heap, w_applies, trivial, trivial, w_case⟩
end start1
theorem witness_1 : WitnessClaimed_1 := ⟨start1.p0, start1.e0, start1.about1, start1.theMethod, start1.args0, start1.below0, start1.atStart⟩
end Jvm.Pilot.@@N@@
