import JvmDerived
import JvmDerived.Pilot.@@N@@Statement
import JvmDerived.Pilot.@@N@@Code
set_option linter.unusedVariables false
set_option linter.unusedSimpArgs false
namespace Jvm.RoadKit
open Sem ClassFile Op Lib Jvm.Stand Jvm.Free Jvm.LawKit
section New
variable {p : Program} {l : Launch} {e : Env} {R : Room} {s : State} {m : MethodId} {args : Array Value} {below : List Frame} {meth : Method} {c : Code} {T : State} {locs : List Loc} {cells slots : Nat}
theorem retI (X : Stand p l e R s m args below meth c T locs cells slots) (hx : p.tables.exec = Jvm.exec) {pc : Nat} {Ls : Array Slot} {z : Int32} {rest : List Value} (hret : meth.sig.returnType = some .int) (hd : decode c.code pc = .ok (.ireturn, 1)) {fs : List Frame}
    (hl : ∀ (f : JFrame) (acts : List Action), f.method = m → f.locked = none → f.entered = [] → (doReturn e (T.setTop f) acts (some (.int z))).1 = T.setFrames fs) : Steps p.tables e below (T.setTop (mkF m pc Ls (.int z :: rest))) (T.setFrames fs) := by
  have hm' : T.vm.method? m = some meth := X.method'
  have hn : narrow .int (.int z) = .int z := rfl
  show Steps p.tables e below (T.setTop { method := m, pc := pc, locals := Ls, stack := _ :: rest, locked := none }) _
  jvm_step X.here [X.here.top, hx, hd, hm', hret, hn]
  first | (intro acts; rw [hl _ acts rfl rfl rfl]) | rw [hl _ _ rfl rfl rfl]
  exact Steps.refl _
end New
end Jvm.RoadKit
namespace Jvm.Pilot.@@N@@
open Jvm Jvm.ClassFile Sem Op Lib Jvm.Free Jvm.Stand Jvm.LawKit Jvm.RoadKit Bundle Jvm.Pilot.@@N@@.Jvm.D
section OwnKit
variable {Z : State} {a0 : Array Value} {n0 : Nat} {p : Program} {l : Launch} {e : Env} {R : Room} {s : State} {m : MethodId} {args : Array Value} {below : List Frame} {meth : Method} {c : Code} {code : ByteArray} {ml : Nat} {ret : Option FieldType} {y : MethodName} {T : State} {h h' : Heap} {k j : Nat} {Q : Option Value → Heap → Prop} {pc nx tgt : Nat} {Ls : Array Slot} {S : List Value}
/-- Java's shifts -/
abbrev jshl (x q : Int32) : Int32 := x <<< (q &&& 31)
abbrev jshr (x q : Int32) : Int32 := x >>> (q &&& 31)
abbrev jushr (x q : Int32) : Int32 := (x.toUInt32 >>> (q &&& 31).toUInt32).toInt32
abbrev jshlL (x : Int64) (q : Int32) : Int64 := x <<< (q &&& 0x3f).toInt64
abbrev jshrL (x : Int64) (q : Int32) : Int64 := x >>> (q &&& 0x3f).toInt64
abbrev jushrL (x : Int64) (q : Int32) : Int64 := (x.toUInt64 >>> (q &&& 0x3f).toInt64.toUInt64).toInt64
abbrev jbyte (x : Int32) : Int32 := x.toInt8.toInt32
/-- the instruction at pc, and the pc behind it -/
def Dec (code : ByteArray) (pc : Nat) (i : Instr) (len nx : Nat) : Prop := decode code pc = .ok (i, len) ∧ nx = pc + len
/-- a jump at pc: the pc behind it, and where it goes -/
def Jmp (code : ByteArray) (pc : Nat) (i : Instr) (o : Int) (nx tgt : Nat) : Prop := decode code pc = .ok (i, 3) ∧ nx = pc + 3 ∧ 0 ≤ (pc : Int) + o ∧ ((pc : Int) + o).toNat = tgt
/-- where a body's run stands: the heap, the cells and slots made; nothing older than n0 was written -/
def Pos (Z : State) (a0 : Array Value) (n0 : Nat) (p : Program) (l : Launch) (e : Env) (R : Room) (s : State) (m : MethodId) (args : Array Value) (below : List Frame) (meth : Method) (c : Code) (code : ByteArray) (ml : Nat) (ret : Option FieldType) (y : MethodName) (T : State) (h : Heap) (k j : Nat) : Prop :=
  p.tables.exec = Jvm.exec ∧ Z.Warmed39 s.vm ∧ c.code = code ∧ c.maxLocals = ml ∧ meth.sig.returnType = ret ∧ s.vm.findClass y.cls = some m.cls ∧ meth.name = y.name ∧ meth.locks = false ∧ T.heap = h ∧ n0 ≤ h.size ∧ (∀ d ∈ tables_1, d.before a0 Z = true) ∧ ∃ locs, Fr n0 locs ∧ Stand p l e R s m args below meth c T locs k j
/-- from the frame f over T the body comes to its end, and Q says with what -/
def Wp (n0 : Nat) (p : Program) (e : Env) (R : Room) (s : State) (below : List Frame) (Q : Option Value → Heap → Prop) (T : State) (f : JFrame) : Prop :=
  ∃ t o, Steps p.tables e below (T.setTop f) t ∧ t.status = .running ∧ Ended t below o ∧ ∃ v L, o = .returned v ∧ (Fr n0 L ∧ n0 ≤ t.heap.size ∧ Q v t.heap) ∧ FrameEnd s o t L R.cells R.slots
/-- a body's contract at one array of arguments and one heap -/
def Ctr (l : Launch) (Z : State) (n0 : Nat) (y : MethodName) (code : ByteArray) (ml : Nat) (ret : Option FieldType) (R : Room) (ws : List Jvm.Cond) (as : Array Value) (h : Heap) (Q : Option Value → Heap → Prop) : Prop :=
  MetFree l y (head1 (Jvm.Cond.code y code ml ret :: ws) R) (fun a U => a = as ∧ Z.Warmed39 U.vm ∧ U.heap = h) (fun _ _ _ _ _ => True) (fun _ U o U' => ∃ v L, o = .returned v ∧ (Fr n0 L ∧ n0 ≤ U'.heap.size ∧ Q v U'.heap) ∧ FrameEnd U o U' L R.cells R.slots)
/-- an array of n places: place i holds g i; it is no older than n0 -/
def Ba (Z : State) (n0 : Nat) (h : Heap) (a : Addr) (ty : FieldType) (n : Nat) (g : Nat → Value) : Prop :=
  n0 ≤ a ∧ n < 2147483648 ∧ ∃ c : Cell, Arr Z h a c ty ∧ c.slots.size = n ∧ ∀ i, i < n → c.slots[i]? = some (g i)
def bI (b : Nat → Int32) : Nat → Value := fun i => .int (b i)
def bJ (b : Nat → Int64) : Nat → Value := fun i => .long (b i)
def upd {α : Type} (b : Nat → α) (i : Nat) (v : α) : Nat → α := fun q => if q = i then v else b q
theorem upd_at {α : Type} (b : Nat → α) (i : Nat) (v : α) : upd b i v i = v := if_pos rfl
theorem upd_ne {α : Type} (b : Nat → α) {i q : Nat} (v : α) (h : q ≠ i) : upd b i v q = b q := if_neg h
theorem Ba.lt {a : Addr} {ty : FieldType} {n : Nat} {g : Nat → Value} (B : Ba Z n0 h a ty n g) : a < h.size := by obtain ⟨-, -, c, A, -⟩ := B; exact A.lt
theorem Ba.ext {a : Addr} {ty : FieldType} {n : Nat} {g : Nat → Value} (B : Ba Z n0 h a ty n g) (E : Ext h h') : Ba Z n0 h' a ty n g := by obtain ⟨q1, q2, c, A, r⟩ := B; exact ⟨q1, q2, c, A.ext E, r⟩
theorem Ba.keep {a : Addr} {ty : FieldType} {n : Nat} {g : Nat → Value} {ws : List Addr} (B : Ba Z n0 h a ty n g) (K : Keep h h' ws) (q : a ∉ ws) : Ba Z n0 h' a ty n g := by obtain ⟨q1, q2, c, A, r⟩ := B; exact ⟨q1, q2, c, ⟨K.2.1 a c A.1 q, A.2⟩, r⟩
theorem Ba.congr {a : Addr} {ty : FieldType} {n : Nat} {g g' : Nat → Value} (B : Ba Z n0 h a ty n g) (q : ∀ i, i < n → g i = g' i) : Ba Z n0 h a ty n g' := by obtain ⟨q1, q2, c, A, r1, r2⟩ := B; exact ⟨q1, q2, c, A, r1, fun i hi => by rw [r2 i hi, q i hi]⟩
theorem ofNat_toInt {n : Nat} (h : n < 2147483648) : (Int32.ofNat n).toInt = n := Int32.toInt_ofNat_of_lt (by omega)
theorem ofNat_clamp {n : Nat} (h : n < 2147483648) : (Int32.ofNat n).toNatClampNeg = n := by rw [Int32.toNatClampNeg, ofNat_toInt h]; rfl
theorem ofNat_nn {n : Nat} (h : n < 2147483648) : ¬ Int32.ofNat n < 0 := by rw [Int32.lt_iff_toInt_lt, ofNat_toInt h, show (0 : Int32).toInt = 0 from rfl]; omega
theorem ofNat_lt {a b : Nat} (ha : a < 2147483648) (hb : b < 2147483648) : Int32.ofNat a < Int32.ofNat b ↔ a < b := by rw [Int32.lt_iff_toInt_lt, ofNat_toInt ha, ofNat_toInt hb]; omega
theorem eq_ofNat {x : Int32} {n : Nat} (hn : n < 2147483648) (h : x.toInt = n) : x = Int32.ofNat n := Int32.toInt_inj.mp (by rw [h, ofNat_toInt hn])
theorem inb {c : Cell} {n i : Nat} (hn : n < 2147483648) (hc : c.slots.size = n) (hi : i < n) : ¬ (Int32.ofNat i < 0 ∨ c.slots.size ≤ (Int32.ofNat i).toNatClampNeg) := by
  rw [hc, ofNat_clamp (by omega)]
  exact fun q => q.elim (ofNat_nn (by omega)) (fun q => by omega)
theorem Pos.sz (X : Pos Z a0 n0 p l e R s m args below meth c code ml ret y T h k j) : n0 ≤ h.size := X.2.2.2.2.2.2.2.2.2.1
theorem Wp.go {T' : State} {f f' : JFrame} (st : ∀ target, Steps p.tables e below (T'.setTop f') target → Steps p.tables e below (T.setTop f) target) (q : Wp n0 p e R s below Q T' f') : Wp n0 p e R s below Q T f := by
  obtain ⟨t, o, h1, r⟩ := q; exact ⟨t, o, st t h1, r⟩
theorem Wp.cast {f f' : JFrame} (q : f = f') (w : Wp n0 p e R s below Q T f') : Wp n0 p e R s below Q T f := q ▸ w
theorem ctr_of {ws : List Jvm.Cond} {as : Array Value} (hp : plainFor y = true) (hw : ∀ d ∈ tables_1, d.before a0 Z = true) (hn : n0 ≤ h.size)
    (body : ∀ p e s m below meth c T, Pos Z a0 n0 p l e R s m as below meth c code ml ret y T h 0 0 → Wp n0 p e R s below Q T (entryFrame m as ml)) : Ctr l Z n0 y code ml ret R ws as h Q := by
  refine MetFree.of_bodySF hp hisR ?_
  intro p e s m args below meth c s₁ Bd hml0 hP hK
  obtain ⟨rfl, hZ, hh⟩ := hP
  exact body p e s m below meth c s₁ ⟨Bd.exec, hZ, Bd.bytes, hml0, Bd.returns, findClass_of_methodNamed Bd.named, (name_of_methodNamed Bd.named Bd.method).1, Bd.notSynchronized, by rw [← hh, Bd.state]; rfl, hn, hw, [], Fr.nil _, Stand.of_body Bd⟩
theorem w_iadd (X : Pos Z a0 n0 p l e R s m args below meth c code ml ret y T h k j) {x z : Int32} (hd : Dec code pc .iadd 1 nx) (q : Wp n0 p e R s below Q T (mkF m nx Ls (.int (x + z) :: S))) : Wp n0 p e R s below Q T (mkF m pc Ls (.int z :: .int x :: S)) := by
  obtain ⟨hx, hZ, hby, hml, hret, hown, hnm, hlk, eT, hn0, hw, locs, N, Y⟩ := X
  obtain ⟨hd, rfl⟩ := hd
  exact Wp.go (fun _ q => XS.iadd Y.here hx rfl (hb hby hd) rfl q) q
theorem w_isub (X : Pos Z a0 n0 p l e R s m args below meth c code ml ret y T h k j) {x z : Int32} (hd : Dec code pc .isub 1 nx) (q : Wp n0 p e R s below Q T (mkF m nx Ls (.int (x - z) :: S))) : Wp n0 p e R s below Q T (mkF m pc Ls (.int z :: .int x :: S)) := by
  obtain ⟨hx, hZ, hby, hml, hret, hown, hnm, hlk, eT, hn0, hw, locs, N, Y⟩ := X
  obtain ⟨hd, rfl⟩ := hd
  exact Wp.go (fun _ q => XS.isub Y.here hx rfl (hb hby hd) rfl q) q
theorem w_imul (X : Pos Z a0 n0 p l e R s m args below meth c code ml ret y T h k j) {x z : Int32} (hd : Dec code pc .imul 1 nx) (q : Wp n0 p e R s below Q T (mkF m nx Ls (.int (x * z) :: S))) : Wp n0 p e R s below Q T (mkF m pc Ls (.int z :: .int x :: S)) := by
  obtain ⟨hx, hZ, hby, hml, hret, hown, hnm, hlk, eT, hn0, hw, locs, N, Y⟩ := X
  obtain ⟨hd, rfl⟩ := hd
  exact Wp.go (fun _ q => XS.imul Y.here hx rfl (hb hby hd) rfl q) q
theorem w_iand (X : Pos Z a0 n0 p l e R s m args below meth c code ml ret y T h k j) {x z : Int32} (hd : Dec code pc .iand 1 nx) (q : Wp n0 p e R s below Q T (mkF m nx Ls (.int (x &&& z) :: S))) : Wp n0 p e R s below Q T (mkF m pc Ls (.int z :: .int x :: S)) := by
  obtain ⟨hx, hZ, hby, hml, hret, hown, hnm, hlk, eT, hn0, hw, locs, N, Y⟩ := X
  obtain ⟨hd, rfl⟩ := hd
  exact Wp.go (fun _ q => XS.iand Y.here hx rfl (hb hby hd) rfl q) q
theorem w_ior (X : Pos Z a0 n0 p l e R s m args below meth c code ml ret y T h k j) {x z : Int32} (hd : Dec code pc .ior 1 nx) (q : Wp n0 p e R s below Q T (mkF m nx Ls (.int (x ||| z) :: S))) : Wp n0 p e R s below Q T (mkF m pc Ls (.int z :: .int x :: S)) := by
  obtain ⟨hx, hZ, hby, hml, hret, hown, hnm, hlk, eT, hn0, hw, locs, N, Y⟩ := X
  obtain ⟨hd, rfl⟩ := hd
  exact Wp.go (fun _ q => XS.ior Y.here hx rfl (hb hby hd) rfl q) q
theorem w_ixor (X : Pos Z a0 n0 p l e R s m args below meth c code ml ret y T h k j) {x z : Int32} (hd : Dec code pc .ixor 1 nx) (q : Wp n0 p e R s below Q T (mkF m nx Ls (.int (x ^^^ z) :: S))) : Wp n0 p e R s below Q T (mkF m pc Ls (.int z :: .int x :: S)) := by
  obtain ⟨hx, hZ, hby, hml, hret, hown, hnm, hlk, eT, hn0, hw, locs, N, Y⟩ := X
  obtain ⟨hd, rfl⟩ := hd
  exact Wp.go (fun _ q => XS.ixor Y.here hx rfl (hb hby hd) rfl q) q
theorem w_ishl (X : Pos Z a0 n0 p l e R s m args below meth c code ml ret y T h k j) {x z : Int32} (hd : Dec code pc .ishl 1 nx) (q : Wp n0 p e R s below Q T (mkF m nx Ls (.int (jshl x z) :: S))) : Wp n0 p e R s below Q T (mkF m pc Ls (.int z :: .int x :: S)) := by
  obtain ⟨hx, hZ, hby, hml, hret, hown, hnm, hlk, eT, hn0, hw, locs, N, Y⟩ := X
  obtain ⟨hd, rfl⟩ := hd
  exact Wp.go (fun _ q => XS.ishl Y.here hx rfl (hb hby hd) rfl q) q
theorem w_ishr (X : Pos Z a0 n0 p l e R s m args below meth c code ml ret y T h k j) {x z : Int32} (hd : Dec code pc .ishr 1 nx) (q : Wp n0 p e R s below Q T (mkF m nx Ls (.int (jshr x z) :: S))) : Wp n0 p e R s below Q T (mkF m pc Ls (.int z :: .int x :: S)) := by
  obtain ⟨hx, hZ, hby, hml, hret, hown, hnm, hlk, eT, hn0, hw, locs, N, Y⟩ := X
  obtain ⟨hd, rfl⟩ := hd
  exact Wp.go (fun _ q => XS.ishr Y.here hx rfl (hb hby hd) rfl q) q
theorem w_iushr (X : Pos Z a0 n0 p l e R s m args below meth c code ml ret y T h k j) {x z : Int32} (hd : Dec code pc .iushr 1 nx) (q : Wp n0 p e R s below Q T (mkF m nx Ls (.int (jushr x z) :: S))) : Wp n0 p e R s below Q T (mkF m pc Ls (.int z :: .int x :: S)) := by
  obtain ⟨hx, hZ, hby, hml, hret, hown, hnm, hlk, eT, hn0, hw, locs, N, Y⟩ := X
  obtain ⟨hd, rfl⟩ := hd
  exact Wp.go (fun _ q => XS.iushr Y.here hx rfl (hb hby hd) rfl q) q
theorem w_ladd (X : Pos Z a0 n0 p l e R s m args below meth c code ml ret y T h k j) {x z : Int64} (hd : Dec code pc .ladd 1 nx) (q : Wp n0 p e R s below Q T (mkF m nx Ls (.long (x + z) :: S))) : Wp n0 p e R s below Q T (mkF m pc Ls (.long z :: .long x :: S)) := by
  obtain ⟨hx, hZ, hby, hml, hret, hown, hnm, hlk, eT, hn0, hw, locs, N, Y⟩ := X
  obtain ⟨hd, rfl⟩ := hd
  exact Wp.go (fun _ q => XS.ladd Y.here hx rfl (hb hby hd) rfl q) q
theorem w_lsub (X : Pos Z a0 n0 p l e R s m args below meth c code ml ret y T h k j) {x z : Int64} (hd : Dec code pc .lsub 1 nx) (q : Wp n0 p e R s below Q T (mkF m nx Ls (.long (x - z) :: S))) : Wp n0 p e R s below Q T (mkF m pc Ls (.long z :: .long x :: S)) := by
  obtain ⟨hx, hZ, hby, hml, hret, hown, hnm, hlk, eT, hn0, hw, locs, N, Y⟩ := X
  obtain ⟨hd, rfl⟩ := hd
  exact Wp.go (fun _ q => XS.lsub Y.here hx rfl (hb hby hd) rfl q) q
theorem w_lmul (X : Pos Z a0 n0 p l e R s m args below meth c code ml ret y T h k j) {x z : Int64} (hd : Dec code pc .lmul 1 nx) (q : Wp n0 p e R s below Q T (mkF m nx Ls (.long (x * z) :: S))) : Wp n0 p e R s below Q T (mkF m pc Ls (.long z :: .long x :: S)) := by
  obtain ⟨hx, hZ, hby, hml, hret, hown, hnm, hlk, eT, hn0, hw, locs, N, Y⟩ := X
  obtain ⟨hd, rfl⟩ := hd
  exact Wp.go (fun _ q => XS.lmul Y.here hx rfl (hb hby hd) rfl q) q
theorem w_land (X : Pos Z a0 n0 p l e R s m args below meth c code ml ret y T h k j) {x z : Int64} (hd : Dec code pc .land 1 nx) (q : Wp n0 p e R s below Q T (mkF m nx Ls (.long (x &&& z) :: S))) : Wp n0 p e R s below Q T (mkF m pc Ls (.long z :: .long x :: S)) := by
  obtain ⟨hx, hZ, hby, hml, hret, hown, hnm, hlk, eT, hn0, hw, locs, N, Y⟩ := X
  obtain ⟨hd, rfl⟩ := hd
  exact Wp.go (fun _ q => XS.land Y.here hx rfl (hb hby hd) rfl q) q
theorem w_lor (X : Pos Z a0 n0 p l e R s m args below meth c code ml ret y T h k j) {x z : Int64} (hd : Dec code pc .lor 1 nx) (q : Wp n0 p e R s below Q T (mkF m nx Ls (.long (x ||| z) :: S))) : Wp n0 p e R s below Q T (mkF m pc Ls (.long z :: .long x :: S)) := by
  obtain ⟨hx, hZ, hby, hml, hret, hown, hnm, hlk, eT, hn0, hw, locs, N, Y⟩ := X
  obtain ⟨hd, rfl⟩ := hd
  exact Wp.go (fun _ q => XS.lor Y.here hx rfl (hb hby hd) rfl q) q
theorem w_lxor (X : Pos Z a0 n0 p l e R s m args below meth c code ml ret y T h k j) {x z : Int64} (hd : Dec code pc .lxor 1 nx) (q : Wp n0 p e R s below Q T (mkF m nx Ls (.long (x ^^^ z) :: S))) : Wp n0 p e R s below Q T (mkF m pc Ls (.long z :: .long x :: S)) := by
  obtain ⟨hx, hZ, hby, hml, hret, hown, hnm, hlk, eT, hn0, hw, locs, N, Y⟩ := X
  obtain ⟨hd, rfl⟩ := hd
  exact Wp.go (fun _ q => XS.lxor Y.here hx rfl (hb hby hd) rfl q) q
theorem w_lshl (X : Pos Z a0 n0 p l e R s m args below meth c code ml ret y T h k j) {x : Int64} {z : Int32} (hd : Dec code pc .lshl 1 nx) (q : Wp n0 p e R s below Q T (mkF m nx Ls (.long (jshlL x z) :: S))) : Wp n0 p e R s below Q T (mkF m pc Ls (.int z :: .long x :: S)) := by
  obtain ⟨hx, hZ, hby, hml, hret, hown, hnm, hlk, eT, hn0, hw, locs, N, Y⟩ := X
  obtain ⟨hd, rfl⟩ := hd
  exact Wp.go (fun _ q => XS.lshl Y.here hx rfl (hb hby hd) rfl q) q
theorem w_lshr (X : Pos Z a0 n0 p l e R s m args below meth c code ml ret y T h k j) {x : Int64} {z : Int32} (hd : Dec code pc .lshr 1 nx) (q : Wp n0 p e R s below Q T (mkF m nx Ls (.long (jshrL x z) :: S))) : Wp n0 p e R s below Q T (mkF m pc Ls (.int z :: .long x :: S)) := by
  obtain ⟨hx, hZ, hby, hml, hret, hown, hnm, hlk, eT, hn0, hw, locs, N, Y⟩ := X
  obtain ⟨hd, rfl⟩ := hd
  exact Wp.go (fun _ q => XS.lshr Y.here hx rfl (hb hby hd) rfl q) q
theorem w_lushr (X : Pos Z a0 n0 p l e R s m args below meth c code ml ret y T h k j) {x : Int64} {z : Int32} (hd : Dec code pc .lushr 1 nx) (q : Wp n0 p e R s below Q T (mkF m nx Ls (.long (jushrL x z) :: S))) : Wp n0 p e R s below Q T (mkF m pc Ls (.int z :: .long x :: S)) := by
  obtain ⟨hx, hZ, hby, hml, hret, hown, hnm, hlk, eT, hn0, hw, locs, N, Y⟩ := X
  obtain ⟨hd, rfl⟩ := hd
  exact Wp.go (fun _ q => XS.lushr Y.here hx rfl (hb hby hd) rfl q) q
theorem w_idiv (X : Pos Z a0 n0 p l e R s m args below meth c code ml ret y T h k j) {x z : Int32} (hd : Dec code pc .idiv 1 nx) (hz : z ≠ 0) (q : Wp n0 p e R s below Q T (mkF m nx Ls (.int (x / z) :: S))) : Wp n0 p e R s below Q T (mkF m pc Ls (.int z :: .int x :: S)) := by
  obtain ⟨hx, hZ, hby, hml, hret, hown, hnm, hlk, eT, hn0, hw, locs, N, Y⟩ := X
  obtain ⟨hd, rfl⟩ := hd
  exact Wp.go (fun _ q => XS.idiv Y.here hx rfl (hb hby hd) rfl hz q) q
theorem w_irem (X : Pos Z a0 n0 p l e R s m args below meth c code ml ret y T h k j) {x z : Int32} (hd : Dec code pc .irem 1 nx) (hz : z ≠ 0) (q : Wp n0 p e R s below Q T (mkF m nx Ls (.int (x % z) :: S))) : Wp n0 p e R s below Q T (mkF m pc Ls (.int z :: .int x :: S)) := by
  obtain ⟨hx, hZ, hby, hml, hret, hown, hnm, hlk, eT, hn0, hw, locs, N, Y⟩ := X
  obtain ⟨hd, rfl⟩ := hd
  exact Wp.go (fun _ q => iremM Y hx rfl (hb hby hd) rfl hz q) q
theorem w_ldiv (X : Pos Z a0 n0 p l e R s m args below meth c code ml ret y T h k j) {x z : Int64} (hd : Dec code pc .ldiv 1 nx) (hz : z ≠ 0) (q : Wp n0 p e R s below Q T (mkF m nx Ls (.long (x / z) :: S))) : Wp n0 p e R s below Q T (mkF m pc Ls (.long z :: .long x :: S)) := by
  obtain ⟨hx, hZ, hby, hml, hret, hown, hnm, hlk, eT, hn0, hw, locs, N, Y⟩ := X
  obtain ⟨hd, rfl⟩ := hd
  exact Wp.go (fun _ q => XS.ldiv Y.here hx rfl (hb hby hd) rfl hz q) q
theorem w_lrem (X : Pos Z a0 n0 p l e R s m args below meth c code ml ret y T h k j) {x z : Int64} (hd : Dec code pc .lrem 1 nx) (hz : z ≠ 0) (q : Wp n0 p e R s below Q T (mkF m nx Ls (.long (x - (x / z) * z) :: S))) : Wp n0 p e R s below Q T (mkF m pc Ls (.long z :: .long x :: S)) := by
  obtain ⟨hx, hZ, hby, hml, hret, hown, hnm, hlk, eT, hn0, hw, locs, N, Y⟩ := X
  obtain ⟨hd, rfl⟩ := hd
  exact Wp.go (fun _ q => XS.lrem Y.here hx rfl (hb hby hd) rfl hz q) q
theorem w_ineg (X : Pos Z a0 n0 p l e R s m args below meth c code ml ret y T h k j) {x : Int32} (hd : Dec code pc .ineg 1 nx) (q : Wp n0 p e R s below Q T (mkF m nx Ls (.int (-x) :: S))) : Wp n0 p e R s below Q T (mkF m pc Ls (.int x :: S)) := by
  obtain ⟨hx, hZ, hby, hml, hret, hown, hnm, hlk, eT, hn0, hw, locs, N, Y⟩ := X
  obtain ⟨hd, rfl⟩ := hd
  exact Wp.go (fun _ q => XS.ineg Y.here hx rfl (hb hby hd) rfl q) q
theorem w_lneg (X : Pos Z a0 n0 p l e R s m args below meth c code ml ret y T h k j) {x : Int64} (hd : Dec code pc .lneg 1 nx) (q : Wp n0 p e R s below Q T (mkF m nx Ls (.long (-x) :: S))) : Wp n0 p e R s below Q T (mkF m pc Ls (.long x :: S)) := by
  obtain ⟨hx, hZ, hby, hml, hret, hown, hnm, hlk, eT, hn0, hw, locs, N, Y⟩ := X
  obtain ⟨hd, rfl⟩ := hd
  exact Wp.go (fun _ q => XS.lneg Y.here hx rfl (hb hby hd) rfl q) q
theorem w_i2l (X : Pos Z a0 n0 p l e R s m args below meth c code ml ret y T h k j) {x : Int32} (hd : Dec code pc .i2l 1 nx) (q : Wp n0 p e R s below Q T (mkF m nx Ls (.long (x.toInt64) :: S))) : Wp n0 p e R s below Q T (mkF m pc Ls (.int x :: S)) := by
  obtain ⟨hx, hZ, hby, hml, hret, hown, hnm, hlk, eT, hn0, hw, locs, N, Y⟩ := X
  obtain ⟨hd, rfl⟩ := hd
  exact Wp.go (fun _ q => XS.i2l Y.here hx rfl (hb hby hd) rfl q) q
theorem w_l2i (X : Pos Z a0 n0 p l e R s m args below meth c code ml ret y T h k j) {x : Int64} (hd : Dec code pc .l2i 1 nx) (q : Wp n0 p e R s below Q T (mkF m nx Ls (.int (x.toInt32) :: S))) : Wp n0 p e R s below Q T (mkF m pc Ls (.long x :: S)) := by
  obtain ⟨hx, hZ, hby, hml, hret, hown, hnm, hlk, eT, hn0, hw, locs, N, Y⟩ := X
  obtain ⟨hd, rfl⟩ := hd
  exact Wp.go (fun _ q => XS.l2i Y.here hx rfl (hb hby hd) rfl q) q
theorem w_i2b (X : Pos Z a0 n0 p l e R s m args below meth c code ml ret y T h k j) {x : Int32} (hd : Dec code pc .i2b 1 nx) (q : Wp n0 p e R s below Q T (mkF m nx Ls (.int (jbyte x) :: S))) : Wp n0 p e R s below Q T (mkF m pc Ls (.int x :: S)) := by
  obtain ⟨hx, hZ, hby, hml, hret, hown, hnm, hlk, eT, hn0, hw, locs, N, Y⟩ := X
  obtain ⟨hd, rfl⟩ := hd
  exact Wp.go (fun _ q => XS.i2b Y.here hx rfl (hb hby hd) rfl q) q
theorem w_iconst (X : Pos Z a0 n0 p l e R s m args below meth c code ml ret y T h k j) {i : Int} {v : Int32} (hd : Dec code pc (.iconst i) 1 nx) (hv : Int32.ofInt i = v) (q : Wp n0 p e R s below Q T (mkF m nx Ls (.int v :: S))) : Wp n0 p e R s below Q T (mkF m pc Ls S) := by
  obtain ⟨hx, hZ, hby, hml, hret, hown, hnm, hlk, eT, hn0, hw, locs, N, Y⟩ := X
  obtain ⟨hd, rfl⟩ := hd
  subst hv
  exact Wp.go (fun _ q => XS.iconst Y.here hx rfl (hb hby hd) q) q
theorem w_bipush (X : Pos Z a0 n0 p l e R s m args below meth c code ml ret y T h k j) {i : Int} {v : Int32} (hd : Dec code pc (.bipush i) 2 nx) (hv : (Int8.ofInt i).toInt32 = v) (q : Wp n0 p e R s below Q T (mkF m nx Ls (.int v :: S))) : Wp n0 p e R s below Q T (mkF m pc Ls S) := by
  obtain ⟨hx, hZ, hby, hml, hret, hown, hnm, hlk, eT, hn0, hw, locs, N, Y⟩ := X
  obtain ⟨hd, rfl⟩ := hd
  subst hv
  exact Wp.go (fun _ q => XS.bipush Y.here hx rfl (hb hby hd) q) q
theorem w_sipush (X : Pos Z a0 n0 p l e R s m args below meth c code ml ret y T h k j) {i : Int} {v : Int32} (hd : Dec code pc (.sipush i) 3 nx) (hv : (Int16.ofInt i).toInt32 = v) (q : Wp n0 p e R s below Q T (mkF m nx Ls (.int v :: S))) : Wp n0 p e R s below Q T (mkF m pc Ls S) := by
  obtain ⟨hx, hZ, hby, hml, hret, hown, hnm, hlk, eT, hn0, hw, locs, N, Y⟩ := X
  obtain ⟨hd, rfl⟩ := hd
  subst hv
  exact Wp.go (fun _ q => XS.sipush Y.here hx rfl (hb hby hd) q) q
theorem w_lconst0 (X : Pos Z a0 n0 p l e R s m args below meth c code ml ret y T h k j) (hd : Dec code pc (.lconst 0) 1 nx) (q : Wp n0 p e R s below Q T (mkF m nx Ls (.long 0 :: S))) : Wp n0 p e R s below Q T (mkF m pc Ls S) := by
  obtain ⟨hx, hZ, hby, hml, hret, hown, hnm, hlk, eT, hn0, hw, locs, N, Y⟩ := X
  obtain ⟨hd, rfl⟩ := hd
  exact Wp.go (fun _ q => XS.lconst Y.here hx rfl (hb hby hd) q) q
theorem w_lconst1 (X : Pos Z a0 n0 p l e R s m args below meth c code ml ret y T h k j) (hd : Dec code pc (.lconst 1) 1 nx) (q : Wp n0 p e R s below Q T (mkF m nx Ls (.long 1 :: S))) : Wp n0 p e R s below Q T (mkF m pc Ls S) := by
  obtain ⟨hx, hZ, hby, hml, hret, hown, hnm, hlk, eT, hn0, hw, locs, N, Y⟩ := X
  obtain ⟨hd, rfl⟩ := hd
  exact Wp.go (fun _ q => XS.lconst Y.here hx rfl (hb hby hd) q) q
theorem w_null (X : Pos Z a0 n0 p l e R s m args below meth c code ml ret y T h k j) (hd : Dec code pc .aconst_null 1 nx) (q : Wp n0 p e R s below Q T (mkF m nx Ls (.null :: S))) : Wp n0 p e R s below Q T (mkF m pc Ls S) := by
  obtain ⟨hx, hZ, hby, hml, hret, hown, hnm, hlk, eT, hn0, hw, locs, N, Y⟩ := X
  obtain ⟨hd, rfl⟩ := hd
  exact Wp.go (fun _ q => XS.aconstNull Y.here hx rfl (hb hby hd) q) q
theorem w_iloadN (X : Pos Z a0 n0 p l e R s m args below meth c code ml ret y T h k j) {w : Fin 4} {v : Int32} (hd : Dec code pc (.iload_n w) 1 nx) (hl : Ls[w.val]? = some (.val (.int v))) (q : Wp n0 p e R s below Q T (mkF m nx Ls (.int v :: S))) : Wp n0 p e R s below Q T (mkF m pc Ls S) := by
  obtain ⟨hx, hZ, hby, hml, hret, hown, hnm, hlk, eT, hn0, hw, locs, N, Y⟩ := X
  obtain ⟨hd, rfl⟩ := hd
  exact Wp.go (fun _ q => XS.iloadN Y.here hx rfl (hb hby hd) hl q) q
theorem w_iload (X : Pos Z a0 n0 p l e R s m args below meth c code ml ret y T h k j) {w : Nat} {v : Int32} (hd : Dec code pc (.iload w) 2 nx) (hl : Ls[w]? = some (.val (.int v))) (q : Wp n0 p e R s below Q T (mkF m nx Ls (.int v :: S))) : Wp n0 p e R s below Q T (mkF m pc Ls S) := by
  obtain ⟨hx, hZ, hby, hml, hret, hown, hnm, hlk, eT, hn0, hw, locs, N, Y⟩ := X
  obtain ⟨hd, rfl⟩ := hd
  exact Wp.go (fun _ q => XS.iload Y.here hx rfl (hb hby hd) hl q) q
theorem w_lloadN (X : Pos Z a0 n0 p l e R s m args below meth c code ml ret y T h k j) {w : Fin 4} {v : Int64} (hd : Dec code pc (.lload_n w) 1 nx) (hl : Ls[w.val]? = some (.val (.long v))) (q : Wp n0 p e R s below Q T (mkF m nx Ls (.long v :: S))) : Wp n0 p e R s below Q T (mkF m pc Ls S) := by
  obtain ⟨hx, hZ, hby, hml, hret, hown, hnm, hlk, eT, hn0, hw, locs, N, Y⟩ := X
  obtain ⟨hd, rfl⟩ := hd
  exact Wp.go (fun _ q => XS.lloadN Y.here hx rfl (hb hby hd) hl q) q
theorem w_lload (X : Pos Z a0 n0 p l e R s m args below meth c code ml ret y T h k j) {w : Nat} {v : Int64} (hd : Dec code pc (.lload w) 2 nx) (hl : Ls[w]? = some (.val (.long v))) (q : Wp n0 p e R s below Q T (mkF m nx Ls (.long v :: S))) : Wp n0 p e R s below Q T (mkF m pc Ls S) := by
  obtain ⟨hx, hZ, hby, hml, hret, hown, hnm, hlk, eT, hn0, hw, locs, N, Y⟩ := X
  obtain ⟨hd, rfl⟩ := hd
  exact Wp.go (fun _ q => XS.lload Y.here hx rfl (hb hby hd) hl q) q
theorem w_aloadN (X : Pos Z a0 n0 p l e R s m args below meth c code ml ret y T h k j) {w : Fin 4} {v : Value} (hd : Dec code pc (.aload_n w) 1 nx) (hl : Ls[w.val]? = some (.val v)) (hv : v.isRef = true) (q : Wp n0 p e R s below Q T (mkF m nx Ls (v :: S))) : Wp n0 p e R s below Q T (mkF m pc Ls S) := by
  obtain ⟨hx, hZ, hby, hml, hret, hown, hnm, hlk, eT, hn0, hw, locs, N, Y⟩ := X
  obtain ⟨hd, rfl⟩ := hd
  exact Wp.go (fun _ q => XS.aloadN Y.here hx rfl (hb hby hd) hl hv q) q
theorem w_astoreN (X : Pos Z a0 n0 p l e R s m args below meth c code ml ret y T h k j) {w : Fin 4} {v : Value} {l' : Array Slot} (hd : Dec code pc (.astore_n w) 1 nx) (hv : v.isRef = true) (hl : storeLocals Ls w.val v = some l') (q : Wp n0 p e R s below Q T (mkF m nx l' S)) : Wp n0 p e R s below Q T (mkF m pc Ls (v :: S)) := by
  obtain ⟨hx, hZ, hby, hml, hret, hown, hnm, hlk, eT, hn0, hw, locs, N, Y⟩ := X
  obtain ⟨hd, rfl⟩ := hd
  exact Wp.go (fun _ q => XS.astoreN Y.here hx rfl (hb hby hd) rfl hv hl q) q
theorem w_istoreN (X : Pos Z a0 n0 p l e R s m args below meth c code ml ret y T h k j) {w : Fin 4} {v : Int32} {l' : Array Slot} (hd : Dec code pc (.istore_n w) 1 nx) (hl : storeLocals Ls w.val (.int v) = some l') (q : Wp n0 p e R s below Q T (mkF m nx l' S)) : Wp n0 p e R s below Q T (mkF m pc Ls (.int v :: S)) := by
  obtain ⟨hx, hZ, hby, hml, hret, hown, hnm, hlk, eT, hn0, hw, locs, N, Y⟩ := X
  obtain ⟨hd, rfl⟩ := hd
  exact Wp.go (fun _ q => XS.istoreN Y.here hx rfl (hb hby hd) rfl hl q) q
theorem w_istoreNE (X : Pos Z a0 n0 p l e R s m args below meth c code ml ret y T h k j) {w : Fin 4} {v : Int32} {l' : Int32 → Array Slot} (hd : Dec code pc (.istore_n w) 1 nx) (hl : ∀ z, storeLocals Ls w.val (.int z) = some (l' z)) (q : ∀ z, z = v → Wp n0 p e R s below Q T (mkF m nx (l' z) S)) : Wp n0 p e R s below Q T (mkF m pc Ls (.int v :: S)) := w_istoreN X hd (hl v) (q v rfl)
theorem w_lstoreN (X : Pos Z a0 n0 p l e R s m args below meth c code ml ret y T h k j) {w : Fin 4} {v : Int64} {l' : Array Slot} (hd : Dec code pc (.lstore_n w) 1 nx) (hl : storeLocals Ls w.val (.long v) = some l') (q : Wp n0 p e R s below Q T (mkF m nx l' S)) : Wp n0 p e R s below Q T (mkF m pc Ls (.long v :: S)) := by
  obtain ⟨hx, hZ, hby, hml, hret, hown, hnm, hlk, eT, hn0, hw, locs, N, Y⟩ := X
  obtain ⟨hd, rfl⟩ := hd
  exact Wp.go (fun _ q => XS.lstoreN Y.here hx rfl (hb hby hd) rfl hl q) q
theorem w_lstoreNE (X : Pos Z a0 n0 p l e R s m args below meth c code ml ret y T h k j) {w : Fin 4} {v : Int64} {l' : Int64 → Array Slot} (hd : Dec code pc (.lstore_n w) 1 nx) (hl : ∀ z, storeLocals Ls w.val (.long z) = some (l' z)) (q : ∀ z, z = v → Wp n0 p e R s below Q T (mkF m nx (l' z) S)) : Wp n0 p e R s below Q T (mkF m pc Ls (.long v :: S)) := w_lstoreN X hd (hl v) (q v rfl)
theorem w_aload (X : Pos Z a0 n0 p l e R s m args below meth c code ml ret y T h k j) {w : Nat} {v : Value} (hd : Dec code pc (.aload w) 2 nx) (hl : Ls[w]? = some (.val v)) (hv : v.isRef = true) (q : Wp n0 p e R s below Q T (mkF m nx Ls (v :: S))) : Wp n0 p e R s below Q T (mkF m pc Ls S) := by
  obtain ⟨hx, hZ, hby, hml, hret, hown, hnm, hlk, eT, hn0, hw, locs, N, Y⟩ := X
  obtain ⟨hd, rfl⟩ := hd
  exact Wp.go (fun _ q => XS.aload Y.here hx rfl (hb hby hd) hl hv q) q
theorem w_astore (X : Pos Z a0 n0 p l e R s m args below meth c code ml ret y T h k j) {w : Nat} {v : Value} {l' : Array Slot} (hd : Dec code pc (.astore w) 2 nx) (hv : v.isRef = true) (hl : storeLocals Ls w v = some l') (q : Wp n0 p e R s below Q T (mkF m nx l' S)) : Wp n0 p e R s below Q T (mkF m pc Ls (v :: S)) := by
  obtain ⟨hx, hZ, hby, hml, hret, hown, hnm, hlk, eT, hn0, hw, locs, N, Y⟩ := X
  obtain ⟨hd, rfl⟩ := hd
  exact Wp.go (fun _ q => XS.astore Y.here hx rfl (hb hby hd) rfl hv hl q) q
theorem w_istore (X : Pos Z a0 n0 p l e R s m args below meth c code ml ret y T h k j) {w : Nat} {v : Int32} {l' : Array Slot} (hd : Dec code pc (.istore w) 2 nx) (hl : storeLocals Ls w (.int v) = some l') (q : Wp n0 p e R s below Q T (mkF m nx l' S)) : Wp n0 p e R s below Q T (mkF m pc Ls (.int v :: S)) := by
  obtain ⟨hx, hZ, hby, hml, hret, hown, hnm, hlk, eT, hn0, hw, locs, N, Y⟩ := X
  obtain ⟨hd, rfl⟩ := hd
  exact Wp.go (fun _ q => XS.istore Y.here hx rfl (hb hby hd) rfl hl q) q
theorem w_istoreE (X : Pos Z a0 n0 p l e R s m args below meth c code ml ret y T h k j) {w : Nat} {v : Int32} {l' : Int32 → Array Slot} (hd : Dec code pc (.istore w) 2 nx) (hl : ∀ z, storeLocals Ls w (.int z) = some (l' z)) (q : ∀ z, z = v → Wp n0 p e R s below Q T (mkF m nx (l' z) S)) : Wp n0 p e R s below Q T (mkF m pc Ls (.int v :: S)) := w_istore X hd (hl v) (q v rfl)
theorem w_lstore (X : Pos Z a0 n0 p l e R s m args below meth c code ml ret y T h k j) {w : Nat} {v : Int64} {l' : Array Slot} (hd : Dec code pc (.lstore w) 2 nx) (hl : storeLocals Ls w (.long v) = some l') (q : Wp n0 p e R s below Q T (mkF m nx l' S)) : Wp n0 p e R s below Q T (mkF m pc Ls (.long v :: S)) := by
  obtain ⟨hx, hZ, hby, hml, hret, hown, hnm, hlk, eT, hn0, hw, locs, N, Y⟩ := X
  obtain ⟨hd, rfl⟩ := hd
  exact Wp.go (fun _ q => XS.lstore Y.here hx rfl (hb hby hd) rfl hl q) q
theorem w_lstoreE (X : Pos Z a0 n0 p l e R s m args below meth c code ml ret y T h k j) {w : Nat} {v : Int64} {l' : Int64 → Array Slot} (hd : Dec code pc (.lstore w) 2 nx) (hl : ∀ z, storeLocals Ls w (.long z) = some (l' z)) (q : ∀ z, z = v → Wp n0 p e R s below Q T (mkF m nx (l' z) S)) : Wp n0 p e R s below Q T (mkF m pc Ls (.long v :: S)) := w_lstore X hd (hl v) (q v rfl)
theorem w_istoreNS (X : Pos Z a0 n0 p l e R s m args below meth c code ml ret y T h k j) {w : Fin 4} {v : Int32} {l' : Array Slot} {o : Slot} (hd : Dec code pc (.istore_n w) 1 nx) (hold : Ls[w.val]? = some o) (ho : One o) (hl : Ls.setIfInBounds w.val (.val (.int v)) = l') (q : Wp n0 p e R s below Q T (mkF m nx l' S)) : Wp n0 p e R s below Q T (mkF m pc Ls (.int v :: S)) := w_istoreN X hd ((XS.store1 hold ho rfl).trans (congrArg some hl)) q
theorem w_istoreS (X : Pos Z a0 n0 p l e R s m args below meth c code ml ret y T h k j) {w : Nat} {v : Int32} {l' : Array Slot} {o : Slot} (hd : Dec code pc (.istore w) 2 nx) (hold : Ls[w]? = some o) (ho : One o) (hl : Ls.setIfInBounds w (.val (.int v)) = l') (q : Wp n0 p e R s below Q T (mkF m nx l' S)) : Wp n0 p e R s below Q T (mkF m pc Ls (.int v :: S)) := w_istore X hd ((XS.store1 hold ho rfl).trans (congrArg some hl)) q
theorem w_iinc (X : Pos Z a0 n0 p l e R s m args below meth c code ml ret y T h k j) {w : Nat} {i : Int} {d v r : Int32} {l' : Array Slot} (hd : Dec code pc (.iinc w i) 3 nx) (hl : Ls[w]? = some (.val (.int v))) (hi : Int32.ofInt i = d) (hr : v + d = r) (hl' : storeLocals Ls w (.int r) = some l') (q : Wp n0 p e R s below Q T (mkF m nx l' S)) : Wp n0 p e R s below Q T (mkF m pc Ls S) := by
  obtain ⟨hx, hZ, hby, hml, hret, hown, hnm, hlk, eT, hn0, hw, locs, N, Y⟩ := X
  obtain ⟨hd, rfl⟩ := hd
  subst hi hr
  exact Wp.go (fun _ q => XS.iinc Y.here hx rfl (hb hby hd) hl hl' q) q
theorem w_dup (X : Pos Z a0 n0 p l e R s m args below meth c code ml ret y T h k j) {v : Value} (hd : Dec code pc .dup 1 nx) (hv : v.category = 1) (q : Wp n0 p e R s below Q T (mkF m nx Ls (v :: v :: S))) : Wp n0 p e R s below Q T (mkF m pc Ls (v :: S)) := by
  obtain ⟨hx, hZ, hby, hml, hret, hown, hnm, hlk, eT, hn0, hw, locs, N, Y⟩ := X
  obtain ⟨hd, rfl⟩ := hd
  exact Wp.go (fun _ q => XS.dup Y.here hx rfl (hb hby hd) rfl hv q) q
theorem w_pop (X : Pos Z a0 n0 p l e R s m args below meth c code ml ret y T h k j) {v : Value} (hd : Dec code pc .pop 1 nx) (hv : v.category = 1) (q : Wp n0 p e R s below Q T (mkF m nx Ls S)) : Wp n0 p e R s below Q T (mkF m pc Ls (v :: S)) := by
  obtain ⟨hx, hZ, hby, hml, hret, hown, hnm, hlk, eT, hn0, hw, locs, N, Y⟩ := X
  obtain ⟨hd, rfl⟩ := hd
  exact Wp.go (fun _ q => XS.pop Y.here hx rfl (hb hby hd) rfl hv q) q
theorem w_dupX1 (X : Pos Z a0 n0 p l e R s m args below meth c code ml ret y T h k j) {v w : Value} (hd : Dec code pc .dup_x1 1 nx) (hv : v.category = 1) (hw' : w.category = 1) (q : Wp n0 p e R s below Q T (mkF m nx Ls (v :: w :: v :: S))) : Wp n0 p e R s below Q T (mkF m pc Ls (v :: w :: S)) := by
  obtain ⟨hx, hZ, hby, hml, hret, hown, hnm, hlk, eT, hn0, hw, locs, N, Y⟩ := X
  obtain ⟨hd, rfl⟩ := hd
  exact Wp.go (fun _ q => XS.dupX1 Y.here hx rfl (hb hby hd) rfl hv hw' q) q
theorem w_dup2 (X : Pos Z a0 n0 p l e R s m args below meth c code ml ret y T h k j) {v w : Value} (hd : Dec code pc .dup2 1 nx) (hv : v.category = 1) (hw' : w.category = 1) (q : Wp n0 p e R s below Q T (mkF m nx Ls (v :: w :: v :: w :: S))) : Wp n0 p e R s below Q T (mkF m pc Ls (v :: w :: S)) := by
  obtain ⟨hx, hZ, hby, hml, hret, hown, hnm, hlk, eT, hn0, hw, locs, N, Y⟩ := X
  obtain ⟨hd, rfl⟩ := hd
  exact Wp.go (fun _ q => Jvm.Free.XT.dup2 Y.here hx rfl (hb hby hd) rfl hv hw' q) q
theorem w_goto (X : Pos Z a0 n0 p l e R s m args below meth c code ml ret y T h k j) {o : Int} (hd : Jmp code pc (.goto o) o nx tgt) (q : Wp n0 p e R s below Q T (mkF m tgt Ls S)) : Wp n0 p e R s below Q T (mkF m pc Ls S) := by
  obtain ⟨hx, hZ, hby, hml, hret, hown, hnm, hlk, eT, hn0, hw, locs, N, Y⟩ := X
  obtain ⟨hd, -, ho, hp⟩ := hd
  exact Wp.go (fun _ q => XS.goto Y.here hx rfl (pc0 := pc) (pc' := tgt) rfl (hb hby hd) ho hp q) q
theorem w_icmpeq (X : Pos Z a0 n0 p l e R s m args below meth c code ml ret y T h k j) {x z : Int32} {o : Int} (hd : Jmp code pc (.if_icmp .eq o) o nx tgt) (qt : x = z → Wp n0 p e R s below Q T (mkF m tgt Ls S)) (qf : ¬ x = z → Wp n0 p e R s below Q T (mkF m nx Ls S)) : Wp n0 p e R s below Q T (mkF m pc Ls (.int z :: .int x :: S)) := by
  obtain ⟨hx, hZ, hby, hml, hret, hown, hnm, hlk, eT, hn0, hw, locs, N, Y⟩ := X
  obtain ⟨hd, rfl, ho, hp⟩ := hd
  by_cases hc : x = z
  · exact Wp.go (fun _ q => XS.icmpYes Y.here hx rfl (pc0 := pc) (pc' := tgt) rfl (hb hby hd) rfl (Jvm.Free.XT.ii_eq_t hc) ho hp q) (qt hc)
  · exact Wp.go (fun _ q => XS.icmpNo Y.here hx rfl (hb hby hd) rfl (Jvm.Free.XT.ii_eq_f hc) q) (qf hc)
theorem w_ifeq (X : Pos Z a0 n0 p l e R s m args below meth c code ml ret y T h k j) {x : Int32} {o : Int} (hd : Jmp code pc (.ifCond .eq o) o nx tgt) (qt : x = 0 → Wp n0 p e R s below Q T (mkF m tgt Ls S)) (qf : ¬ x = 0 → Wp n0 p e R s below Q T (mkF m nx Ls S)) : Wp n0 p e R s below Q T (mkF m pc Ls (.int x :: S)) := by
  obtain ⟨hx, hZ, hby, hml, hret, hown, hnm, hlk, eT, hn0, hw, locs, N, Y⟩ := X
  obtain ⟨hd, rfl, ho, hp⟩ := hd
  by_cases hc : x = 0
  · exact Wp.go (fun _ q => XS.ifYes Y.here hx rfl (pc0 := pc) (pc' := tgt) rfl (hb hby hd) rfl (Jvm.Free.XT.i0_eq_t hc) ho hp q) (qt hc)
  · exact Wp.go (fun _ q => XS.ifNo Y.here hx rfl (hb hby hd) rfl (Jvm.Free.XT.i0_eq_f hc) q) (qf hc)
theorem w_lcmpeq (X : Pos Z a0 n0 p l e R s m args below meth c code ml ret y T h k j) {x z : Int64} {o : Int} {mid : Nat} (hd0 : Dec code pc .lcmp 1 mid) (hd : Jmp code mid (.ifCond .eq o) o nx tgt) (qt : x = z → Wp n0 p e R s below Q T (mkF m tgt Ls S)) (qf : ¬ x = z → Wp n0 p e R s below Q T (mkF m nx Ls S)) : Wp n0 p e R s below Q T (mkF m pc Ls (.long z :: .long x :: S)) := by
  obtain ⟨hx, hZ, hby, hml, hret, hown, hnm, hlk, eT, hn0, hw, locs, N, Y⟩ := X
  obtain ⟨hd0, rfl⟩ := hd0
  obtain ⟨hd, rfl, ho, hp⟩ := hd
  refine Wp.go (fun _ q => Jvm.Free.XT.lcmp Y.here hx rfl (hb hby hd0) rfl q) ?_
  by_cases hc : x = z
  · exact Wp.go (fun _ q => XS.ifYes Y.here hx rfl (pc0 := pc + 1) (pc' := tgt) rfl (hb hby hd) rfl (Jvm.Free.XT.ll_eq_t hc) ho hp q) (qt hc)
  · exact Wp.go (fun _ q => XS.ifNo Y.here hx rfl (hb hby hd) rfl (Jvm.Free.XT.ll_eq_f hc) q) (qf hc)
theorem w_icmpne (X : Pos Z a0 n0 p l e R s m args below meth c code ml ret y T h k j) {x z : Int32} {o : Int} (hd : Jmp code pc (.if_icmp .ne o) o nx tgt) (qt : ¬ x = z → Wp n0 p e R s below Q T (mkF m tgt Ls S)) (qf : x = z → Wp n0 p e R s below Q T (mkF m nx Ls S)) : Wp n0 p e R s below Q T (mkF m pc Ls (.int z :: .int x :: S)) := by
  obtain ⟨hx, hZ, hby, hml, hret, hown, hnm, hlk, eT, hn0, hw, locs, N, Y⟩ := X
  obtain ⟨hd, rfl, ho, hp⟩ := hd
  by_cases hc : x = z
  · exact Wp.go (fun _ q => XS.icmpNo Y.here hx rfl (hb hby hd) rfl (Jvm.Free.XT.ii_ne_f hc) q) (qf hc)
  · exact Wp.go (fun _ q => XS.icmpYes Y.here hx rfl (pc0 := pc) (pc' := tgt) rfl (hb hby hd) rfl (Jvm.Free.XT.ii_ne_t hc) ho hp q) (qt hc)
theorem w_ifne (X : Pos Z a0 n0 p l e R s m args below meth c code ml ret y T h k j) {x : Int32} {o : Int} (hd : Jmp code pc (.ifCond .ne o) o nx tgt) (qt : ¬ x = 0 → Wp n0 p e R s below Q T (mkF m tgt Ls S)) (qf : x = 0 → Wp n0 p e R s below Q T (mkF m nx Ls S)) : Wp n0 p e R s below Q T (mkF m pc Ls (.int x :: S)) := by
  obtain ⟨hx, hZ, hby, hml, hret, hown, hnm, hlk, eT, hn0, hw, locs, N, Y⟩ := X
  obtain ⟨hd, rfl, ho, hp⟩ := hd
  by_cases hc : x = 0
  · exact Wp.go (fun _ q => XS.ifNo Y.here hx rfl (hb hby hd) rfl (Jvm.Free.XT.i0_ne_f hc) q) (qf hc)
  · exact Wp.go (fun _ q => XS.ifYes Y.here hx rfl (pc0 := pc) (pc' := tgt) rfl (hb hby hd) rfl (Jvm.Free.XT.i0_ne_t hc) ho hp q) (qt hc)
theorem w_lcmpne (X : Pos Z a0 n0 p l e R s m args below meth c code ml ret y T h k j) {x z : Int64} {o : Int} {mid : Nat} (hd0 : Dec code pc .lcmp 1 mid) (hd : Jmp code mid (.ifCond .ne o) o nx tgt) (qt : ¬ x = z → Wp n0 p e R s below Q T (mkF m tgt Ls S)) (qf : x = z → Wp n0 p e R s below Q T (mkF m nx Ls S)) : Wp n0 p e R s below Q T (mkF m pc Ls (.long z :: .long x :: S)) := by
  obtain ⟨hx, hZ, hby, hml, hret, hown, hnm, hlk, eT, hn0, hw, locs, N, Y⟩ := X
  obtain ⟨hd0, rfl⟩ := hd0
  obtain ⟨hd, rfl, ho, hp⟩ := hd
  refine Wp.go (fun _ q => Jvm.Free.XT.lcmp Y.here hx rfl (hb hby hd0) rfl q) ?_
  by_cases hc : x = z
  · exact Wp.go (fun _ q => XS.ifNo Y.here hx rfl (hb hby hd) rfl (Jvm.Free.XT.ll_ne_f hc) q) (qf hc)
  · exact Wp.go (fun _ q => XS.ifYes Y.here hx rfl (pc0 := pc + 1) (pc' := tgt) rfl (hb hby hd) rfl (Jvm.Free.XT.ll_ne_t hc) ho hp q) (qt hc)
theorem w_icmplt (X : Pos Z a0 n0 p l e R s m args below meth c code ml ret y T h k j) {x z : Int32} {o : Int} (hd : Jmp code pc (.if_icmp .lt o) o nx tgt) (qt : x < z → Wp n0 p e R s below Q T (mkF m tgt Ls S)) (qf : ¬ x < z → Wp n0 p e R s below Q T (mkF m nx Ls S)) : Wp n0 p e R s below Q T (mkF m pc Ls (.int z :: .int x :: S)) := by
  obtain ⟨hx, hZ, hby, hml, hret, hown, hnm, hlk, eT, hn0, hw, locs, N, Y⟩ := X
  obtain ⟨hd, rfl, ho, hp⟩ := hd
  by_cases hc : x < z
  · exact Wp.go (fun _ q => XS.icmpYes Y.here hx rfl (pc0 := pc) (pc' := tgt) rfl (hb hby hd) rfl (Jvm.Free.XT.ii_lt_t hc) ho hp q) (qt hc)
  · exact Wp.go (fun _ q => XS.icmpNo Y.here hx rfl (hb hby hd) rfl (Jvm.Free.XT.ii_lt_f hc) q) (qf hc)
theorem w_iflt (X : Pos Z a0 n0 p l e R s m args below meth c code ml ret y T h k j) {x : Int32} {o : Int} (hd : Jmp code pc (.ifCond .lt o) o nx tgt) (qt : x < 0 → Wp n0 p e R s below Q T (mkF m tgt Ls S)) (qf : ¬ x < 0 → Wp n0 p e R s below Q T (mkF m nx Ls S)) : Wp n0 p e R s below Q T (mkF m pc Ls (.int x :: S)) := by
  obtain ⟨hx, hZ, hby, hml, hret, hown, hnm, hlk, eT, hn0, hw, locs, N, Y⟩ := X
  obtain ⟨hd, rfl, ho, hp⟩ := hd
  by_cases hc : x < 0
  · exact Wp.go (fun _ q => XS.ifYes Y.here hx rfl (pc0 := pc) (pc' := tgt) rfl (hb hby hd) rfl (Jvm.Free.XT.i0_lt_t hc) ho hp q) (qt hc)
  · exact Wp.go (fun _ q => XS.ifNo Y.here hx rfl (hb hby hd) rfl (Jvm.Free.XT.i0_lt_f hc) q) (qf hc)
theorem w_lcmplt (X : Pos Z a0 n0 p l e R s m args below meth c code ml ret y T h k j) {x z : Int64} {o : Int} {mid : Nat} (hd0 : Dec code pc .lcmp 1 mid) (hd : Jmp code mid (.ifCond .lt o) o nx tgt) (qt : x < z → Wp n0 p e R s below Q T (mkF m tgt Ls S)) (qf : ¬ x < z → Wp n0 p e R s below Q T (mkF m nx Ls S)) : Wp n0 p e R s below Q T (mkF m pc Ls (.long z :: .long x :: S)) := by
  obtain ⟨hx, hZ, hby, hml, hret, hown, hnm, hlk, eT, hn0, hw, locs, N, Y⟩ := X
  obtain ⟨hd0, rfl⟩ := hd0
  obtain ⟨hd, rfl, ho, hp⟩ := hd
  refine Wp.go (fun _ q => Jvm.Free.XT.lcmp Y.here hx rfl (hb hby hd0) rfl q) ?_
  by_cases hc : x < z
  · exact Wp.go (fun _ q => XS.ifYes Y.here hx rfl (pc0 := pc + 1) (pc' := tgt) rfl (hb hby hd) rfl (Jvm.Free.XT.ll_lt_t hc) ho hp q) (qt hc)
  · exact Wp.go (fun _ q => XS.ifNo Y.here hx rfl (hb hby hd) rfl (Jvm.Free.XT.ll_lt_f hc) q) (qf hc)
theorem w_icmpge (X : Pos Z a0 n0 p l e R s m args below meth c code ml ret y T h k j) {x z : Int32} {o : Int} (hd : Jmp code pc (.if_icmp .ge o) o nx tgt) (qt : ¬ x < z → Wp n0 p e R s below Q T (mkF m tgt Ls S)) (qf : x < z → Wp n0 p e R s below Q T (mkF m nx Ls S)) : Wp n0 p e R s below Q T (mkF m pc Ls (.int z :: .int x :: S)) := by
  obtain ⟨hx, hZ, hby, hml, hret, hown, hnm, hlk, eT, hn0, hw, locs, N, Y⟩ := X
  obtain ⟨hd, rfl, ho, hp⟩ := hd
  by_cases hc : x < z
  · exact Wp.go (fun _ q => XS.icmpNo Y.here hx rfl (hb hby hd) rfl (Jvm.Free.XT.ii_ge_f hc) q) (qf hc)
  · exact Wp.go (fun _ q => XS.icmpYes Y.here hx rfl (pc0 := pc) (pc' := tgt) rfl (hb hby hd) rfl (Jvm.Free.XT.ii_ge_t hc) ho hp q) (qt hc)
theorem w_ifge (X : Pos Z a0 n0 p l e R s m args below meth c code ml ret y T h k j) {x : Int32} {o : Int} (hd : Jmp code pc (.ifCond .ge o) o nx tgt) (qt : ¬ x < 0 → Wp n0 p e R s below Q T (mkF m tgt Ls S)) (qf : x < 0 → Wp n0 p e R s below Q T (mkF m nx Ls S)) : Wp n0 p e R s below Q T (mkF m pc Ls (.int x :: S)) := by
  obtain ⟨hx, hZ, hby, hml, hret, hown, hnm, hlk, eT, hn0, hw, locs, N, Y⟩ := X
  obtain ⟨hd, rfl, ho, hp⟩ := hd
  by_cases hc : x < 0
  · exact Wp.go (fun _ q => XS.ifNo Y.here hx rfl (hb hby hd) rfl (Jvm.Free.XT.i0_ge_f hc) q) (qf hc)
  · exact Wp.go (fun _ q => XS.ifYes Y.here hx rfl (pc0 := pc) (pc' := tgt) rfl (hb hby hd) rfl (Jvm.Free.XT.i0_ge_t hc) ho hp q) (qt hc)
theorem w_lcmpge (X : Pos Z a0 n0 p l e R s m args below meth c code ml ret y T h k j) {x z : Int64} {o : Int} {mid : Nat} (hd0 : Dec code pc .lcmp 1 mid) (hd : Jmp code mid (.ifCond .ge o) o nx tgt) (qt : ¬ x < z → Wp n0 p e R s below Q T (mkF m tgt Ls S)) (qf : x < z → Wp n0 p e R s below Q T (mkF m nx Ls S)) : Wp n0 p e R s below Q T (mkF m pc Ls (.long z :: .long x :: S)) := by
  obtain ⟨hx, hZ, hby, hml, hret, hown, hnm, hlk, eT, hn0, hw, locs, N, Y⟩ := X
  obtain ⟨hd0, rfl⟩ := hd0
  obtain ⟨hd, rfl, ho, hp⟩ := hd
  refine Wp.go (fun _ q => Jvm.Free.XT.lcmp Y.here hx rfl (hb hby hd0) rfl q) ?_
  by_cases hc : x < z
  · exact Wp.go (fun _ q => XS.ifNo Y.here hx rfl (hb hby hd) rfl (Jvm.Free.XT.ll_ge_f hc) q) (qf hc)
  · exact Wp.go (fun _ q => XS.ifYes Y.here hx rfl (pc0 := pc + 1) (pc' := tgt) rfl (hb hby hd) rfl (Jvm.Free.XT.ll_ge_t hc) ho hp q) (qt hc)
theorem w_icmpgt (X : Pos Z a0 n0 p l e R s m args below meth c code ml ret y T h k j) {x z : Int32} {o : Int} (hd : Jmp code pc (.if_icmp .gt o) o nx tgt) (qt : z < x → Wp n0 p e R s below Q T (mkF m tgt Ls S)) (qf : ¬ z < x → Wp n0 p e R s below Q T (mkF m nx Ls S)) : Wp n0 p e R s below Q T (mkF m pc Ls (.int z :: .int x :: S)) := by
  obtain ⟨hx, hZ, hby, hml, hret, hown, hnm, hlk, eT, hn0, hw, locs, N, Y⟩ := X
  obtain ⟨hd, rfl, ho, hp⟩ := hd
  by_cases hc : z < x
  · exact Wp.go (fun _ q => XS.icmpYes Y.here hx rfl (pc0 := pc) (pc' := tgt) rfl (hb hby hd) rfl (Jvm.Free.XT.ii_gt_t hc) ho hp q) (qt hc)
  · exact Wp.go (fun _ q => XS.icmpNo Y.here hx rfl (hb hby hd) rfl (Jvm.Free.XT.ii_gt_f hc) q) (qf hc)
theorem w_ifgt (X : Pos Z a0 n0 p l e R s m args below meth c code ml ret y T h k j) {x : Int32} {o : Int} (hd : Jmp code pc (.ifCond .gt o) o nx tgt) (qt : 0 < x → Wp n0 p e R s below Q T (mkF m tgt Ls S)) (qf : ¬ 0 < x → Wp n0 p e R s below Q T (mkF m nx Ls S)) : Wp n0 p e R s below Q T (mkF m pc Ls (.int x :: S)) := by
  obtain ⟨hx, hZ, hby, hml, hret, hown, hnm, hlk, eT, hn0, hw, locs, N, Y⟩ := X
  obtain ⟨hd, rfl, ho, hp⟩ := hd
  by_cases hc : 0 < x
  · exact Wp.go (fun _ q => XS.ifYes Y.here hx rfl (pc0 := pc) (pc' := tgt) rfl (hb hby hd) rfl (Jvm.Free.XT.i0_gt_t hc) ho hp q) (qt hc)
  · exact Wp.go (fun _ q => XS.ifNo Y.here hx rfl (hb hby hd) rfl (Jvm.Free.XT.i0_gt_f hc) q) (qf hc)
theorem w_lcmpgt (X : Pos Z a0 n0 p l e R s m args below meth c code ml ret y T h k j) {x z : Int64} {o : Int} {mid : Nat} (hd0 : Dec code pc .lcmp 1 mid) (hd : Jmp code mid (.ifCond .gt o) o nx tgt) (qt : z < x → Wp n0 p e R s below Q T (mkF m tgt Ls S)) (qf : ¬ z < x → Wp n0 p e R s below Q T (mkF m nx Ls S)) : Wp n0 p e R s below Q T (mkF m pc Ls (.long z :: .long x :: S)) := by
  obtain ⟨hx, hZ, hby, hml, hret, hown, hnm, hlk, eT, hn0, hw, locs, N, Y⟩ := X
  obtain ⟨hd0, rfl⟩ := hd0
  obtain ⟨hd, rfl, ho, hp⟩ := hd
  refine Wp.go (fun _ q => Jvm.Free.XT.lcmp Y.here hx rfl (hb hby hd0) rfl q) ?_
  by_cases hc : z < x
  · exact Wp.go (fun _ q => XS.ifYes Y.here hx rfl (pc0 := pc + 1) (pc' := tgt) rfl (hb hby hd) rfl (Jvm.Free.XT.ll_gt_t hc) ho hp q) (qt hc)
  · exact Wp.go (fun _ q => XS.ifNo Y.here hx rfl (hb hby hd) rfl (Jvm.Free.XT.ll_gt_f hc) q) (qf hc)
theorem w_icmple (X : Pos Z a0 n0 p l e R s m args below meth c code ml ret y T h k j) {x z : Int32} {o : Int} (hd : Jmp code pc (.if_icmp .le o) o nx tgt) (qt : ¬ z < x → Wp n0 p e R s below Q T (mkF m tgt Ls S)) (qf : z < x → Wp n0 p e R s below Q T (mkF m nx Ls S)) : Wp n0 p e R s below Q T (mkF m pc Ls (.int z :: .int x :: S)) := by
  obtain ⟨hx, hZ, hby, hml, hret, hown, hnm, hlk, eT, hn0, hw, locs, N, Y⟩ := X
  obtain ⟨hd, rfl, ho, hp⟩ := hd
  by_cases hc : z < x
  · exact Wp.go (fun _ q => XS.icmpNo Y.here hx rfl (hb hby hd) rfl (Jvm.Free.XT.ii_le_f hc) q) (qf hc)
  · exact Wp.go (fun _ q => XS.icmpYes Y.here hx rfl (pc0 := pc) (pc' := tgt) rfl (hb hby hd) rfl (Jvm.Free.XT.ii_le_t hc) ho hp q) (qt hc)
theorem w_ifle (X : Pos Z a0 n0 p l e R s m args below meth c code ml ret y T h k j) {x : Int32} {o : Int} (hd : Jmp code pc (.ifCond .le o) o nx tgt) (qt : ¬ 0 < x → Wp n0 p e R s below Q T (mkF m tgt Ls S)) (qf : 0 < x → Wp n0 p e R s below Q T (mkF m nx Ls S)) : Wp n0 p e R s below Q T (mkF m pc Ls (.int x :: S)) := by
  obtain ⟨hx, hZ, hby, hml, hret, hown, hnm, hlk, eT, hn0, hw, locs, N, Y⟩ := X
  obtain ⟨hd, rfl, ho, hp⟩ := hd
  by_cases hc : 0 < x
  · exact Wp.go (fun _ q => XS.ifNo Y.here hx rfl (hb hby hd) rfl (Jvm.Free.XT.i0_le_f hc) q) (qf hc)
  · exact Wp.go (fun _ q => XS.ifYes Y.here hx rfl (pc0 := pc) (pc' := tgt) rfl (hb hby hd) rfl (Jvm.Free.XT.i0_le_t hc) ho hp q) (qt hc)
theorem w_lcmple (X : Pos Z a0 n0 p l e R s m args below meth c code ml ret y T h k j) {x z : Int64} {o : Int} {mid : Nat} (hd0 : Dec code pc .lcmp 1 mid) (hd : Jmp code mid (.ifCond .le o) o nx tgt) (qt : ¬ z < x → Wp n0 p e R s below Q T (mkF m tgt Ls S)) (qf : z < x → Wp n0 p e R s below Q T (mkF m nx Ls S)) : Wp n0 p e R s below Q T (mkF m pc Ls (.long z :: .long x :: S)) := by
  obtain ⟨hx, hZ, hby, hml, hret, hown, hnm, hlk, eT, hn0, hw, locs, N, Y⟩ := X
  obtain ⟨hd0, rfl⟩ := hd0
  obtain ⟨hd, rfl, ho, hp⟩ := hd
  refine Wp.go (fun _ q => Jvm.Free.XT.lcmp Y.here hx rfl (hb hby hd0) rfl q) ?_
  by_cases hc : z < x
  · exact Wp.go (fun _ q => XS.ifNo Y.here hx rfl (hb hby hd) rfl (Jvm.Free.XT.ll_le_f hc) q) (qf hc)
  · exact Wp.go (fun _ q => XS.ifYes Y.here hx rfl (pc0 := pc + 1) (pc' := tgt) rfl (hb hby hd) rfl (Jvm.Free.XT.ll_le_t hc) ho hp q) (qt hc)
theorem w_ldc (X : Pos Z a0 n0 p l e R s m args below meth c code ml ret y T h k j) {i : Nat} {v : Int32} (hd : Dec code pc (.ldc i) 2 nx) (wc : (Jvm.Cond.constant y.cls i v).before a0 Z = true) (q : Wp n0 p e R s below Q T (mkF m nx Ls (.int v :: S))) : Wp n0 p e R s below Q T (mkF m pc Ls S) := by
  obtain ⟨hx, hZ, hby, hml, hret, hown, hnm, hlk, eT, hn0, hw, locs, N, Y⟩ := X
  obtain ⟨hd, rfl⟩ := hd
  exact Wp.go (Y.ldcInt hx hown (mvT hZ wc) rfl (hb hby hd)) q
theorem w_ldc2 (X : Pos Z a0 n0 p l e R s m args below meth c code ml ret y T h k j) {i : Nat} {v : Int64} (hd : Dec code pc (.ldc2_w i) 3 nx) (wc : (Jvm.Cond.constantLong y.cls i v).before a0 Z = true) (q : Wp n0 p e R s below Q T (mkF m nx Ls (.long v :: S))) : Wp n0 p e R s below Q T (mkF m pc Ls S) := by
  obtain ⟨hx, hZ, hby, hml, hret, hown, hnm, hlk, eT, hn0, hw, locs, N, Y⟩ := X
  obtain ⟨hd, rfl⟩ := hd
  exact Wp.go (Y.ldc2Long hx hown (mvT hZ wc) rfl (hb hby hd)) q
theorem w_ldcw (X : Pos Z a0 n0 p l e R s m args below meth c code ml ret y T h k j) {i : Nat} {v : Int32} (hd : Dec code pc (.ldc_w i) 3 nx) (wc : (Jvm.Cond.constant y.cls i v).before a0 Z = true) (q : Wp n0 p e R s below Q T (mkF m nx Ls (.int v :: S))) : Wp n0 p e R s below Q T (mkF m pc Ls S) := by
  obtain ⟨hx, hZ, hby, hml, hret, hown, hnm, hlk, eT, hn0, hw, locs, N, Y⟩ := X
  obtain ⟨hd, rfl⟩ := hd
  exact Wp.go (Y.ldcwInt hx hown (mvT hZ wc) rfl (hb hby hd)) q
theorem w_wiinc (X : Pos Z a0 n0 p l e R s m args below meth c code ml ret y T h k j) {w : Nat} {i : Int} {d v r : Int32} {l' : Array Slot} (hd : Dec code pc (.iinc w i) 6 nx) (hl : Ls[w]? = some (.val (.int v))) (hi : Int32.ofInt i = d) (hr : v + d = r) (hl' : storeLocals Ls w (.int r) = some l') (q : Wp n0 p e R s below Q T (mkF m nx l' S)) : Wp n0 p e R s below Q T (mkF m pc Ls S) := by
  obtain ⟨hx, hZ, hby, hml, hret, hown, hnm, hlk, eT, hn0, hw, locs, N, Y⟩ := X
  obtain ⟨hd, rfl⟩ := hd
  subst hi hr
  refine Wp.go (fun _ q => ?_) q
  have hd' := hb hby hd
  have h := Y.here
  jvm_step h [h.top, hx, hd', hl, hl']
  exact q
theorem w_ireturn (X : Pos Z a0 n0 p l e R s m args below meth c code ml (some .int) y T h k j) {z : Int32} (hd : Dec code pc .ireturn 1 nx) (hk : k ≤ R.cells) (hj : j ≤ R.slots) (hq : Q (some (.int z)) h) : Wp n0 p e R s below Q T (mkF m pc Ls (.int z :: S)) := by
  obtain ⟨hx, hZ, hby, hml, hret, hown, hnm, hlk, eT, hn0, hw, locs, N, Y⟩ := X
  obtain ⟨hd, -⟩ := hd
  obtain ⟨fs, hr, hrun, hended, hW, hsame⟩ := Y.leave (v := (some (.int z))) (fun h => by rw [hret] at h; cases h) hlk
  exact ⟨_, _, retI Y hx hret (hb hby hd) hr, hrun, hended, _, _, rfl, ⟨N, by show n0 ≤ T.heap.size; rw [eT]; exact hn0, by show Q _ T.heap; rw [eT]; exact hq⟩, ⟨_, rfl⟩, hW, hsame.mono hk hj⟩
theorem w_breturn (X : Pos Z a0 n0 p l e R s m args below meth c code ml (some .byte) y T h k j) {z : Int32} (hd : Dec code pc .ireturn 1 nx) (hk : k ≤ R.cells) (hj : j ≤ R.slots) (hq : Q (some (.int (nar .byte z))) h) : Wp n0 p e R s below Q T (mkF m pc Ls (.int z :: S)) := by
  obtain ⟨hx, hZ, hby, hml, hret, hown, hnm, hlk, eT, hn0, hw, locs, N, Y⟩ := X
  obtain ⟨hd, -⟩ := hd
  obtain ⟨fs, hr, hrun, hended, hW, hsame⟩ := Y.leave (v := (some (.int (nar .byte z)))) (fun h => by rw [hret] at h; cases h) hlk
  exact ⟨_, _, retN Y hx (t := .byte) hret (by simp) (hb hby hd) hr, hrun, hended, _, _, rfl, ⟨N, by show n0 ≤ T.heap.size; rw [eT]; exact hn0, by show Q _ T.heap; rw [eT]; exact hq⟩, ⟨_, rfl⟩, hW, hsame.mono hk hj⟩
theorem w_zreturn (X : Pos Z a0 n0 p l e R s m args below meth c code ml (some .boolean) y T h k j) {z : Int32} (hd : Dec code pc .ireturn 1 nx) (hk : k ≤ R.cells) (hj : j ≤ R.slots) (hq : Q (some (.int (nar .boolean z))) h) : Wp n0 p e R s below Q T (mkF m pc Ls (.int z :: S)) := by
  obtain ⟨hx, hZ, hby, hml, hret, hown, hnm, hlk, eT, hn0, hw, locs, N, Y⟩ := X
  obtain ⟨hd, -⟩ := hd
  obtain ⟨fs, hr, hrun, hended, hW, hsame⟩ := Y.leave (v := (some (.int (nar .boolean z)))) (fun h => by rw [hret] at h; cases h) hlk
  exact ⟨_, _, retN Y hx (t := .boolean) hret (by simp) (hb hby hd) hr, hrun, hended, _, _, rfl, ⟨N, by show n0 ≤ T.heap.size; rw [eT]; exact hn0, by show Q _ T.heap; rw [eT]; exact hq⟩, ⟨_, rfl⟩, hW, hsame.mono hk hj⟩
theorem w_lreturn (X : Pos Z a0 n0 p l e R s m args below meth c code ml (some .long) y T h k j) {z : Int64} (hd : Dec code pc .lreturn 1 nx) (hk : k ≤ R.cells) (hj : j ≤ R.slots) (hq : Q (some (.long z)) h) : Wp n0 p e R s below Q T (mkF m pc Ls [.long z]) := by
  obtain ⟨hx, hZ, hby, hml, hret, hown, hnm, hlk, eT, hn0, hw, locs, N, Y⟩ := X
  obtain ⟨hd, -⟩ := hd
  obtain ⟨fs, hr, hrun, hended, hW, hsame⟩ := Y.leave (v := (some (.long z))) (fun h => by rw [hret] at h; cases h) hlk
  exact ⟨_, _, Y.lreturnOut hx hret (hb hby hd) hr, hrun, hended, _, _, rfl, ⟨N, by show n0 ≤ T.heap.size; rw [eT]; exact hn0, by show Q _ T.heap; rw [eT]; exact hq⟩, ⟨_, rfl⟩, hW, hsame.mono hk hj⟩
theorem w_return (X : Pos Z a0 n0 p l e R s m args below meth c code ml none y T h k j)  (hd : Dec code pc .return_ 1 nx) (hk : k ≤ R.cells) (hj : j ≤ R.slots) (hq : Q none h) : Wp n0 p e R s below Q T (mkF m pc Ls []) := by
  obtain ⟨hx, hZ, hby, hml, hret, hown, hnm, hlk, eT, hn0, hw, locs, N, Y⟩ := X
  obtain ⟨hd, -⟩ := hd
  obtain ⟨fs, hr, hrun, hended, hW, hsame⟩ := Y.leave (v := none) (fun _ => rfl) hlk
  exact ⟨_, _, Y.returnOut hx hret (hb hby hd) hr, hrun, hended, _, _, rfl, ⟨N, by show n0 ≤ T.heap.size; rw [eT]; exact hn0, by show Q _ T.heap; rw [eT]; exact hq⟩, ⟨_, rfl⟩, hW, hsame.mono hk hj⟩
theorem w_arraylength (X : Pos Z a0 n0 p l e R s m args below meth c code ml ret y T h k j) {a : Addr} {ty : FieldType} {n : Nat} {g : Nat → Value} (hd : Dec code pc .arraylength 1 nx) (B : Ba Z n0 h a ty n g) (q : Wp n0 p e R s below Q T (mkF m nx Ls (.int (Int32.ofNat n) :: S))) : Wp n0 p e R s below Q T (mkF m pc Ls (.ref a :: S)) := by
  obtain ⟨hx, hZ, hby, hml, hret, hown, hnm, hlk, eT, hn0, hw, locs, N, Y⟩ := X
  obtain ⟨hd, rfl⟩ := hd
  obtain ⟨-, hn, cl, A, hs, -⟩ := B
  subst hs
  exact Wp.go (fun _ q => Y.arraylength hx (g := mkF m pc Ls (.ref a :: S)) (cell := cl) (by rw [eT]; exact A.1) (State.isArrayOf_alike hZ.alike A.2.1) rfl rfl (hb hby hd) _ q) q
theorem w_baload (X : Pos Z a0 n0 p l e R s m args below meth c code ml ret y T h k j) {a : Addr} {n : Nat} {b : Nat → Int32} {x : Int32} (hd : Dec code pc .baload 1 nx) (B : Ba Z n0 h a .byte n (bI b)) (i : Nat) (hi : x = Int32.ofNat i) (hlt : i < n) (q : Wp n0 p e R s below Q T (mkF m nx Ls (.int (b i) :: S))) : Wp n0 p e R s below Q T (mkF m pc Ls (.int x :: .ref a :: S)) := by
  obtain ⟨hx, hZ, hby, hml, hret, hown, hnm, hlk, eT, hn0, hw, locs, N, Y⟩ := X
  obtain ⟨hd, rfl⟩ := hd
  obtain ⟨-, hn, cl, A, hs, hv⟩ := B
  subst hi
  exact Wp.go (fun _ q => Y.baloadBytes hx (g := mkF m pc Ls (.int (Int32.ofNat i) :: .ref a :: S)) (j := Int32.ofNat i) (v := .int (b i)) (by rw [eT]; exact A.1) (State.isArrayOf_alike hZ.alike A.2.1) A.2.2 (inb hn hs hlt) (by rw [ofNat_clamp (by omega)]; exact hv i hlt) rfl rfl (hb hby hd) _ q) q
theorem w_iaload (X : Pos Z a0 n0 p l e R s m args below meth c code ml ret y T h k j) {a : Addr} {n : Nat} {b : Nat → Int32} {x : Int32} (hd : Dec code pc .iaload 1 nx) (B : Ba Z n0 h a .int n (bI b)) (i : Nat) (hi : x = Int32.ofNat i) (hlt : i < n) (q : Wp n0 p e R s below Q T (mkF m nx Ls (.int (b i) :: S))) : Wp n0 p e R s below Q T (mkF m pc Ls (.int x :: .ref a :: S)) := by
  obtain ⟨hx, hZ, hby, hml, hret, hown, hnm, hlk, eT, hn0, hw, locs, N, Y⟩ := X
  obtain ⟨hd, rfl⟩ := hd
  obtain ⟨-, hn, cl, A, hs, hv⟩ := B
  subst hi
  exact Wp.go (fun _ q => Y.iaload hx (g := mkF m pc Ls (.int (Int32.ofNat i) :: .ref a :: S)) (j := Int32.ofNat i) (v := .int (b i)) (by rw [eT]; exact A.1) (State.isArrayOf_alike hZ.alike A.2.1) A.2.2 (inb hn hs hlt) (by rw [ofNat_clamp (by omega)]; exact hv i hlt) rfl rfl (hb hby hd) _ q) q
theorem w_laload (X : Pos Z a0 n0 p l e R s m args below meth c code ml ret y T h k j) {a : Addr} {n : Nat} {b : Nat → Int64} {x : Int32} (hd : Dec code pc .laload 1 nx) (B : Ba Z n0 h a .long n (bJ b)) (i : Nat) (hi : x = Int32.ofNat i) (hlt : i < n) (q : Wp n0 p e R s below Q T (mkF m nx Ls (.long (b i) :: S))) : Wp n0 p e R s below Q T (mkF m pc Ls (.int x :: .ref a :: S)) := by
  obtain ⟨hx, hZ, hby, hml, hret, hown, hnm, hlk, eT, hn0, hw, locs, N, Y⟩ := X
  obtain ⟨hd, rfl⟩ := hd
  obtain ⟨-, hn, cl, A, hs, hv⟩ := B
  subst hi
  exact Wp.go (fun _ q => Y.laload hx (g := mkF m pc Ls (.int (Int32.ofNat i) :: .ref a :: S)) (j := Int32.ofNat i) (v := .long (b i)) (by rw [eT]; exact A.1) (State.isArrayOf_alike hZ.alike A.2.1) A.2.2 (inb hn hs hlt) (by rw [ofNat_clamp (by omega)]; exact hv i hlt) rfl rfl (hb hby hd) _ q) q
theorem w_bastore (X : Pos Z a0 n0 p l e R s m args below meth c code ml ret y T h k j) {a : Addr} {n : Nat} {b : Nat → Int32} {x : Int32} {v : Int32} (hd : Dec code pc .bastore 1 nx) (B : Ba Z n0 h a .byte n (bI b)) (i : Nat) (hi : x = Int32.ofNat i) (hlt : i < n)
    (q : ∀ T' h', Pos Z a0 n0 p l e R s m args below meth c code ml ret y T' h' k j → Keep h h' [a] → Ba Z n0 h' a .byte n (bI (upd b i (jbyte v))) → Wp n0 p e R s below Q T' (mkF m nx Ls S)) : Wp n0 p e R s below Q T (mkF m pc Ls (.int v :: .int x :: .ref a :: S)) := by
  obtain ⟨hx, hZ, hby, hml, hret, hown, hnm, hlk, eT, hn0, hw, locs, N, Y⟩ := X
  obtain ⟨hd, rfl⟩ := hd
  obtain ⟨hna, hn, cl, A, hs, hv⟩ := B
  subst hi
  obtain ⟨T', h', Y', e', W', st⟩ := stB Y hx hZ eT A (j := Int32.ofNat i) (inb hn hs hlt) (g := mkF m pc Ls (.int v :: .int (Int32.ofNat i) :: .ref a :: S)) rfl rfl (hb hby hd)
  refine Wp.go st (q T' h' ⟨hx, hZ, hby, hml, hret, hown, hnm, hlk, e', by rw [W'.size]; exact hn0, hw, _, Fr.snoc Y' N hna, Y'⟩ (Keep.of_wr W') ⟨hna, hn, _, A.same W', (sz_set _ _ _).trans hs, fun q hq => ?_⟩)
  rw [ofNat_clamp (by omega)]
  by_cases hqi : q = i
  · subst hqi
    simp [Cell.setSlot, hs, hq, upd, bI, nar]
  · simp [Cell.setSlot, upd, hqi, bI, Array.getElem?_setIfInBounds_ne (Ne.symm hqi), hv q hq]
theorem w_iastore (X : Pos Z a0 n0 p l e R s m args below meth c code ml ret y T h k j) {a : Addr} {n : Nat} {b : Nat → Int32} {x : Int32} {v : Int32} (hd : Dec code pc .iastore 1 nx) (B : Ba Z n0 h a .int n (bI b)) (i : Nat) (hi : x = Int32.ofNat i) (hlt : i < n)
    (q : ∀ T' h', Pos Z a0 n0 p l e R s m args below meth c code ml ret y T' h' k j → Keep h h' [a] → Ba Z n0 h' a .int n (bI (upd b i (v))) → Wp n0 p e R s below Q T' (mkF m nx Ls S)) : Wp n0 p e R s below Q T (mkF m pc Ls (.int v :: .int x :: .ref a :: S)) := by
  obtain ⟨hx, hZ, hby, hml, hret, hown, hnm, hlk, eT, hn0, hw, locs, N, Y⟩ := X
  obtain ⟨hd, rfl⟩ := hd
  obtain ⟨hna, hn, cl, A, hs, hv⟩ := B
  subst hi
  obtain ⟨T', h', Y', e', W', st⟩ := stI Y hx hZ eT A (j := Int32.ofNat i) (inb hn hs hlt) (g := mkF m pc Ls (.int v :: .int (Int32.ofNat i) :: .ref a :: S)) rfl rfl (hb hby hd)
  refine Wp.go st (q T' h' ⟨hx, hZ, hby, hml, hret, hown, hnm, hlk, e', by rw [W'.size]; exact hn0, hw, _, Fr.snoc Y' N hna, Y'⟩ (Keep.of_wr W') ⟨hna, hn, _, A.same W', (sz_set _ _ _).trans hs, fun q hq => ?_⟩)
  rw [ofNat_clamp (by omega)]
  by_cases hqi : q = i
  · subst hqi
    simp [Cell.setSlot, hs, hq, upd, bI]
  · simp [Cell.setSlot, upd, hqi, bI, Array.getElem?_setIfInBounds_ne (Ne.symm hqi), hv q hq]
theorem w_lastore (X : Pos Z a0 n0 p l e R s m args below meth c code ml ret y T h k j) {a : Addr} {n : Nat} {b : Nat → Int64} {x : Int32} {v : Int64} (hd : Dec code pc .lastore 1 nx) (B : Ba Z n0 h a .long n (bJ b)) (i : Nat) (hi : x = Int32.ofNat i) (hlt : i < n)
    (q : ∀ T' h', Pos Z a0 n0 p l e R s m args below meth c code ml ret y T' h' k j → Keep h h' [a] → Ba Z n0 h' a .long n (bJ (upd b i (v))) → Wp n0 p e R s below Q T' (mkF m nx Ls S)) : Wp n0 p e R s below Q T (mkF m pc Ls (.long v :: .int x :: .ref a :: S)) := by
  obtain ⟨hx, hZ, hby, hml, hret, hown, hnm, hlk, eT, hn0, hw, locs, N, Y⟩ := X
  obtain ⟨hd, rfl⟩ := hd
  obtain ⟨hna, hn, cl, A, hs, hv⟩ := B
  subst hi
  obtain ⟨T', h', Y', e', W', st⟩ := stJ Y hx hZ eT A (j := Int32.ofNat i) (inb hn hs hlt) (g := mkF m pc Ls (.long v :: .int (Int32.ofNat i) :: .ref a :: S)) rfl rfl (hb hby hd)
  refine Wp.go st (q T' h' ⟨hx, hZ, hby, hml, hret, hown, hnm, hlk, e', by rw [W'.size]; exact hn0, hw, _, Fr.snoc Y' N hna, Y'⟩ (Keep.of_wr W') ⟨hna, hn, _, A.same W', (sz_set _ _ _).trans hs, fun q hq => ?_⟩)
  rw [ofNat_clamp (by omega)]
  by_cases hqi : q = i
  · subst hqi
    simp [Cell.setSlot, hs, hq, upd, bJ]
  · simp [Cell.setSlot, upd, hqi, bJ, Array.getElem?_setIfInBounds_ne (Ne.symm hqi), hv q hq]
theorem w_newB (X : Pos Z a0 n0 p l e R s m args below meth c code ml ret y T h k j) {x : Int32} (hd : Dec code pc (.newarray .byte) 2 nx) (wa : (Jvm.Cond.arrayClass .byte).before a0 Z = true) (n cap : Nat) (hx' : x = Int32.ofNat n) (hcap : n ≤ cap) (hb' : cap * 8 ≤ 536870912) (hk : k + 1 ≤ R.cells) (hj : j + cap ≤ R.slots)
    (q : ∀ T' h' a, Pos Z a0 n0 p l e R s m args below meth c code ml ret y T' h' (k + 1) (j + cap) → a = h.size → Ext h h' → Ba Z n0 h' a .byte n (bI fun _ => 0) → Wp n0 p e R s below Q T' (mkF m nx Ls (.ref a :: S))) : Wp n0 p e R s below Q T (mkF m pc Ls (.int x :: S)) := by
  obtain ⟨hx, hZ, hby, hml, hret, hown, hnm, hlk, eT, hn0, hw, locs, N, Y⟩ := X
  obtain ⟨hd, rfl⟩ := hd
  subst hx'
  obtain ⟨T', h', cA, Y', e', E', A', st⟩ := newP Y hx hZ (aty := .byte) wa eT (g := mkF m pc Ls (.int (Int32.ofNat n) :: S)) rfl (hb hby hd) rfl (ofNat_nn (by omega)) (cap := cap) (by rw [ofNat_clamp (by omega)]; exact hcap) hb' hk hj
  refine Wp.go st (q T' h' _ ⟨hx, hZ, hby, hml, hret, hown, hnm, hlk, e', Nat.le_trans hn0 E'.1, hw, _, N, Y'⟩ rfl E' ⟨hn0, by omega, _, A', by rw [sz_new, ofNat_clamp (by omega)], fun i hi => ?_⟩)
  have := get_new (cA := cA) (ty := .byte) (n := Int32.ofNat n) (k := Int32.ofNat i) (by rw [ofNat_clamp (by omega), ofNat_clamp (by omega)]; exact fun q => q.elim (ofNat_nn (by omega)) (fun q => by omega))
  rw [ofNat_clamp (by omega)] at this
  exact this
theorem w_newI (X : Pos Z a0 n0 p l e R s m args below meth c code ml ret y T h k j) {x : Int32} (hd : Dec code pc (.newarray .int) 2 nx) (wa : (Jvm.Cond.arrayClass .int).before a0 Z = true) (n cap : Nat) (hx' : x = Int32.ofNat n) (hcap : n ≤ cap) (hb' : cap * 8 ≤ 536870912) (hk : k + 1 ≤ R.cells) (hj : j + cap ≤ R.slots)
    (q : ∀ T' h' a, Pos Z a0 n0 p l e R s m args below meth c code ml ret y T' h' (k + 1) (j + cap) → a = h.size → Ext h h' → Ba Z n0 h' a .int n (bI fun _ => 0) → Wp n0 p e R s below Q T' (mkF m nx Ls (.ref a :: S))) : Wp n0 p e R s below Q T (mkF m pc Ls (.int x :: S)) := by
  obtain ⟨hx, hZ, hby, hml, hret, hown, hnm, hlk, eT, hn0, hw, locs, N, Y⟩ := X
  obtain ⟨hd, rfl⟩ := hd
  subst hx'
  obtain ⟨T', h', cA, Y', e', E', A', st⟩ := newP Y hx hZ (aty := .int) wa eT (g := mkF m pc Ls (.int (Int32.ofNat n) :: S)) rfl (hb hby hd) rfl (ofNat_nn (by omega)) (cap := cap) (by rw [ofNat_clamp (by omega)]; exact hcap) hb' hk hj
  refine Wp.go st (q T' h' _ ⟨hx, hZ, hby, hml, hret, hown, hnm, hlk, e', Nat.le_trans hn0 E'.1, hw, _, N, Y'⟩ rfl E' ⟨hn0, by omega, _, A', by rw [sz_new, ofNat_clamp (by omega)], fun i hi => ?_⟩)
  have := get_new (cA := cA) (ty := .int) (n := Int32.ofNat n) (k := Int32.ofNat i) (by rw [ofNat_clamp (by omega), ofNat_clamp (by omega)]; exact fun q => q.elim (ofNat_nn (by omega)) (fun q => by omega))
  rw [ofNat_clamp (by omega)] at this
  exact this
theorem w_newJ (X : Pos Z a0 n0 p l e R s m args below meth c code ml ret y T h k j) {x : Int32} (hd : Dec code pc (.newarray .long) 2 nx) (wa : (Jvm.Cond.arrayClass .long).before a0 Z = true) (n cap : Nat) (hx' : x = Int32.ofNat n) (hcap : n ≤ cap) (hb' : cap * 8 ≤ 536870912) (hk : k + 1 ≤ R.cells) (hj : j + cap ≤ R.slots)
    (q : ∀ T' h' a, Pos Z a0 n0 p l e R s m args below meth c code ml ret y T' h' (k + 1) (j + cap) → a = h.size → Ext h h' → Ba Z n0 h' a .long n (bJ fun _ => 0) → Wp n0 p e R s below Q T' (mkF m nx Ls (.ref a :: S))) : Wp n0 p e R s below Q T (mkF m pc Ls (.int x :: S)) := by
  obtain ⟨hx, hZ, hby, hml, hret, hown, hnm, hlk, eT, hn0, hw, locs, N, Y⟩ := X
  obtain ⟨hd, rfl⟩ := hd
  subst hx'
  obtain ⟨T', h', cA, Y', e', E', A', st⟩ := newP Y hx hZ (aty := .long) wa eT (g := mkF m pc Ls (.int (Int32.ofNat n) :: S)) rfl (hb hby hd) rfl (ofNat_nn (by omega)) (cap := cap) (by rw [ofNat_clamp (by omega)]; exact hcap) hb' hk hj
  refine Wp.go st (q T' h' _ ⟨hx, hZ, hby, hml, hret, hown, hnm, hlk, e', Nat.le_trans hn0 E'.1, hw, _, N, Y'⟩ rfl E' ⟨hn0, by omega, _, A', by rw [sz_new, ofNat_clamp (by omega)], fun i hi => ?_⟩)
  have := get_new (cA := cA) (ty := .long) (n := Int32.ofNat n) (k := Int32.ofNat i) (by rw [ofNat_clamp (by omega), ofNat_clamp (by omega)]; exact fun q => q.elim (ofNat_nn (by omega)) (fun q => by omega))
  rw [ofNat_clamp (by omega)] at this
  exact this
theorem w_static (X : Pos Z a0 n0 p l e R s m args below meth c code ml ret y T h k j) {z : MethodName} {cz : ByteArray} {mz : Nat} {rz : Option FieldType} {rm : Room} {Qz : Option Value → Heap → Prop} {ps : List FieldType} {rr : Option FieldType} {i : Nat} {argsL : List Value} (hd : Dec code pc (.invokestatic i) 3 nx) (C : Ctr l Z n0 z cz mz rz rm [] argsL.toArray h Qz) (wl : (Jvm.Cond.methodLink y.cls i z).before a0 Z = true) (ws : (Jvm.Cond.static z).before a0 Z = true) (wi : (Jvm.Cond.initialized z.cls).before a0 Z = true) (wc : (Jvm.Cond.code z cz mz rz).before a0 Z = true)
    (hz : z.cls ≠ "java/lang/invoke/MethodHandle" ∧ z.cls ≠ "java/lang/invoke/VarHandle") (hpd : parseMethodDescriptor z.desc = some ⟨ps, rr⟩) (hlen : argsL.length = ps.length) {S0 : List Value} (hS : S0 = argsL.reverse ++ S) (hsz : Ls.size = ml)
    (hf : rm.frames + 1 ≤ R.frames) (hlo : (S.map fun v => v.category).sum + (mz + 11) + rm.locals ≤ R.locals) (hk : k + rm.cells ≤ R.cells) (hj : j + rm.slots ≤ R.slots)
    (q : ∀ v T' h', Pos Z a0 n0 p l e R s m args below meth c code ml ret y T' h' (k + rm.cells) (j + rm.slots) → Qz v h' → Wp n0 p e R s below Q T' (mkF m nx Ls (v.toList ++ S))) : Wp n0 p e R s below Q T (mkF m pc Ls S0) := by
  obtain ⟨hx, hZ, hby, hml, hret, hown, hnm, hlk, eT, hn0, hw, locs, N, Y⟩ := X
  obtain ⟨hd, rfl⟩ := hd
  obtain ⟨v, _, ⟨T', L', k', j'⟩, -, Y', ⟨Lc, hQ, l1, l2, l3⟩, st⟩ := Jvm.LawKit.callS Y hx (y := z) hown (mvT hZ wl) (mvT hZ ws) (mvT hZ wi) (mvT hZ wc) hz (backOf (W := (S.map fun v => v.category).sum) (Q := fun v h L => Fr n0 L ∧ n0 ≤ h.size ∧ Qz v h) C hZ wc wi hf hlo) (g := mkF m pc Ls S0) rfl (by rw [hml]; exact hsz) (argsL := argsL) (rest := S) (lenOf hpd hlen) hS (by show 2 * 0 + _ ≤ _; omega) (hb hby hd) (fun _ _ => ⟨rfl, eT, hk, hj⟩)
  dsimp only [Pt.U, Pt.locs, Pt.cells, Pt.slots] at Y' l1 l2 l3 st hQ
  subst l1 l2 l3
  obtain ⟨N', hn', hQ⟩ := hQ
  exact Wp.go st (q v T' _ ⟨hx, hZ, hby, hml, hret, hown, hnm, hlk, rfl, hn', hw, _, Fr.app N N', Y'⟩ hQ)
theorem w_virtual (X : Pos Z a0 n0 p l e R s m args below meth c code ml ret y T h k j) {z : MethodName} {cz : ByteArray} {mz : Nat} {rz : Option FieldType} {rm : Room} {Qz : Option Value → Heap → Prop} {ps : List FieldType} {rr : Option FieldType} {i : Nat} {argsL : List Value} {a : Addr} (hd : Dec code pc (.invokevirtual i) 3 nx) (C : Ctr l Z n0 z cz mz rz rm [] (.ref a :: argsL).toArray h Qz) (E : Exa Z h a z.cls) (wl : (Jvm.Cond.methodLink y.cls i z).before a0 Z = true) (wdc : (Jvm.Cond.declares z).before a0 Z = true) (wse : (Jvm.Cond.selects z.cls z z).before a0 Z = true) (wim : (Jvm.Cond.instanceMethod z).before a0 Z = true) (wi : (Jvm.Cond.initialized z.cls).before a0 Z = true) (wc : (Jvm.Cond.code z cz mz rz).before a0 Z = true)
    (hz : z.cls ≠ "java/lang/invoke/MethodHandle" ∧ z.cls ≠ "java/lang/invoke/VarHandle") (hpd : parseMethodDescriptor z.desc = some ⟨ps, rr⟩) (hlen : argsL.length = ps.length) {S0 : List Value} (hS : S0 = argsL.reverse ++ .ref a :: S) (hsz : Ls.size = ml)
    (hf : rm.frames + 1 ≤ R.frames) (hlo : (S.map fun v => v.category).sum + (mz + 11) + rm.locals ≤ R.locals) (hk : k + rm.cells ≤ R.cells) (hj : j + rm.slots ≤ R.slots)
    (q : ∀ v T' h', Pos Z a0 n0 p l e R s m args below meth c code ml ret y T' h' (k + rm.cells) (j + rm.slots) → Qz v h' → Wp n0 p e R s below Q T' (mkF m nx Ls (v.toList ++ S))) : Wp n0 p e R s below Q T (mkF m pc Ls S0) := by
  obtain ⟨hx, hZ, hby, hml, hret, hown, hnm, hlk, eT, hn0, hw, locs, N, Y⟩ := X
  obtain ⟨hd, rfl⟩ := hd
  obtain ⟨cq, kq, qa, qb, qc⟩ := isOf hZ eT E
  have Ctr' := backOf (l := l) (R := R) (p := p) (e := e) (below := below) (s := s) (args := args) (len := 3) (W := (S.map fun v => v.category).sum) (Q := fun v h L => Fr n0 L ∧ n0 ≤ h.size ∧ Qz v h) C hZ wc wi hf hlo
  obtain ⟨v, _, ⟨T', L', k', j'⟩, -, Y', ⟨Lc, hQ, l1, l2, l3⟩, st⟩ := Y.virtualBack hx (y := z) (z := z) hown (mvT hZ wl) (mvT hZ wdc) (notFace_of_selects (args := #[]) (mvT hZ wse)) (mvT hZ wse) (mvT hZ wim) hz Ctr' qa qc (g := mkF m pc Ls S0) rfl (by rw [hml]; exact hsz) (Steps.refl _) (argsL := argsL) (rest := S) (lenOf hpd hlen) hS (by show 2 * 0 + _ ≤ _; omega) (hb hby hd) (fun _ _ => ⟨rfl, eT, hk, hj⟩)
  dsimp only [Pt.U, Pt.locs, Pt.cells, Pt.slots] at Y' l1 l2 l3 st hQ
  subst l1 l2 l3
  obtain ⟨N', hn', hQ⟩ := hQ
  exact Wp.go (fun _ t => st.trans t) (q v T' _ ⟨hx, hZ, hby, hml, hret, hown, hnm, hlk, rfl, hn', hw, _, Fr.app N N', Y'⟩ hQ)
theorem w_special (X : Pos Z a0 n0 p l e R s m args below meth c code ml ret y T h k j) {z : MethodName} {cz : ByteArray} {mz : Nat} {rm : Room} {Qz : Option Value → Heap → Prop} {ps : List FieldType} {rr : Option FieldType} {i : Nat} {argsL : List Value} {a : Addr} (hd : Dec code pc (.invokespecial i) 3 nx) (C : Ctr l Z n0 z cz mz none rm [] (.ref a :: argsL).toArray h Qz) (hz1 : z.name = "<init>") (wl : (Jvm.Cond.methodLink y.cls i z).before a0 Z = true) (wim : (Jvm.Cond.instanceMethod z).before a0 Z = true) (wi : (Jvm.Cond.initialized z.cls).before a0 Z = true) (wc : (Jvm.Cond.code z cz mz none).before a0 Z = true)
    (hz : z.cls ≠ "java/lang/invoke/MethodHandle" ∧ z.cls ≠ "java/lang/invoke/VarHandle") (hpd : parseMethodDescriptor z.desc = some ⟨ps, rr⟩) (hlen : argsL.length = ps.length) {S0 : List Value} (hS : S0 = argsL.reverse ++ .ref a :: S) (hsz : Ls.size = ml)
    (hf : rm.frames + 1 ≤ R.frames) (hlo : (S.map fun v => v.category).sum + (mz + 11) + rm.locals ≤ R.locals) (hk : k + rm.cells ≤ R.cells) (hj : j + rm.slots ≤ R.slots)
    (q : ∀ v T' h', Pos Z a0 n0 p l e R s m args below meth c code ml ret y T' h' (k + rm.cells) (j + rm.slots) → Qz v h' → Wp n0 p e R s below Q T' (mkF m nx Ls (v.toList ++ S))) : Wp n0 p e R s below Q T (mkF m pc Ls S0) := by
  obtain ⟨hx, hZ, hby, hml, hret, hown, hnm, hlk, eT, hn0, hw, locs, N, Y⟩ := X
  obtain ⟨hd, rfl⟩ := hd
  have Ctr' := backOf (l := l) (R := R) (p := p) (e := e) (below := below) (s := s) (args := args) (len := 3) (W := (S.map fun v => v.category).sum) (Q := fun v h L => Fr n0 L ∧ n0 ≤ h.size ∧ Qz v h) C hZ wc wi hf hlo
  obtain ⟨v, _, ⟨T', L', k', j'⟩, -, Y', ⟨Lc, hQ, l1, l2, l3⟩, st⟩ := Y.specialBack hx (y := z) hz1 hown (mvT hZ wl) (mvT hZ wim) (mvT hZ wc) hz Ctr' (g := mkF m pc Ls S0) rfl (by rw [hml]; exact hsz) (Steps.refl _) (a := a) (argsL := argsL) (rest := S) (lenOf hpd hlen) hS (by show 2 * 0 + _ ≤ _; omega) (hb hby hd) (fun _ _ => ⟨rfl, eT, hk, hj⟩)
  dsimp only [Pt.U, Pt.locs, Pt.cells, Pt.slots] at Y' l1 l2 l3 st hQ
  subst l1 l2 l3
  obtain ⟨N', hn', hQ⟩ := hQ
  exact Wp.go (fun _ t => st.trans t) (q v T' _ ⟨hx, hZ, hby, hml, hret, hown, hnm, hlk, rfl, hn', hw, _, Fr.app N N', Y'⟩ hQ)
theorem w_new (X : Pos Z a0 n0 p l e R s m args below meth c code ml ret y T h k j) {i n : Nat} {C : String} (hd : Dec code pc (.new i) 3 nx) (w : (Jvm.Cond.classLink y.cls i C).before a0 Z = true) (wi : (Jvm.Cond.instantiable C n).before a0 Z = true) (wz : (Jvm.Cond.initialized C).before a0 Z = true) (hk : k + 1 ≤ R.cells) (hj : j + n ≤ R.slots)
    (q : ∀ T' h' a, Pos Z a0 n0 p l e R s m args below meth c code ml ret y T' h' (k + 1) (j + n) → a = h.size → n0 ≤ a → Ext h h' → Exa Z h' a C → (∀ {O nm d : String} {ty : FieldType}, Laid Z a0 C O nm d → parseFieldDescriptor d = some ty → Fld Z h' a O nm d (defaultValue ty)) → Wp n0 p e R s below Q T' (mkF m nx Ls (.ref a :: S))) : Wp n0 p e R s below Q T (mkF m pc Ls S) := by
  obtain ⟨hx, hZ, hby, hml, hret, hown, hnm, hlk, eT, hn0, hw, locs, N, Y⟩ := X
  obtain ⟨hd, rfl⟩ := hd
  obtain ⟨T', h', Y', e', E', A', D', -, st⟩ := newO Y hx hZ hown w wi wz eT (g := mkF m pc Ls S) rfl (hb hby hd) hk hj
  exact Wp.go st (q T' h' _ ⟨hx, hZ, hby, hml, hret, hown, hnm, hlk, e', Nat.le_trans hn0 E'.1, hw, _, N, Y'⟩ rfl hn0 E' A' D')
theorem w_getF (X : Pos Z a0 n0 p l e R s m args below meth c code ml ret y T h k j) {i : Nat} {O nm d : String} {a : Addr} {v : Value} (hd : Dec code pc (.getfield i) 3 nx) (w : (Jvm.Cond.fieldLink y.cls i O nm d).before a0 Z = true) (F : Fld Z h a O nm d v)
    (q : ∀ T', Pos Z a0 n0 p l e R s m args below meth c code ml ret y T' h k j → Wp n0 p e R s below Q T' (mkF m nx Ls (v :: S))) : Wp n0 p e R s below Q T (mkF m pc Ls (.ref a :: S)) := by
  obtain ⟨hx, hZ, hby, hml, hret, hown, hnm, hlk, eT, hn0, hw, locs, N, Y⟩ := X
  obtain ⟨hd, rfl⟩ := hd
  obtain ⟨T', Y', e', st⟩ := getF Y hx hZ hown (host := "") (Or.inl w) Via.refl eT F (g := mkF m pc Ls (.ref a :: S)) rfl rfl (hb hby hd)
  exact Wp.go st (q T' ⟨hx, hZ, hby, hml, hret, hown, hnm, hlk, e', hn0, hw, _, N, Y'⟩)
theorem w_putF (X : Pos Z a0 n0 p l e R s m args below meth c code ml ret y T h k j) {i kk : Nat} {C O nm d : String} {ty : FieldType} {a : Addr} {v old : Value} (hd : Dec code pc (.putfield i) 3 nx) (w : (Jvm.Cond.fieldLink y.cls i O nm d).before a0 Z = true) (F : Fld Z h a O nm d old) (E : Exa Z h a C) (hna : n0 ≤ a) (L : (Jvm.Cond.lays C O nm d).before a0 Z = true ∨ ((Jvm.Cond.laysFinal C O nm d).before a0 Z = true ∧ y.cls = O ∧ y.name = "<init>")) (wi : (Jvm.Cond.instantiable C kk).before a0 Z = true) (hty : parseFieldDescriptor d = some ty) (hn : narrow ty v = v) (hf : fits ty v = true)
    (q : ∀ T' h', Pos Z a0 n0 p l e R s m args below meth c code ml ret y T' h' k j → Wr h h' a (Jvm.RoadKit.slotOf Z O nm d) v → Wp n0 p e R s below Q T' (mkF m nx Ls S)) : Wp n0 p e R s below Q T (mkF m pc Ls (v :: .ref a :: S)) := by
  obtain ⟨hx, hZ, hby, hml, hret, hown, hnm, hlk, eT, hn0, hw, locs, N, Y⟩ := X
  obtain ⟨hd, rfl⟩ := hd
  obtain ⟨T', h', Y', e', W', st⟩ := putF Y hx hZ hown (host := "") (Or.inl w) Via.refl eT F E (L.imp id fun q => ⟨q.1, q.2.1, hnm.trans q.2.2⟩) wi hty hn hf (g := mkF m pc Ls (v :: .ref a :: S)) rfl rfl (hb hby hd)
  exact Wp.go st (q T' h' ⟨hx, hZ, hby, hml, hret, hown, hnm, hlk, e', by rw [W'.size]; exact hn0, hw, _, Fr.snoc Y' N hna, Y'⟩ W')
end OwnKit
theorem D0_0 : Dec code 0 (.iload_n 0) 1 1 := ⟨at_0, rfl⟩
theorem D0_1 : Dec code 1 (.ldc 7) 2 3 := ⟨at_1, rfl⟩
theorem D0_3 : Dec code 3 .iand 1 4 := ⟨at_3, rfl⟩
theorem D0_4 : Dec code 4 (.istore 4) 2 6 := ⟨at_4, rfl⟩
theorem D0_6 : Dec code 6 (.iload_n 1) 1 7 := ⟨at_6, rfl⟩
theorem D0_7 : Dec code 7 (.iconst 3) 1 8 := ⟨at_7, rfl⟩
theorem D0_8 : Dec code 8 .iand 1 9 := ⟨at_8, rfl⟩
theorem D0_9 : Dec code 9 (.istore 5) 2 11 := ⟨at_9, rfl⟩
theorem D0_11 : Dec code 11 (.bipush 12) 2 13 := ⟨at_11, rfl⟩
theorem D0_13 : Dec code 13 (.newarray .byte) 2 15 := ⟨at_13, rfl⟩
theorem D0_15 : Dec code 15 (.astore 6) 2 17 := ⟨at_15, rfl⟩
theorem D0_17 : Dec code 17 (.iload_n 2) 1 18 := ⟨at_17, rfl⟩
theorem D0_18 : Dec code 18 (.iload_n 3) 1 19 := ⟨at_18, rfl⟩
theorem D0_19 : Dec code 19 (.iconst 3) 1 20 := ⟨at_19, rfl⟩
theorem D0_20 : Dec code 20 .iushr 1 21 := ⟨at_20, rfl⟩
theorem D0_21 : Dec code 21 .ixor 1 22 := ⟨at_21, rfl⟩
theorem D0_22 : Dec code 22 (.ldc 8) 2 24 := ⟨at_22, rfl⟩
theorem D0_24 : Dec code 24 .ixor 1 25 := ⟨at_24, rfl⟩
theorem D0_25 : Dec code 25 (.istore 7) 2 27 := ⟨at_25, rfl⟩
theorem D0_27 : Dec code 27 (.aload 6) 2 29 := ⟨at_27, rfl⟩
theorem D0_29 : Dec code 29 (.iconst 0) 1 30 := ⟨at_29, rfl⟩
theorem D0_30 : Dec code 30 (.iload_n 2) 1 31 := ⟨at_30, rfl⟩
theorem D0_31 : Dec code 31 (.iconst 0) 1 32 := ⟨at_31, rfl⟩
theorem D0_32 : Dec code 32 (.invokestatic 9) 3 35 := ⟨at_32, rfl⟩
theorem D0_35 : Dec code 35 .bastore 1 36 := ⟨at_35, rfl⟩
theorem D0_36 : Dec code 36 (.aload 6) 2 38 := ⟨at_36, rfl⟩
theorem D0_38 : Dec code 38 (.iconst 1) 1 39 := ⟨at_38, rfl⟩
theorem D0_39 : Dec code 39 (.iload_n 2) 1 40 := ⟨at_39, rfl⟩
theorem D0_40 : Dec code 40 (.iconst 1) 1 41 := ⟨at_40, rfl⟩
theorem D0_41 : Dec code 41 (.invokestatic 9) 3 44 := ⟨at_41, rfl⟩
theorem D0_44 : Dec code 44 .bastore 1 45 := ⟨at_44, rfl⟩
theorem D0_45 : Dec code 45 (.aload 6) 2 47 := ⟨at_45, rfl⟩
theorem D0_47 : Dec code 47 (.iconst 2) 1 48 := ⟨at_47, rfl⟩
theorem D0_48 : Dec code 48 (.iload_n 2) 1 49 := ⟨at_48, rfl⟩
theorem D0_49 : Dec code 49 (.iconst 2) 1 50 := ⟨at_49, rfl⟩
theorem D0_50 : Dec code 50 (.invokestatic 9) 3 53 := ⟨at_50, rfl⟩
theorem D0_53 : Dec code 53 .bastore 1 54 := ⟨at_53, rfl⟩
theorem D0_54 : Dec code 54 (.aload 6) 2 56 := ⟨at_54, rfl⟩
theorem D0_56 : Dec code 56 (.iconst 3) 1 57 := ⟨at_56, rfl⟩
theorem D0_57 : Dec code 57 (.iload_n 2) 1 58 := ⟨at_57, rfl⟩
theorem D0_58 : Dec code 58 (.iconst 3) 1 59 := ⟨at_58, rfl⟩
theorem D0_59 : Dec code 59 (.invokestatic 9) 3 62 := ⟨at_59, rfl⟩
theorem D0_62 : Dec code 62 .bastore 1 63 := ⟨at_62, rfl⟩
theorem D0_63 : Dec code 63 (.aload 6) 2 65 := ⟨at_63, rfl⟩
theorem D0_65 : Dec code 65 (.iconst 4) 1 66 := ⟨at_65, rfl⟩
theorem D0_66 : Dec code 66 (.iload_n 3) 1 67 := ⟨at_66, rfl⟩
theorem D0_67 : Dec code 67 (.iconst 0) 1 68 := ⟨at_67, rfl⟩
theorem D0_68 : Dec code 68 (.invokestatic 9) 3 71 := ⟨at_68, rfl⟩
theorem D0_71 : Dec code 71 .bastore 1 72 := ⟨at_71, rfl⟩
theorem D0_72 : Dec code 72 (.aload 6) 2 74 := ⟨at_72, rfl⟩
theorem D0_74 : Dec code 74 (.iconst 5) 1 75 := ⟨at_74, rfl⟩
theorem D0_75 : Dec code 75 (.iload_n 3) 1 76 := ⟨at_75, rfl⟩
theorem D0_76 : Dec code 76 (.iconst 1) 1 77 := ⟨at_76, rfl⟩
theorem D0_77 : Dec code 77 (.invokestatic 9) 3 80 := ⟨at_77, rfl⟩
theorem D0_80 : Dec code 80 .bastore 1 81 := ⟨at_80, rfl⟩
theorem D0_81 : Dec code 81 (.aload 6) 2 83 := ⟨at_81, rfl⟩
theorem D0_83 : Dec code 83 (.bipush 6) 2 85 := ⟨at_83, rfl⟩
theorem D0_85 : Dec code 85 (.iload_n 3) 1 86 := ⟨at_85, rfl⟩
theorem D0_86 : Dec code 86 (.iconst 2) 1 87 := ⟨at_86, rfl⟩
theorem D0_87 : Dec code 87 (.invokestatic 9) 3 90 := ⟨at_87, rfl⟩
theorem D0_90 : Dec code 90 .bastore 1 91 := ⟨at_90, rfl⟩
theorem D0_91 : Dec code 91 (.aload 6) 2 93 := ⟨at_91, rfl⟩
theorem D0_93 : Dec code 93 (.bipush 7) 2 95 := ⟨at_93, rfl⟩
theorem D0_95 : Dec code 95 (.iload_n 3) 1 96 := ⟨at_95, rfl⟩
theorem D0_96 : Dec code 96 (.iconst 3) 1 97 := ⟨at_96, rfl⟩
theorem D0_97 : Dec code 97 (.invokestatic 9) 3 100 := ⟨at_97, rfl⟩
theorem D0_100 : Dec code 100 .bastore 1 101 := ⟨at_100, rfl⟩
theorem D0_101 : Dec code 101 (.aload 6) 2 103 := ⟨at_101, rfl⟩
theorem D0_103 : Dec code 103 (.bipush 8) 2 105 := ⟨at_103, rfl⟩
theorem D0_105 : Dec code 105 (.iload 7) 2 107 := ⟨at_105, rfl⟩
theorem D0_107 : Dec code 107 (.iconst 0) 1 108 := ⟨at_107, rfl⟩
theorem D0_108 : Dec code 108 (.invokestatic 9) 3 111 := ⟨at_108, rfl⟩
theorem D0_111 : Dec code 111 .bastore 1 112 := ⟨at_111, rfl⟩
theorem D0_112 : Dec code 112 (.aload 6) 2 114 := ⟨at_112, rfl⟩
theorem D0_114 : Dec code 114 (.bipush 9) 2 116 := ⟨at_114, rfl⟩
theorem D0_116 : Dec code 116 (.iload 7) 2 118 := ⟨at_116, rfl⟩
theorem D0_118 : Dec code 118 (.iconst 1) 1 119 := ⟨at_118, rfl⟩
theorem D0_119 : Dec code 119 (.invokestatic 9) 3 122 := ⟨at_119, rfl⟩
theorem D0_122 : Dec code 122 .bastore 1 123 := ⟨at_122, rfl⟩
theorem D0_123 : Dec code 123 (.aload 6) 2 125 := ⟨at_123, rfl⟩
theorem D0_125 : Dec code 125 (.bipush 10) 2 127 := ⟨at_125, rfl⟩
theorem D0_127 : Dec code 127 (.iload 7) 2 129 := ⟨at_127, rfl⟩
theorem D0_129 : Dec code 129 (.iconst 2) 1 130 := ⟨at_129, rfl⟩
theorem D0_130 : Dec code 130 (.invokestatic 9) 3 133 := ⟨at_130, rfl⟩
theorem D0_133 : Dec code 133 .bastore 1 134 := ⟨at_133, rfl⟩
theorem D0_134 : Dec code 134 (.aload 6) 2 136 := ⟨at_134, rfl⟩
theorem D0_136 : Dec code 136 (.bipush 11) 2 138 := ⟨at_136, rfl⟩
theorem D0_138 : Dec code 138 (.iload 7) 2 140 := ⟨at_138, rfl⟩
theorem D0_140 : Dec code 140 (.iconst 3) 1 141 := ⟨at_140, rfl⟩
theorem D0_141 : Dec code 141 (.invokestatic 9) 3 144 := ⟨at_141, rfl⟩
theorem D0_144 : Dec code 144 .bastore 1 145 := ⟨at_144, rfl⟩
theorem D0_145 : Dec code 145 (.iload 4) 2 147 := ⟨at_145, rfl⟩
theorem D0_147 : Dec code 147 (.sipush 128) 3 150 := ⟨at_147, rfl⟩
theorem D0_150 : Jmp code 150 (.if_icmp .ge 9) 9 153 159 := ⟨at_150, rfl, by decide, by decide⟩
theorem D0_153 : Dec code 153 (.iconst 1) 1 154 := ⟨at_153, rfl⟩
theorem D0_154 : Dec code 154 (.istore 8) 2 156 := ⟨at_154, rfl⟩
theorem D0_156 : Jmp code 156 (.goto 46) 46 159 202 := ⟨at_156, rfl, by decide, by decide⟩
theorem D0_159 : Dec code 159 (.iload 4) 2 161 := ⟨at_159, rfl⟩
theorem D0_161 : Dec code 161 (.sipush 16384) 3 164 := ⟨at_161, rfl⟩
theorem D0_164 : Jmp code 164 (.if_icmp .ge 9) 9 167 173 := ⟨at_164, rfl, by decide, by decide⟩
theorem D0_167 : Dec code 167 (.iconst 2) 1 168 := ⟨at_167, rfl⟩
theorem D0_168 : Dec code 168 (.istore 8) 2 170 := ⟨at_168, rfl⟩
theorem D0_170 : Jmp code 170 (.goto 32) 32 173 202 := ⟨at_170, rfl, by decide, by decide⟩
theorem D0_173 : Dec code 173 (.iload 4) 2 175 := ⟨at_173, rfl⟩
theorem D0_175 : Dec code 175 (.ldc 15) 2 177 := ⟨at_175, rfl⟩
theorem D0_177 : Jmp code 177 (.if_icmp .ge 9) 9 180 186 := ⟨at_177, rfl, by decide, by decide⟩
theorem D0_180 : Dec code 180 (.iconst 3) 1 181 := ⟨at_180, rfl⟩
theorem D0_181 : Dec code 181 (.istore 8) 2 183 := ⟨at_181, rfl⟩
theorem D0_183 : Jmp code 183 (.goto 19) 19 186 202 := ⟨at_183, rfl, by decide, by decide⟩
theorem D0_186 : Dec code 186 (.iload 4) 2 188 := ⟨at_186, rfl⟩
theorem D0_188 : Dec code 188 (.ldc 16) 2 190 := ⟨at_188, rfl⟩
theorem D0_190 : Jmp code 190 (.if_icmp .ge 9) 9 193 199 := ⟨at_190, rfl, by decide, by decide⟩
theorem D0_193 : Dec code 193 (.iconst 4) 1 194 := ⟨at_193, rfl⟩
theorem D0_194 : Dec code 194 (.istore 8) 2 196 := ⟨at_194, rfl⟩
theorem D0_196 : Jmp code 196 (.goto 6) 6 199 202 := ⟨at_196, rfl, by decide, by decide⟩
theorem D0_199 : Dec code 199 (.iconst 5) 1 200 := ⟨at_199, rfl⟩
theorem D0_200 : Dec code 200 (.istore 8) 2 202 := ⟨at_200, rfl⟩
theorem D0_202 : Dec code 202 (.aload 6) 2 204 := ⟨at_202, rfl⟩
theorem D0_204 : Dec code 204 (.iload 5) 2 206 := ⟨at_204, rfl⟩
theorem D0_206 : Dec code 206 (.iload 4) 2 208 := ⟨at_206, rfl⟩
theorem D0_208 : Dec code 208 (.bipush 127) 2 210 := ⟨at_208, rfl⟩
theorem D0_210 : Dec code 210 .iand 1 211 := ⟨at_210, rfl⟩
theorem D0_211 : Dec code 211 (.iload 8) 2 213 := ⟨at_211, rfl⟩
theorem D0_213 : Dec code 213 (.iconst 1) 1 214 := ⟨at_213, rfl⟩
theorem D0_214 : Jmp code 214 (.if_icmp .le 9) 9 217 223 := ⟨at_214, rfl, by decide, by decide⟩
theorem D0_217 : Dec code 217 (.sipush 128) 3 220 := ⟨at_217, rfl⟩
theorem D0_220 : Jmp code 220 (.goto 4) 4 223 224 := ⟨at_220, rfl, by decide, by decide⟩
theorem D0_223 : Dec code 223 (.iconst 0) 1 224 := ⟨at_223, rfl⟩
theorem D0_224 : Dec code 224 .ior 1 225 := ⟨at_224, rfl⟩
theorem D0_225 : Dec code 225 .i2b 1 226 := ⟨at_225, rfl⟩
theorem D0_226 : Dec code 226 .bastore 1 227 := ⟨at_226, rfl⟩
theorem D0_227 : Dec code 227 (.iload 8) 2 229 := ⟨at_227, rfl⟩
theorem D0_229 : Dec code 229 (.iconst 1) 1 230 := ⟨at_229, rfl⟩
theorem D0_230 : Jmp code 230 (.if_icmp .le 33) 33 233 263 := ⟨at_230, rfl, by decide, by decide⟩
theorem D0_233 : Dec code 233 (.aload 6) 2 235 := ⟨at_233, rfl⟩
theorem D0_235 : Dec code 235 (.iload 5) 2 237 := ⟨at_235, rfl⟩
theorem D0_237 : Dec code 237 (.iconst 1) 1 238 := ⟨at_237, rfl⟩
theorem D0_238 : Dec code 238 .iadd 1 239 := ⟨at_238, rfl⟩
theorem D0_239 : Dec code 239 (.iload 4) 2 241 := ⟨at_239, rfl⟩
theorem D0_241 : Dec code 241 (.bipush 7) 2 243 := ⟨at_241, rfl⟩
theorem D0_243 : Dec code 243 .iushr 1 244 := ⟨at_243, rfl⟩
theorem D0_244 : Dec code 244 (.bipush 127) 2 246 := ⟨at_244, rfl⟩
theorem D0_246 : Dec code 246 .iand 1 247 := ⟨at_246, rfl⟩
theorem D0_247 : Dec code 247 (.iload 8) 2 249 := ⟨at_247, rfl⟩
theorem D0_249 : Dec code 249 (.iconst 2) 1 250 := ⟨at_249, rfl⟩
theorem D0_250 : Jmp code 250 (.if_icmp .le 9) 9 253 259 := ⟨at_250, rfl, by decide, by decide⟩
theorem D0_253 : Dec code 253 (.sipush 128) 3 256 := ⟨at_253, rfl⟩
theorem D0_256 : Jmp code 256 (.goto 4) 4 259 260 := ⟨at_256, rfl, by decide, by decide⟩
theorem D0_259 : Dec code 259 (.iconst 0) 1 260 := ⟨at_259, rfl⟩
theorem D0_260 : Dec code 260 .ior 1 261 := ⟨at_260, rfl⟩
theorem D0_261 : Dec code 261 .i2b 1 262 := ⟨at_261, rfl⟩
theorem D0_262 : Dec code 262 .bastore 1 263 := ⟨at_262, rfl⟩
theorem D0_263 : Dec code 263 (.iload 8) 2 265 := ⟨at_263, rfl⟩
theorem D0_265 : Dec code 265 (.iconst 2) 1 266 := ⟨at_265, rfl⟩
theorem D0_266 : Jmp code 266 (.if_icmp .le 33) 33 269 299 := ⟨at_266, rfl, by decide, by decide⟩
theorem D0_269 : Dec code 269 (.aload 6) 2 271 := ⟨at_269, rfl⟩
theorem D0_271 : Dec code 271 (.iload 5) 2 273 := ⟨at_271, rfl⟩
theorem D0_273 : Dec code 273 (.iconst 2) 1 274 := ⟨at_273, rfl⟩
theorem D0_274 : Dec code 274 .iadd 1 275 := ⟨at_274, rfl⟩
theorem D0_275 : Dec code 275 (.iload 4) 2 277 := ⟨at_275, rfl⟩
theorem D0_277 : Dec code 277 (.bipush 14) 2 279 := ⟨at_277, rfl⟩
theorem D0_279 : Dec code 279 .iushr 1 280 := ⟨at_279, rfl⟩
theorem D0_280 : Dec code 280 (.bipush 127) 2 282 := ⟨at_280, rfl⟩
theorem D0_282 : Dec code 282 .iand 1 283 := ⟨at_282, rfl⟩
theorem D0_283 : Dec code 283 (.iload 8) 2 285 := ⟨at_283, rfl⟩
theorem D0_285 : Dec code 285 (.iconst 3) 1 286 := ⟨at_285, rfl⟩
theorem D0_286 : Jmp code 286 (.if_icmp .le 9) 9 289 295 := ⟨at_286, rfl, by decide, by decide⟩
theorem D0_289 : Dec code 289 (.sipush 128) 3 292 := ⟨at_289, rfl⟩
theorem D0_292 : Jmp code 292 (.goto 4) 4 295 296 := ⟨at_292, rfl, by decide, by decide⟩
theorem D0_295 : Dec code 295 (.iconst 0) 1 296 := ⟨at_295, rfl⟩
theorem D0_296 : Dec code 296 .ior 1 297 := ⟨at_296, rfl⟩
theorem D0_297 : Dec code 297 .i2b 1 298 := ⟨at_297, rfl⟩
theorem D0_298 : Dec code 298 .bastore 1 299 := ⟨at_298, rfl⟩
theorem D0_299 : Dec code 299 (.iload 8) 2 301 := ⟨at_299, rfl⟩
theorem D0_301 : Dec code 301 (.iconst 3) 1 302 := ⟨at_301, rfl⟩
theorem D0_302 : Jmp code 302 (.if_icmp .le 33) 33 305 335 := ⟨at_302, rfl, by decide, by decide⟩
theorem D0_305 : Dec code 305 (.aload 6) 2 307 := ⟨at_305, rfl⟩
theorem D0_307 : Dec code 307 (.iload 5) 2 309 := ⟨at_307, rfl⟩
theorem D0_309 : Dec code 309 (.iconst 3) 1 310 := ⟨at_309, rfl⟩
theorem D0_310 : Dec code 310 .iadd 1 311 := ⟨at_310, rfl⟩
theorem D0_311 : Dec code 311 (.iload 4) 2 313 := ⟨at_311, rfl⟩
theorem D0_313 : Dec code 313 (.bipush 21) 2 315 := ⟨at_313, rfl⟩
theorem D0_315 : Dec code 315 .iushr 1 316 := ⟨at_315, rfl⟩
theorem D0_316 : Dec code 316 (.bipush 127) 2 318 := ⟨at_316, rfl⟩
theorem D0_318 : Dec code 318 .iand 1 319 := ⟨at_318, rfl⟩
theorem D0_319 : Dec code 319 (.iload 8) 2 321 := ⟨at_319, rfl⟩
theorem D0_321 : Dec code 321 (.iconst 4) 1 322 := ⟨at_321, rfl⟩
theorem D0_322 : Jmp code 322 (.if_icmp .le 9) 9 325 331 := ⟨at_322, rfl, by decide, by decide⟩
theorem D0_325 : Dec code 325 (.sipush 128) 3 328 := ⟨at_325, rfl⟩
theorem D0_328 : Jmp code 328 (.goto 4) 4 331 332 := ⟨at_328, rfl, by decide, by decide⟩
theorem D0_331 : Dec code 331 (.iconst 0) 1 332 := ⟨at_331, rfl⟩
theorem D0_332 : Dec code 332 .ior 1 333 := ⟨at_332, rfl⟩
theorem D0_333 : Dec code 333 .i2b 1 334 := ⟨at_333, rfl⟩
theorem D0_334 : Dec code 334 .bastore 1 335 := ⟨at_334, rfl⟩
theorem D0_335 : Dec code 335 (.iload 8) 2 337 := ⟨at_335, rfl⟩
theorem D0_337 : Dec code 337 (.iconst 4) 1 338 := ⟨at_337, rfl⟩
theorem D0_338 : Jmp code 338 (.if_icmp .le 16) 16 341 354 := ⟨at_338, rfl, by decide, by decide⟩
theorem D0_341 : Dec code 341 (.aload 6) 2 343 := ⟨at_341, rfl⟩
theorem D0_343 : Dec code 343 (.iload 5) 2 345 := ⟨at_343, rfl⟩
theorem D0_345 : Dec code 345 (.iconst 4) 1 346 := ⟨at_345, rfl⟩
theorem D0_346 : Dec code 346 .iadd 1 347 := ⟨at_346, rfl⟩
theorem D0_347 : Dec code 347 (.iload 4) 2 349 := ⟨at_347, rfl⟩
theorem D0_349 : Dec code 349 (.bipush 28) 2 351 := ⟨at_349, rfl⟩
theorem D0_351 : Dec code 351 .iushr 1 352 := ⟨at_351, rfl⟩
theorem D0_352 : Dec code 352 .i2b 1 353 := ⟨at_352, rfl⟩
theorem D0_353 : Dec code 353 .bastore 1 354 := ⟨at_353, rfl⟩
theorem D0_354 : Dec code 354 (.aload 6) 2 356 := ⟨at_354, rfl⟩
theorem D0_356 : Dec code 356 (.iload 5) 2 358 := ⟨at_356, rfl⟩
theorem D0_358 : Dec code 358 (.invokestatic 17) 3 361 := ⟨at_358, rfl⟩
theorem D0_361 : Dec code 361 (.iload 4) 2 363 := ⟨at_361, rfl⟩
theorem D0_363 : Jmp code 363 (.if_icmp .ne 7) 7 366 370 := ⟨at_363, rfl, by decide, by decide⟩
theorem D0_366 : Dec code 366 (.iconst 1) 1 367 := ⟨at_366, rfl⟩
theorem D0_367 : Jmp code 367 (.goto 4) 4 370 371 := ⟨at_367, rfl, by decide, by decide⟩
theorem D0_371 : Dec code 371 .ireturn 1 372 := ⟨at_371, rfl⟩
theorem D1_0 : Dec method_2_code 0 (.iload_n 0) 1 1 := ⟨by decide +kernel, rfl⟩
theorem D1_1 : Dec method_2_code 1 (.bipush 8) 2 3 := ⟨by decide +kernel, rfl⟩
theorem D1_3 : Dec method_2_code 3 (.iload_n 1) 1 4 := ⟨by decide +kernel, rfl⟩
theorem D1_4 : Dec method_2_code 4 .imul 1 5 := ⟨by decide +kernel, rfl⟩
theorem D1_5 : Dec method_2_code 5 .iushr 1 6 := ⟨by decide +kernel, rfl⟩
theorem D1_6 : Dec method_2_code 6 .i2b 1 7 := ⟨by decide +kernel, rfl⟩
theorem D1_7 : Dec method_2_code 7 .ireturn 1 8 := ⟨by decide +kernel, rfl⟩
theorem D2_0 : Dec prog_8_method_11_code 0 (.iconst 0) 1 1 := ⟨by decide +kernel, rfl⟩
theorem D2_1 : Dec prog_8_method_11_code 1 (.istore_n 2) 1 2 := ⟨by decide +kernel, rfl⟩
theorem D2_2 : Dec prog_8_method_11_code 2 (.iload_n 1) 1 3 := ⟨by decide +kernel, rfl⟩
theorem D2_3 : Dec prog_8_method_11_code 3 (.istore_n 3) 1 4 := ⟨by decide +kernel, rfl⟩
theorem D2_4 : Dec prog_8_method_11_code 4 (.iconst 0) 1 5 := ⟨by decide +kernel, rfl⟩
theorem D2_5 : Dec prog_8_method_11_code 5 (.istore 4) 2 7 := ⟨by decide +kernel, rfl⟩
theorem D2_7 : Dec prog_8_method_11_code 7 (.aload_n 0) 1 8 := ⟨by decide +kernel, rfl⟩
theorem D2_8 : Dec prog_8_method_11_code 8 (.iload_n 3) 1 9 := ⟨by decide +kernel, rfl⟩
theorem D2_9 : Dec prog_8_method_11_code 9 (.iinc 3 1) 3 12 := ⟨by decide +kernel, rfl⟩
theorem D2_12 : Dec prog_8_method_11_code 12 .baload 1 13 := ⟨by decide +kernel, rfl⟩
theorem D2_13 : Dec prog_8_method_11_code 13 (.istore 5) 2 15 := ⟨by decide +kernel, rfl⟩
theorem D2_15 : Dec prog_8_method_11_code 15 (.iload_n 2) 1 16 := ⟨by decide +kernel, rfl⟩
theorem D2_16 : Dec prog_8_method_11_code 16 (.iload 5) 2 18 := ⟨by decide +kernel, rfl⟩
theorem D2_18 : Dec prog_8_method_11_code 18 (.bipush 127) 2 20 := ⟨by decide +kernel, rfl⟩
theorem D2_20 : Dec prog_8_method_11_code 20 .iand 1 21 := ⟨by decide +kernel, rfl⟩
theorem D2_21 : Dec prog_8_method_11_code 21 (.iload 4) 2 23 := ⟨by decide +kernel, rfl⟩
theorem D2_23 : Dec prog_8_method_11_code 23 .ishl 1 24 := ⟨by decide +kernel, rfl⟩
theorem D2_24 : Dec prog_8_method_11_code 24 .ior 1 25 := ⟨by decide +kernel, rfl⟩
theorem D2_25 : Dec prog_8_method_11_code 25 (.istore_n 2) 1 26 := ⟨by decide +kernel, rfl⟩
theorem D2_26 : Dec prog_8_method_11_code 26 (.iload 5) 2 28 := ⟨by decide +kernel, rfl⟩
theorem D2_28 : Jmp prog_8_method_11_code 28 (.ifCond .lt 5) 5 31 33 := ⟨by decide +kernel, rfl, by decide, by decide⟩
theorem D2_31 : Dec prog_8_method_11_code 31 (.iload_n 2) 1 32 := ⟨by decide +kernel, rfl⟩
theorem D2_32 : Dec prog_8_method_11_code 32 .ireturn 1 33 := ⟨by decide +kernel, rfl⟩
theorem D2_33 : Dec prog_8_method_11_code 33 (.iinc 4 7) 3 36 := ⟨by decide +kernel, rfl⟩
theorem D2_36 : Jmp prog_8_method_11_code 36 (.goto (-29)) (-29) 39 7 := ⟨by decide +kernel, rfl, by decide, by decide⟩
theorem pd_0 : parseMethodDescriptor "(II)B" = some ⟨[.int, .int], some .byte⟩ := by decide +kernel
theorem pd_1 : parseMethodDescriptor "([BI)I" = some ⟨[(.array .byte), .int], some .int⟩ := by decide +kernel
section OwnNums
theorem n_bv (a : Nat) : (Int32.ofNat a).toBitVec = BitVec.ofNat 32 a := rfl
theorem eq_mod {x y : Int32} (h : (x.toInt - y.toInt) % 4294967296 = 0) : x = y := Int32.toInt_inj.mp (by have := rng32 x; have := rng32 y; omega)
theorem eq_modL {x y : Int64} (h : (x.toInt - y.toInt) % 18446744073709551616 = 0) : x = y := Int64.toInt_inj.mp (by have := rng64 x; have := rng64 y; omega)
theorem n_add (a b : Nat) : Int32.ofNat a + Int32.ofNat b = Int32.ofNat (a + b) := (Int32.ofNat_add a b).symm
theorem n_mul (a b : Nat) : Int32.ofNat a * Int32.ofNat b = Int32.ofNat (a * b) := (Int32.ofNat_mul a b).symm
theorem n_sub {a b : Nat} (h : b ≤ a) : Int32.ofNat a - Int32.ofNat b = Int32.ofNat (a - b) := by
  have := n_add (a - b) b
  rw [Nat.sub_add_cancel h] at this
  rw [← this, Int32.add_sub_cancel]
theorem n_and (a b : Nat) : Int32.ofNat a &&& Int32.ofNat b = Int32.ofNat (a &&& b) := by
  apply Int32.toBitVec_inj.mp
  rw [Int32.toBitVec_and, n_bv, n_bv, n_bv]
  exact BitVec.ofNat_and.symm
theorem n_or (a b : Nat) : Int32.ofNat a ||| Int32.ofNat b = Int32.ofNat (a ||| b) := by
  apply Int32.toBitVec_inj.mp
  rw [Int32.toBitVec_or, n_bv, n_bv, n_bv]
  exact BitVec.ofNat_or.symm
theorem n_q {k : Nat} (hk : k < 32) : (Int32.ofNat k).toBitVec.toNat % 32 = k := by
  rw [n_bv, BitVec.toNat_ofNat]; omega
theorem n_q64 {k : Nat} (hk : k < 64) : (Int32.ofNat k).toBitVec.toNat % 64 = k := by
  rw [n_bv, BitVec.toNat_ofNat]; omega
theorem toInt_mod (a : Nat) : ((Int32.ofNat a).toInt - a) % 4294967296 = 0 := by
  have h := bm32 (((BitVec.ofNat 32 a).toNat : Nat) : Int)
  rw [show (Int32.ofNat a).toInt = (BitVec.ofNat 32 a).toInt from rfl, BitVec.toInt_eq_toNat_bmod]
  rw [BitVec.toNat_ofNat] at *
  generalize Int.bmod ((a % 2 ^ 32 : Nat) : Int) (2 ^ 32) = w1 at *
  omega
theorem n_inj {a b : Nat} (ha : a < 2147483648) (hb : b < 2147483648) : Int32.ofNat a = Int32.ofNat b ↔ a = b := ⟨fun h => by have := congrArg Int32.toInt h; rw [ofNat_toInt ha, ofNat_toInt hb] at this; omega, fun h => by rw [h]⟩
theorem n_shl (a : Nat) {k : Nat} (hk : k < 32) : jshl (Int32.ofNat a) (Int32.ofNat k) = Int32.ofNat (a * 2 ^ k) := by
  apply eq_mod
  have h1 : ((jshl (Int32.ofNat a) (Int32.ofNat k)).toInt - (Int32.ofNat a).toInt * ((2 ^ k : Nat) : Int)) % 4294967296 = 0 := c_ishl (Int32.ofNat a) (Int32.ofNat k) k (n_q hk)
  generalize (jshl (Int32.ofNat a) (Int32.ofNat k)).toInt = w1 at *
  have h2 := toInt_mod (a * 2 ^ k)
  have h3 := toInt_mod a
  obtain ⟨q, hq⟩ := Int.dvd_of_emod_eq_zero h3
  have h4 : (Int32.ofNat a).toInt * ((2 ^ k : Nat) : Int) - ((a * 2 ^ k : Nat) : Int) = 4294967296 * (q * ((2 ^ k : Nat) : Int)) := by
    rw [Int.natCast_mul, ← Int.sub_mul, hq, Int.mul_assoc]
  omega
theorem n_ushr0 (x : Int32) : jushr x 0 = x := by
  apply Int32.toBitVec_inj.mp
  simp [jushr]
theorem n_ushr {a k : Nat} (ha : a < 2147483648) (hk : k < 32) : jushr (Int32.ofNat a) (Int32.ofNat k) = Int32.ofNat (a / 2 ^ k) := by
  rcases Nat.eq_zero_or_pos k with rfl | h0
  · rw [Nat.pow_zero, Nat.div_one]; exact n_ushr0 _
  · have hd : a / 2 ^ k ≤ a := Nat.div_le_self _ _
    refine eq_ofNat (by omega) ?_
    rw [c_iushr (Int32.ofNat a) (Int32.ofNat k) k (n_q hk) h0, ofNat_toInt ha, show ((a : Int) % 4294967296) = a by omega]
    exact (Int.natCast_ediv _ _).symm
theorem n_shr {a k : Nat} (ha : a < 2147483648) (hk : k < 32) : jshr (Int32.ofNat a) (Int32.ofNat k) = Int32.ofNat (a / 2 ^ k) := by
  have hd : a / 2 ^ k ≤ a := Nat.div_le_self _ _
  refine eq_ofNat (by omega) ?_
  rw [c_ishr (Int32.ofNat a) (Int32.ofNat k) k (n_q hk), ofNat_toInt ha]
  exact (Int.natCast_ediv _ _).symm
theorem n_low (a k : Nat) : Int32.ofNat a &&& Int32.ofNat (2 ^ k - 1) = Int32.ofNat (a % 2 ^ k) := by rw [n_and, Nat.and_two_pow_sub_one_eq_mod]
theorem n_orlow (a : Nat) {i t : Nat} (ht : t < 2 ^ i) : Int32.ofNat (2 ^ i * a) ||| Int32.ofNat t = Int32.ofNat (2 ^ i * a + t) := by rw [n_or, Nat.two_pow_add_eq_or_of_lt ht]
theorem n_rem {a k : Nat} (ha : a < 2147483648) (h1 : 0 < k) (hk : k < 2147483648) : Int32.ofNat a % Int32.ofNat k = Int32.ofNat (a % k) := by
  have hm := Nat.mod_lt a h1
  refine eq_ofNat (by omega) ?_
  rw [(c_irem (Int32.ofNat a) (Int32.ofNat k) k (ofNat_toInt hk)).1 (by rw [ofNat_toInt ha]; omega), ofNat_toInt ha]
  exact (Int.natCast_emod _ _).symm
theorem n_nn (x : Int32) (h : 0 ≤ x.toInt) : ∃ u : Nat, u < 2147483648 ∧ x = Int32.ofNat u := by
  have := rng32 x
  exact ⟨x.toInt.toNat, by omega, eq_ofNat (by omega) (by omega)⟩
theorem n_mask31 (x : Int32) : ∃ u : Nat, u < 2147483648 ∧ x &&& 2147483647 = Int32.ofNat u := n_nn _ (c_and x 2147483647 (by decide)).1
theorem n_mask (x : Int32) (k : Nat) (hk : k ≤ 31) {m : Int32} (hm : m.toBitVec.toNat = 2 ^ k - 1) : x &&& m = Int32.ofNat ((x.toInt % (2 ^ k : Nat)).toNat) := by
  have h1 : (0 : Int) < ((2 ^ k : Nat) : Int) := by
    have := Nat.two_pow_pos k
    omega
  have h2 : ((2 ^ k : Nat) : Int) ≤ 2147483648 := by
    have : 2 ^ k ≤ 2147483648 := Nat.pow_le_pow_right (n := 2) (by decide) hk
    omega
  have h3 := Int.emod_nonneg x.toInt (Int.ne_of_gt h1)
  have h4 := Int.emod_lt_of_pos x.toInt h1
  exact eq_ofNat (by omega) (by rw [c_mask x m k hk hm]; omega)
theorem jbyte_idem (x : Int32) : jbyte (jbyte x) = jbyte x := by
  have h1 := c_i2b x
  have h2 := c_i2b (jbyte x)
  exact Int32.toInt_inj.mp (by simp only [jbyte] at *; omega)
theorem jbyte_and (x : Int32) (k : Nat) (hk : k ≤ 8) {m : Int32} (hm : m.toBitVec.toNat = 2 ^ k - 1) : jbyte x &&& m = x &&& m := by
  have h1 := (c_i2b x).1
  apply Int32.toInt_inj.mp
  rw [c_mask _ m k (by omega) hm, c_mask _ m k (by omega) hm]
  have : ∃ c : Nat, 256 = 2 ^ k * c := ⟨2 ^ (8 - k), by rw [← Nat.pow_add, show k + (8 - k) = 8 by omega]⟩
  obtain ⟨c, hc⟩ := this
  obtain ⟨q, hq⟩ := Int.dvd_of_emod_eq_zero h1
  have h2 : (jbyte x).toInt = x.toInt + ((2 ^ k : Nat) : Int) * ((c : Int) * q) := by
    have h3 : (256 : Int) = ((2 ^ k : Nat) : Int) * (c : Int) := by rw [← Int.natCast_mul, ← hc]; rfl
    rw [h3, Int.mul_assoc] at hq
    simp only [jbyte]; omega
  rw [h2, Int.add_mul_emod_self_left]
end OwnNums

/-- the sum of the first n digits -/
def sm (d : Nat → Nat) : Nat → Nat
  | 0 => 0
  | n + 1 => sm d n + 2 ^ (7 * n) * d n
theorem sm_lt (d : Nat → Nat) (hd : ∀ k, d k < 128) : ∀ n, sm d n < 2 ^ (7 * n)
  | 0 => by simp [sm]
  | n + 1 => by
    have h1 := sm_lt d hd n
    have h2 : 2 ^ (7 * n) * d n ≤ 2 ^ (7 * n) * 127 := Nat.mul_le_mul_left _ (by have := hd n; omega)
    have h3 : 2 ^ (7 * (n + 1)) = 2 ^ (7 * n) * 128 := by rw [Nat.mul_add, Nat.pow_add]
    rw [sm, h3]; omega
theorem own_turn (d : Nat → Nat) (hd : ∀ k, d k < 128) (n : Nat) (hn : 7 * n < 32) : Int32.ofNat (sm d n) ||| jshl (Int32.ofNat (d n)) (Int32.ofNat (7 * n)) = Int32.ofNat (sm d (n + 1)) := by
  rw [n_shl (d n) hn, Int32.or_comm, Nat.mul_comm, n_orlow _ (sm_lt d hd n), sm, Nat.add_comm]
theorem own_more {t : Nat} (ht : t < 128) : jbyte (jbyte (Int32.ofNat t ||| 128)) &&& 127 = Int32.ofNat t ∧ jbyte (jbyte (Int32.ofNat t ||| 128)) < 0 := by
  have e1 : Int32.ofNat t ||| 128 = Int32.ofNat (128 + t) := by rw [Int32.or_comm]; exact n_orlow (i := 7) 1 ht
  rw [e1, jbyte_idem]
  refine ⟨?_, ?_⟩
  · rw [jbyte_and _ 7 (by decide) (by decide)]
    refine (n_low (128 + t) 7).trans ?_
    congr 1; omega
  · have h1 := c_i2b (Int32.ofNat (128 + t))
    rw [ofNat_toInt (by omega)] at h1
    rw [Int32.lt_iff_toInt_lt, show (0 : Int32).toInt = 0 from rfl]
    simp only [jbyte]; omega
theorem own_last {t : Nat} (ht : t < 128) : jbyte (jbyte (Int32.ofNat t)) &&& 127 = Int32.ofNat t ∧ ¬ jbyte (jbyte (Int32.ofNat t)) < 0 := by
  rw [jbyte_idem]
  refine ⟨?_, ?_⟩
  · rw [jbyte_and _ 7 (by decide) (by decide)]
    refine (n_low t 7).trans ?_
    congr 1; omega
  · have h1 := c_i2b (Int32.ofNat t)
    rw [ofNat_toInt (by omega)] at h1
    rw [Int32.lt_iff_toInt_lt, show (0 : Int32).toInt = 0 from rfl]
    simp only [jbyte]; omega
theorem own_last0 {t : Nat} (ht : t < 128) : jbyte (jbyte (Int32.ofNat t ||| 0)) &&& 127 = Int32.ofNat t ∧ ¬ jbyte (jbyte (Int32.ofNat t ||| 0)) < 0 := by
  rw [Int32.or_zero]; exact own_last ht
theorem own_at (x : Int32) : ∃ A : Nat, A < 4 ∧ x &&& 3 = Int32.ofNat A := ⟨_, by omega, n_mask x 2 (by decide) (m := 3) (by decide)⟩
/-- the k-th group of seven bits -/
def dg (u k : Nat) : Nat := u / 2 ^ (7 * k) % 128
theorem dg_lt (u k : Nat) : dg u k < 128 := Nat.mod_lt _ (by decide)
theorem own_sum (u : Nat) : (u < 128 → sm (dg u) 1 = u) ∧ (u < 16384 → sm (dg u) 2 = u) ∧ (u < 2097152 → sm (dg u) 3 = u) ∧ (u < 268435456 → sm (dg u) 4 = u) ∧ (u < 2147483648 → sm (dg u) 5 = u) := by
  refine ⟨fun h => ?_, fun h => ?_, fun h => ?_, fun h => ?_, fun h => ?_⟩ <;> simp only [sm, dg, Nat.mul_zero, Nat.pow_zero, Nat.reduceMul, Nat.reducePow, Nat.mul_one] <;> omega
theorem ef_1 (m : MethodId) (x1 : Int32) (x2 : Int32) : entryFrame m #[(.int x1), (.int x2)] 2 = mkF m 0 #[.val (.int x1), .val (.int x2)] [] := by first | (simp [entryFrame, mkF, argsToLocals, Value.category]; done) | rfl
theorem pn_1 : plainName "foldmill/MapOutputLengthAtPinLaw" = true := by first | (simp [plainName, overriddenIn]; done) | decide +kernel
set_option maxRecDepth 65536 in
set_option maxHeartbeats 40000000 in
theorem rm1 {l : Launch} {Z : State} {a0 : Array Value} {n0 : Nat} {h : Heap} (hw : ∀ d ∈ tables_1, d.before a0 Z = true) (hn : n0 ≤ h.size) (x1 : Int32) (x2 : Int32) :
    Ctr l Z n0 (⟨"foldmill/MapOutputLengthAtPinLaw", "jb", "(II)B"⟩ : MethodName) method_2_code 2 (some .byte) ({ frames := 0, cells := 0, slots := 0, locals := 0 } : Room) [] #[(.int x1), (.int x2)] h (fun v h' => (∃ z, v = some (.int z)) ∧ h = h') := by
  refine ctr_of (plainFor_of_name pn_1) hw hn ?_
  intro p e s m below meth c T X
  refine Wp.cast (ef_1 m x1 x2) ?_
  refine w_iloadN X D1_0 rfl ?_
  refine w_bipush X D1_1 (v := (8 : Int32)) rfl ?_
  refine w_iloadN X D1_3 rfl ?_
  refine w_imul X D1_4 ?_
  refine w_iushr X D1_5 ?_
  refine w_i2b X D1_6 ?_
  exact w_breturn X D1_7 (by decide) (by decide) (⟨⟨_, rfl⟩, rfl⟩)
set_option maxRecDepth 65536 in
set_option maxHeartbeats 40000000 in
theorem loop2 {Z : State} {a0 : Array Value} {n0 : Nat} {p : Program} {l : Launch} {e : Env} {R : Room} {s : State} {m : MethodId} {args : Array Value} {below : List Frame} {meth : Method} {c : Code} {T : State} {h : Heap} {k j : Nat} {Q : Option Value → Heap → Prop} (X : Pos Z a0 n0 p l e R s m args below meth c prog_8_method_11_code 6 (some .int) (⟨"foldmill/MapOutput", "lengthAt", "([BI)I"⟩ : MethodName) T h k j) (hk : k ≤ R.cells) (hj : j ≤ R.slots) (a : Addr) (at0 : Int32) (A n : Nat) (g : Nat → Int32) (d : Nat → Nat) (hd : ∀ k, d k < 128) (hA : A + n ≤ 12) (hn : n ≤ 5) (B : Ba Z n0 h a .byte 12 (bI g)) (hg : ∀ i, i < n → g (A + i) &&& 127 = Int32.ofNat (d i)) (hm : ∀ i, i + 1 < n → g (A + i) < 0) (hl : ∀ i, i + 1 = n → ¬ g (A + i) < 0) (hq : Q (some (.int (Int32.ofNat (sm d n)))) h) : ∀ (r i : Nat) (s5 : Slot), i + 1 + r = n → One s5 → Wp n0 p e R s below Q T (mkF m 7 #[.val (.ref a), .val (.int at0), .val (.int (Int32.ofNat (sm d i))), .val (.int (Int32.ofNat (A + i))), .val (.int (Int32.ofNat (7 * i))), s5] []) := by
  intro r
  induction r with
  | zero =>
    intro i s5 hi h_s5
    refine w_aloadN X D2_7 rfl rfl ?_
    refine w_iloadN X D2_8 rfl ?_
    refine w_iinc X D2_9 (d := (1 : Int32)) (r := (Int32.ofNat (A + (i + 1)))) (l' := #[.val (.ref a), .val (.int at0), .val (.int (Int32.ofNat (sm d i))), .val (.int (Int32.ofNat (A + (i + 1)))), .val (.int (Int32.ofNat (7 * i))), s5]) rfl rfl (n_add (A + i) 1) rfl ?_
    refine w_baload X D2_12 B (A + i) rfl (by omega) ?_
    refine w_istoreS X D2_13 (l' := #[.val (.ref a), .val (.int at0), .val (.int (Int32.ofNat (sm d i))), .val (.int (Int32.ofNat (A + (i + 1)))), .val (.int (Int32.ofNat (7 * i))), .val (.int (g (A + i)))]) rfl h_s5 rfl ?_
    refine w_iloadN X D2_15 rfl ?_
    refine w_iload X D2_16 rfl ?_
    refine w_bipush X D2_18 (v := (127 : Int32)) rfl ?_
    refine w_iand X D2_20 ?_
    rw [hg i (by omega)]
    refine w_iload X D2_21 rfl ?_
    refine w_ishl X D2_23 ?_
    refine w_ior X D2_24 ?_
    rw [own_turn d hd i (by omega)]
    refine w_istoreN X D2_25 (l' := #[.val (.ref a), .val (.int at0), .val (.int (Int32.ofNat (sm d (i + 1)))), .val (.int (Int32.ofNat (A + (i + 1)))), .val (.int (Int32.ofNat (7 * i))), .val (.int (g (A + i)))]) rfl ?_
    refine w_iload X D2_26 rfl ?_
    refine w_iflt X D2_28 (fun hc28 => by exact absurd hc28 (hl i (by omega))) (fun hc28 => ?_)
    refine w_iloadN X D2_31 rfl ?_
    exact w_ireturn X D2_32 hk hj (by rw [show n = i + 1 by omega] at hq; exact hq)
  | succ r ih =>
    intro i s5 hi h_s5
    refine w_aloadN X D2_7 rfl rfl ?_
    refine w_iloadN X D2_8 rfl ?_
    refine w_iinc X D2_9 (d := (1 : Int32)) (r := (Int32.ofNat (A + (i + 1)))) (l' := #[.val (.ref a), .val (.int at0), .val (.int (Int32.ofNat (sm d i))), .val (.int (Int32.ofNat (A + (i + 1)))), .val (.int (Int32.ofNat (7 * i))), s5]) rfl rfl (n_add (A + i) 1) rfl ?_
    refine w_baload X D2_12 B (A + i) rfl (by omega) ?_
    refine w_istoreS X D2_13 (l' := #[.val (.ref a), .val (.int at0), .val (.int (Int32.ofNat (sm d i))), .val (.int (Int32.ofNat (A + (i + 1)))), .val (.int (Int32.ofNat (7 * i))), .val (.int (g (A + i)))]) rfl h_s5 rfl ?_
    refine w_iloadN X D2_15 rfl ?_
    refine w_iload X D2_16 rfl ?_
    refine w_bipush X D2_18 (v := (127 : Int32)) rfl ?_
    refine w_iand X D2_20 ?_
    rw [hg i (by omega)]
    refine w_iload X D2_21 rfl ?_
    refine w_ishl X D2_23 ?_
    refine w_ior X D2_24 ?_
    rw [own_turn d hd i (by omega)]
    refine w_istoreN X D2_25 (l' := #[.val (.ref a), .val (.int at0), .val (.int (Int32.ofNat (sm d (i + 1)))), .val (.int (Int32.ofNat (A + (i + 1)))), .val (.int (Int32.ofNat (7 * i))), .val (.int (g (A + i)))]) rfl ?_
    refine w_iload X D2_26 rfl ?_
    refine w_iflt X D2_28 (fun hc28 => ?_) (fun hc28 => by exact absurd (hm i (by omega)) hc28)
    refine w_iinc X D2_33 (d := (7 : Int32)) (r := (Int32.ofNat (7 * (i + 1)))) (l' := #[.val (.ref a), .val (.int at0), .val (.int (Int32.ofNat (sm d (i + 1)))), .val (.int (Int32.ofNat (A + (i + 1)))), .val (.int (Int32.ofNat (7 * (i + 1)))), .val (.int (g (A + i)))]) rfl rfl (n_add (7 * i) 7) rfl ?_
    refine w_goto X D2_36 ?_
    exact ih (i + 1) _ (by omega) (One.val rfl)
theorem ef_2 (m : MethodId) (a : Addr) (at0 : Int32) : entryFrame m #[(.ref a), (.int at0)] 6 = mkF m 0 #[.val (.ref a), .val (.int at0), .unset, .unset, .unset, .unset] [] := by first | (simp [entryFrame, mkF, argsToLocals, Value.category]; done) | rfl
theorem pn_2 : plainName "foldmill/MapOutput" = true := by first | (simp [plainName, overriddenIn]; done) | decide +kernel
set_option maxRecDepth 65536 in
set_option maxHeartbeats 40000000 in
theorem rm2 {l : Launch} {Z : State} {a0 : Array Value} {n0 : Nat} {h : Heap} (hw : ∀ d ∈ tables_1, d.before a0 Z = true) (hn : n0 ≤ h.size) (a : Addr) (at0 : Int32) (A n : Nat) (g : Nat → Int32) (d : Nat → Nat) (eA : at0 = Int32.ofNat A) (hd : ∀ k, d k < 128) (hA : A + (n + 1) ≤ 12) (hn4 : n ≤ 4) (B : Ba Z n0 h a .byte 12 (bI g)) (hg : ∀ i, i < n + 1 → g (A + i) &&& 127 = Int32.ofNat (d i)) (hm : ∀ i, i + 1 < n + 1 → g (A + i) < 0) (hl : ∀ i, i + 1 = n + 1 → ¬ g (A + i) < 0) :
    Ctr l Z n0 (⟨"foldmill/MapOutput", "lengthAt", "([BI)I"⟩ : MethodName) prog_8_method_11_code 6 (some .int) ({ frames := 0, cells := 0, slots := 0, locals := 0 } : Room) [] #[(.ref a), (.int at0)] h (fun v h' => v = some (.int (Int32.ofNat (sm d (n + 1)))) ∧ h = h') := by
  refine ctr_of (plainFor_of_name pn_2) hw hn ?_
  intro p e s m below meth c T X
  refine Wp.cast (ef_2 m a at0) ?_
  subst eA
  refine w_iconst X D2_0 (v := (0 : Int32)) rfl ?_
  refine w_istoreN X D2_1 (l' := #[.val (.ref a), .val (.int (Int32.ofNat A)), .val (.int (0 : Int32)), .unset, .unset, .unset]) rfl ?_
  refine w_iloadN X D2_2 rfl ?_
  refine w_istoreN X D2_3 (l' := #[.val (.ref a), .val (.int (Int32.ofNat A)), .val (.int (0 : Int32)), .val (.int (Int32.ofNat A)), .unset, .unset]) rfl ?_
  refine w_iconst X D2_4 (v := (0 : Int32)) rfl ?_
  refine w_istore X D2_5 (l' := #[.val (.ref a), .val (.int (Int32.ofNat A)), .val (.int (0 : Int32)), .val (.int (Int32.ofNat A)), .val (.int (0 : Int32)), .unset]) rfl ?_
  exact loop2 X (by decide) (by decide) a _ A (n + 1) g d hd hA (by omega) B hg hm hl ⟨rfl, rfl⟩ n 0 _ (by omega) One.u
theorem ef_0 (m : MethodId) (a : Int32) (b : Int32) (c0 : Int32) (e0 : Int32) : entryFrame m #[(.int a), (.int b), (.int c0), (.int e0)] maxLocals = mkF m 0 #[.val (.int a), .val (.int b), .val (.int c0), .val (.int e0), .unset, .unset, .unset, .unset, .unset] [] := by first | (simp [entryFrame, mkF, argsToLocals, Value.category, maxLocals]; done) | rfl
theorem pn_0 : plainName "foldmill/MapOutputLengthAtPinLaw" = true := by first | (simp [plainName, overriddenIn]; done) | decide +kernel
set_option maxRecDepth 65536 in
set_option maxHeartbeats 40000000 in
theorem rm0 {l : Launch} {Z : State} {a0 : Array Value} {n0 : Nat} {h : Heap} (hw : ∀ d ∈ tables_1, d.before a0 Z = true) (hn : n0 ≤ h.size) (a : Int32) (b : Int32) (c0 : Int32) (e0 : Int32) :
    Ctr l Z n0 x code maxLocals ret room_1 tables_1 #[(.int a), (.int b), (.int c0), (.int e0)] h (fun v h' => v = some (.int 1)) := by
  refine ctr_of (plainFor_of_name pn_0) hw hn ?_
  intro p e s m below meth c T X
  refine Wp.cast (ef_0 m a b c0 e0) ?_
  refine w_iloadN X D0_0 rfl ?_
  refine w_ldc X D0_1 (hw _ (List.mem_of_getElem? (i := 0) rfl)) ?_
  refine w_iand X D0_3 ?_
  refine w_istoreE X D0_4 (l' := fun z_ => #[.val (.int a), .val (.int b), .val (.int c0), .val (.int e0), .val (.int z_), .unset, .unset, .unset, .unset]) (fun _ => rfl) (fun ln e_ln => ?_)
  obtain ⟨u, hu, eu⟩ := n_mask31 a
  rw [← e_ln] at eu
  subst eu
  refine w_iloadN X D0_6 rfl ?_
  refine w_iconst X D0_7 (v := (3 : Int32)) rfl ?_
  refine w_iand X D0_8 ?_
  refine w_istoreE X D0_9 (l' := fun z_ => #[.val (.int a), .val (.int b), .val (.int c0), .val (.int e0), .val (.int (Int32.ofNat u)), .val (.int z_), .unset, .unset, .unset]) (fun _ => rfl) (fun at1 e_at1 => ?_)
  obtain ⟨A, hA, eA⟩ := own_at b
  rw [← e_at1] at eA
  subst eA
  refine w_bipush X D0_11 (v := (12 : Int32)) rfl ?_
  refine w_newB X D0_13 (hw _ (List.mem_of_getElem? (i := 1) rfl)) 12 12 rfl (Nat.le_of_ble_eq_true rfl) (by decide) (Nat.le_of_ble_eq_true rfl) (Nat.le_of_ble_eq_true rfl) (fun T1 h1 a1 X1 g1 E1 B1 => ?_)
  refine w_astore X1 D0_15 (l' := #[.val (.int a), .val (.int b), .val (.int c0), .val (.int e0), .val (.int (Int32.ofNat u)), .val (.int (Int32.ofNat A)), .val (.ref a1), .unset, .unset]) rfl rfl ?_
  refine w_iloadN X1 D0_17 rfl ?_
  refine w_iloadN X1 D0_18 rfl ?_
  refine w_iconst X1 D0_19 (v := (3 : Int32)) rfl ?_
  refine w_iushr X1 D0_20 ?_
  refine w_ixor X1 D0_21 ?_
  refine w_ldc X1 D0_22 (hw _ (List.mem_of_getElem? (i := 2) rfl)) ?_
  refine w_ixor X1 D0_24 ?_
  refine w_istore X1 D0_25 (l' := #[.val (.int a), .val (.int b), .val (.int c0), .val (.int e0), .val (.int (Int32.ofNat u)), .val (.int (Int32.ofNat A)), .val (.ref a1), .val (.int ((c0 ^^^ (jushr e0 (3 : Int32))) ^^^ (1515870810 : Int32))), .unset]) rfl ?_
  refine w_aload X1 D0_27 rfl rfl ?_
  refine w_iconst X1 D0_29 (v := (0 : Int32)) rfl ?_
  refine w_iloadN X1 D0_30 rfl ?_
  refine w_iconst X1 D0_31 (v := (0 : Int32)) rfl ?_
  refine w_static X1 D0_32 (rm1 hw X1.sz _ _) (hw _ (List.mem_of_getElem? (i := 3) rfl)) (hw _ (List.mem_of_getElem? (i := 4) rfl)) (hw _ (List.mem_of_getElem? (i := 5) rfl)) (hw _ (List.mem_of_getElem? (i := 6) rfl)) (by decide) pd_0 rfl (S := [(.int (0 : Int32)), (.ref a1)]) rfl rfl (Nat.le_of_ble_eq_true rfl) (Nat.le_of_ble_eq_true rfl) (Nat.le_of_ble_eq_true rfl) (Nat.le_of_ble_eq_true rfl) (fun v2 T2 h2 X2 q2 => ?_)
  obtain ⟨⟨z2, rfl⟩, rfl⟩ := q2
  show Wp _ _ _ _ _ _ _ _ (mkF m 35 #[.val (.int a), .val (.int b), .val (.int c0), .val (.int e0), .val (.int (Int32.ofNat u)), .val (.int (Int32.ofNat A)), .val (.ref a1), .val (.int ((c0 ^^^ (jushr e0 (3 : Int32))) ^^^ (1515870810 : Int32))), .unset] [(.int z2), (.int (0 : Int32)), (.ref a1)])
  refine w_bastore X2 D0_35 B1 0 rfl (by decide) (fun T3 h3 X3 K3 B3 => ?_)
  refine w_aload X3 D0_36 rfl rfl ?_
  refine w_iconst X3 D0_38 (v := (1 : Int32)) rfl ?_
  refine w_iloadN X3 D0_39 rfl ?_
  refine w_iconst X3 D0_40 (v := (1 : Int32)) rfl ?_
  refine w_static X3 D0_41 (rm1 hw X3.sz _ _) (hw _ (List.mem_of_getElem? (i := 3) rfl)) (hw _ (List.mem_of_getElem? (i := 4) rfl)) (hw _ (List.mem_of_getElem? (i := 5) rfl)) (hw _ (List.mem_of_getElem? (i := 6) rfl)) (by decide) pd_0 rfl (S := [(.int (1 : Int32)), (.ref a1)]) rfl rfl (Nat.le_of_ble_eq_true rfl) (Nat.le_of_ble_eq_true rfl) (Nat.le_of_ble_eq_true rfl) (Nat.le_of_ble_eq_true rfl) (fun v4 T4 h4 X4 q4 => ?_)
  obtain ⟨⟨z4, rfl⟩, rfl⟩ := q4
  show Wp _ _ _ _ _ _ _ _ (mkF m 44 #[.val (.int a), .val (.int b), .val (.int c0), .val (.int e0), .val (.int (Int32.ofNat u)), .val (.int (Int32.ofNat A)), .val (.ref a1), .val (.int ((c0 ^^^ (jushr e0 (3 : Int32))) ^^^ (1515870810 : Int32))), .unset] [(.int z4), (.int (1 : Int32)), (.ref a1)])
  refine w_bastore X4 D0_44 B3 1 rfl (by decide) (fun T5 h5 X5 K5 B5 => ?_)
  refine w_aload X5 D0_45 rfl rfl ?_
  refine w_iconst X5 D0_47 (v := (2 : Int32)) rfl ?_
  refine w_iloadN X5 D0_48 rfl ?_
  refine w_iconst X5 D0_49 (v := (2 : Int32)) rfl ?_
  refine w_static X5 D0_50 (rm1 hw X5.sz _ _) (hw _ (List.mem_of_getElem? (i := 3) rfl)) (hw _ (List.mem_of_getElem? (i := 4) rfl)) (hw _ (List.mem_of_getElem? (i := 5) rfl)) (hw _ (List.mem_of_getElem? (i := 6) rfl)) (by decide) pd_0 rfl (S := [(.int (2 : Int32)), (.ref a1)]) rfl rfl (Nat.le_of_ble_eq_true rfl) (Nat.le_of_ble_eq_true rfl) (Nat.le_of_ble_eq_true rfl) (Nat.le_of_ble_eq_true rfl) (fun v6 T6 h6 X6 q6 => ?_)
  obtain ⟨⟨z6, rfl⟩, rfl⟩ := q6
  show Wp _ _ _ _ _ _ _ _ (mkF m 53 #[.val (.int a), .val (.int b), .val (.int c0), .val (.int e0), .val (.int (Int32.ofNat u)), .val (.int (Int32.ofNat A)), .val (.ref a1), .val (.int ((c0 ^^^ (jushr e0 (3 : Int32))) ^^^ (1515870810 : Int32))), .unset] [(.int z6), (.int (2 : Int32)), (.ref a1)])
  refine w_bastore X6 D0_53 B5 2 rfl (by decide) (fun T7 h7 X7 K7 B7 => ?_)
  refine w_aload X7 D0_54 rfl rfl ?_
  refine w_iconst X7 D0_56 (v := (3 : Int32)) rfl ?_
  refine w_iloadN X7 D0_57 rfl ?_
  refine w_iconst X7 D0_58 (v := (3 : Int32)) rfl ?_
  refine w_static X7 D0_59 (rm1 hw X7.sz _ _) (hw _ (List.mem_of_getElem? (i := 3) rfl)) (hw _ (List.mem_of_getElem? (i := 4) rfl)) (hw _ (List.mem_of_getElem? (i := 5) rfl)) (hw _ (List.mem_of_getElem? (i := 6) rfl)) (by decide) pd_0 rfl (S := [(.int (3 : Int32)), (.ref a1)]) rfl rfl (Nat.le_of_ble_eq_true rfl) (Nat.le_of_ble_eq_true rfl) (Nat.le_of_ble_eq_true rfl) (Nat.le_of_ble_eq_true rfl) (fun v8 T8 h8 X8 q8 => ?_)
  obtain ⟨⟨z8, rfl⟩, rfl⟩ := q8
  show Wp _ _ _ _ _ _ _ _ (mkF m 62 #[.val (.int a), .val (.int b), .val (.int c0), .val (.int e0), .val (.int (Int32.ofNat u)), .val (.int (Int32.ofNat A)), .val (.ref a1), .val (.int ((c0 ^^^ (jushr e0 (3 : Int32))) ^^^ (1515870810 : Int32))), .unset] [(.int z8), (.int (3 : Int32)), (.ref a1)])
  refine w_bastore X8 D0_62 B7 3 rfl (by decide) (fun T9 h9 X9 K9 B9 => ?_)
  refine w_aload X9 D0_63 rfl rfl ?_
  refine w_iconst X9 D0_65 (v := (4 : Int32)) rfl ?_
  refine w_iloadN X9 D0_66 rfl ?_
  refine w_iconst X9 D0_67 (v := (0 : Int32)) rfl ?_
  refine w_static X9 D0_68 (rm1 hw X9.sz _ _) (hw _ (List.mem_of_getElem? (i := 3) rfl)) (hw _ (List.mem_of_getElem? (i := 4) rfl)) (hw _ (List.mem_of_getElem? (i := 5) rfl)) (hw _ (List.mem_of_getElem? (i := 6) rfl)) (by decide) pd_0 rfl (S := [(.int (4 : Int32)), (.ref a1)]) rfl rfl (Nat.le_of_ble_eq_true rfl) (Nat.le_of_ble_eq_true rfl) (Nat.le_of_ble_eq_true rfl) (Nat.le_of_ble_eq_true rfl) (fun v10 T10 h10 X10 q10 => ?_)
  obtain ⟨⟨z10, rfl⟩, rfl⟩ := q10
  show Wp _ _ _ _ _ _ _ _ (mkF m 71 #[.val (.int a), .val (.int b), .val (.int c0), .val (.int e0), .val (.int (Int32.ofNat u)), .val (.int (Int32.ofNat A)), .val (.ref a1), .val (.int ((c0 ^^^ (jushr e0 (3 : Int32))) ^^^ (1515870810 : Int32))), .unset] [(.int z10), (.int (4 : Int32)), (.ref a1)])
  refine w_bastore X10 D0_71 B9 4 rfl (by decide) (fun T11 h11 X11 K11 B11 => ?_)
  refine w_aload X11 D0_72 rfl rfl ?_
  refine w_iconst X11 D0_74 (v := (5 : Int32)) rfl ?_
  refine w_iloadN X11 D0_75 rfl ?_
  refine w_iconst X11 D0_76 (v := (1 : Int32)) rfl ?_
  refine w_static X11 D0_77 (rm1 hw X11.sz _ _) (hw _ (List.mem_of_getElem? (i := 3) rfl)) (hw _ (List.mem_of_getElem? (i := 4) rfl)) (hw _ (List.mem_of_getElem? (i := 5) rfl)) (hw _ (List.mem_of_getElem? (i := 6) rfl)) (by decide) pd_0 rfl (S := [(.int (5 : Int32)), (.ref a1)]) rfl rfl (Nat.le_of_ble_eq_true rfl) (Nat.le_of_ble_eq_true rfl) (Nat.le_of_ble_eq_true rfl) (Nat.le_of_ble_eq_true rfl) (fun v12 T12 h12 X12 q12 => ?_)
  obtain ⟨⟨z12, rfl⟩, rfl⟩ := q12
  show Wp _ _ _ _ _ _ _ _ (mkF m 80 #[.val (.int a), .val (.int b), .val (.int c0), .val (.int e0), .val (.int (Int32.ofNat u)), .val (.int (Int32.ofNat A)), .val (.ref a1), .val (.int ((c0 ^^^ (jushr e0 (3 : Int32))) ^^^ (1515870810 : Int32))), .unset] [(.int z12), (.int (5 : Int32)), (.ref a1)])
  refine w_bastore X12 D0_80 B11 5 rfl (by decide) (fun T13 h13 X13 K13 B13 => ?_)
  refine w_aload X13 D0_81 rfl rfl ?_
  refine w_bipush X13 D0_83 (v := (6 : Int32)) rfl ?_
  refine w_iloadN X13 D0_85 rfl ?_
  refine w_iconst X13 D0_86 (v := (2 : Int32)) rfl ?_
  refine w_static X13 D0_87 (rm1 hw X13.sz _ _) (hw _ (List.mem_of_getElem? (i := 3) rfl)) (hw _ (List.mem_of_getElem? (i := 4) rfl)) (hw _ (List.mem_of_getElem? (i := 5) rfl)) (hw _ (List.mem_of_getElem? (i := 6) rfl)) (by decide) pd_0 rfl (S := [(.int (6 : Int32)), (.ref a1)]) rfl rfl (Nat.le_of_ble_eq_true rfl) (Nat.le_of_ble_eq_true rfl) (Nat.le_of_ble_eq_true rfl) (Nat.le_of_ble_eq_true rfl) (fun v14 T14 h14 X14 q14 => ?_)
  obtain ⟨⟨z14, rfl⟩, rfl⟩ := q14
  show Wp _ _ _ _ _ _ _ _ (mkF m 90 #[.val (.int a), .val (.int b), .val (.int c0), .val (.int e0), .val (.int (Int32.ofNat u)), .val (.int (Int32.ofNat A)), .val (.ref a1), .val (.int ((c0 ^^^ (jushr e0 (3 : Int32))) ^^^ (1515870810 : Int32))), .unset] [(.int z14), (.int (6 : Int32)), (.ref a1)])
  refine w_bastore X14 D0_90 B13 6 rfl (by decide) (fun T15 h15 X15 K15 B15 => ?_)
  refine w_aload X15 D0_91 rfl rfl ?_
  refine w_bipush X15 D0_93 (v := (7 : Int32)) rfl ?_
  refine w_iloadN X15 D0_95 rfl ?_
  refine w_iconst X15 D0_96 (v := (3 : Int32)) rfl ?_
  refine w_static X15 D0_97 (rm1 hw X15.sz _ _) (hw _ (List.mem_of_getElem? (i := 3) rfl)) (hw _ (List.mem_of_getElem? (i := 4) rfl)) (hw _ (List.mem_of_getElem? (i := 5) rfl)) (hw _ (List.mem_of_getElem? (i := 6) rfl)) (by decide) pd_0 rfl (S := [(.int (7 : Int32)), (.ref a1)]) rfl rfl (Nat.le_of_ble_eq_true rfl) (Nat.le_of_ble_eq_true rfl) (Nat.le_of_ble_eq_true rfl) (Nat.le_of_ble_eq_true rfl) (fun v16 T16 h16 X16 q16 => ?_)
  obtain ⟨⟨z16, rfl⟩, rfl⟩ := q16
  show Wp _ _ _ _ _ _ _ _ (mkF m 100 #[.val (.int a), .val (.int b), .val (.int c0), .val (.int e0), .val (.int (Int32.ofNat u)), .val (.int (Int32.ofNat A)), .val (.ref a1), .val (.int ((c0 ^^^ (jushr e0 (3 : Int32))) ^^^ (1515870810 : Int32))), .unset] [(.int z16), (.int (7 : Int32)), (.ref a1)])
  refine w_bastore X16 D0_100 B15 7 rfl (by decide) (fun T17 h17 X17 K17 B17 => ?_)
  refine w_aload X17 D0_101 rfl rfl ?_
  refine w_bipush X17 D0_103 (v := (8 : Int32)) rfl ?_
  refine w_iload X17 D0_105 rfl ?_
  refine w_iconst X17 D0_107 (v := (0 : Int32)) rfl ?_
  refine w_static X17 D0_108 (rm1 hw X17.sz _ _) (hw _ (List.mem_of_getElem? (i := 3) rfl)) (hw _ (List.mem_of_getElem? (i := 4) rfl)) (hw _ (List.mem_of_getElem? (i := 5) rfl)) (hw _ (List.mem_of_getElem? (i := 6) rfl)) (by decide) pd_0 rfl (S := [(.int (8 : Int32)), (.ref a1)]) rfl rfl (Nat.le_of_ble_eq_true rfl) (Nat.le_of_ble_eq_true rfl) (Nat.le_of_ble_eq_true rfl) (Nat.le_of_ble_eq_true rfl) (fun v18 T18 h18 X18 q18 => ?_)
  obtain ⟨⟨z18, rfl⟩, rfl⟩ := q18
  show Wp _ _ _ _ _ _ _ _ (mkF m 111 #[.val (.int a), .val (.int b), .val (.int c0), .val (.int e0), .val (.int (Int32.ofNat u)), .val (.int (Int32.ofNat A)), .val (.ref a1), .val (.int ((c0 ^^^ (jushr e0 (3 : Int32))) ^^^ (1515870810 : Int32))), .unset] [(.int z18), (.int (8 : Int32)), (.ref a1)])
  refine w_bastore X18 D0_111 B17 8 rfl (by decide) (fun T19 h19 X19 K19 B19 => ?_)
  refine w_aload X19 D0_112 rfl rfl ?_
  refine w_bipush X19 D0_114 (v := (9 : Int32)) rfl ?_
  refine w_iload X19 D0_116 rfl ?_
  refine w_iconst X19 D0_118 (v := (1 : Int32)) rfl ?_
  refine w_static X19 D0_119 (rm1 hw X19.sz _ _) (hw _ (List.mem_of_getElem? (i := 3) rfl)) (hw _ (List.mem_of_getElem? (i := 4) rfl)) (hw _ (List.mem_of_getElem? (i := 5) rfl)) (hw _ (List.mem_of_getElem? (i := 6) rfl)) (by decide) pd_0 rfl (S := [(.int (9 : Int32)), (.ref a1)]) rfl rfl (Nat.le_of_ble_eq_true rfl) (Nat.le_of_ble_eq_true rfl) (Nat.le_of_ble_eq_true rfl) (Nat.le_of_ble_eq_true rfl) (fun v20 T20 h20 X20 q20 => ?_)
  obtain ⟨⟨z20, rfl⟩, rfl⟩ := q20
  show Wp _ _ _ _ _ _ _ _ (mkF m 122 #[.val (.int a), .val (.int b), .val (.int c0), .val (.int e0), .val (.int (Int32.ofNat u)), .val (.int (Int32.ofNat A)), .val (.ref a1), .val (.int ((c0 ^^^ (jushr e0 (3 : Int32))) ^^^ (1515870810 : Int32))), .unset] [(.int z20), (.int (9 : Int32)), (.ref a1)])
  refine w_bastore X20 D0_122 B19 9 rfl (by decide) (fun T21 h21 X21 K21 B21 => ?_)
  refine w_aload X21 D0_123 rfl rfl ?_
  refine w_bipush X21 D0_125 (v := (10 : Int32)) rfl ?_
  refine w_iload X21 D0_127 rfl ?_
  refine w_iconst X21 D0_129 (v := (2 : Int32)) rfl ?_
  refine w_static X21 D0_130 (rm1 hw X21.sz _ _) (hw _ (List.mem_of_getElem? (i := 3) rfl)) (hw _ (List.mem_of_getElem? (i := 4) rfl)) (hw _ (List.mem_of_getElem? (i := 5) rfl)) (hw _ (List.mem_of_getElem? (i := 6) rfl)) (by decide) pd_0 rfl (S := [(.int (10 : Int32)), (.ref a1)]) rfl rfl (Nat.le_of_ble_eq_true rfl) (Nat.le_of_ble_eq_true rfl) (Nat.le_of_ble_eq_true rfl) (Nat.le_of_ble_eq_true rfl) (fun v22 T22 h22 X22 q22 => ?_)
  obtain ⟨⟨z22, rfl⟩, rfl⟩ := q22
  show Wp _ _ _ _ _ _ _ _ (mkF m 133 #[.val (.int a), .val (.int b), .val (.int c0), .val (.int e0), .val (.int (Int32.ofNat u)), .val (.int (Int32.ofNat A)), .val (.ref a1), .val (.int ((c0 ^^^ (jushr e0 (3 : Int32))) ^^^ (1515870810 : Int32))), .unset] [(.int z22), (.int (10 : Int32)), (.ref a1)])
  refine w_bastore X22 D0_133 B21 10 rfl (by decide) (fun T23 h23 X23 K23 B23 => ?_)
  refine w_aload X23 D0_134 rfl rfl ?_
  refine w_bipush X23 D0_136 (v := (11 : Int32)) rfl ?_
  refine w_iload X23 D0_138 rfl ?_
  refine w_iconst X23 D0_140 (v := (3 : Int32)) rfl ?_
  refine w_static X23 D0_141 (rm1 hw X23.sz _ _) (hw _ (List.mem_of_getElem? (i := 3) rfl)) (hw _ (List.mem_of_getElem? (i := 4) rfl)) (hw _ (List.mem_of_getElem? (i := 5) rfl)) (hw _ (List.mem_of_getElem? (i := 6) rfl)) (by decide) pd_0 rfl (S := [(.int (11 : Int32)), (.ref a1)]) rfl rfl (Nat.le_of_ble_eq_true rfl) (Nat.le_of_ble_eq_true rfl) (Nat.le_of_ble_eq_true rfl) (Nat.le_of_ble_eq_true rfl) (fun v24 T24 h24 X24 q24 => ?_)
  obtain ⟨⟨z24, rfl⟩, rfl⟩ := q24
  show Wp _ _ _ _ _ _ _ _ (mkF m 144 #[.val (.int a), .val (.int b), .val (.int c0), .val (.int e0), .val (.int (Int32.ofNat u)), .val (.int (Int32.ofNat A)), .val (.ref a1), .val (.int ((c0 ^^^ (jushr e0 (3 : Int32))) ^^^ (1515870810 : Int32))), .unset] [(.int z24), (.int (11 : Int32)), (.ref a1)])
  refine w_bastore X24 D0_144 B23 11 rfl (by decide) (fun T25 h25 X25 K25 B25 => ?_)
  obtain ⟨g, eg⟩ : ∃ g : Nat → Int32, bI g = bI (upd (upd (upd (upd (upd (upd (upd (upd (upd (upd (upd (upd (fun _ => 0) 0 (jbyte z2)) 1 (jbyte z4)) 2 (jbyte z6)) 3 (jbyte z8)) 4 (jbyte z10)) 5 (jbyte z12)) 6 (jbyte z14)) 7 (jbyte z16)) 8 (jbyte z18)) 9 (jbyte z20)) 10 (jbyte z22)) 11 (jbyte z24)) := ⟨_, rfl⟩
  have Bg : Ba Z n0 h25 a1 .byte 12 (bI g) := by rw [eg]; exact B25
  clear eg
  refine w_iload X25 D0_145 rfl ?_
  refine w_sipush X25 D0_147 (v := (128 : Int32)) rfl ?_
  refine w_icmpge X25 D0_150 (fun hc150 => ?_) (fun hc150 => ?_)
  · refine w_iload X25 D0_159 rfl ?_
    refine w_sipush X25 D0_161 (v := (16384 : Int32)) rfl ?_
    refine w_icmpge X25 D0_164 (fun hc164 => ?_) (fun hc164 => ?_)
    · refine w_iload X25 D0_173 rfl ?_
      refine w_ldc X25 D0_175 (hw _ (List.mem_of_getElem? (i := 11) rfl)) ?_
      refine w_icmpge X25 D0_177 (fun hc177 => ?_) (fun hc177 => ?_)
      · refine w_iload X25 D0_186 rfl ?_
        refine w_ldc X25 D0_188 (hw _ (List.mem_of_getElem? (i := 12) rfl)) ?_
        refine w_icmpge X25 D0_190 (fun hc190 => ?_) (fun hc190 => ?_)
        · refine w_iconst X25 D0_199 (v := (5 : Int32)) rfl ?_
          refine w_istore X25 D0_200 (l' := #[.val (.int a), .val (.int b), .val (.int c0), .val (.int e0), .val (.int (Int32.ofNat u)), .val (.int (Int32.ofNat A)), .val (.ref a1), .val (.int ((c0 ^^^ (jushr e0 (3 : Int32))) ^^^ (1515870810 : Int32))), .val (.int (5 : Int32))]) rfl ?_
          have f150 : ¬ u < 128 := fun z => hc150 ((ofNat_lt (b := 128) hu (by decide)).mpr z)
          have f164 : ¬ u < 16384 := fun z => hc164 ((ofNat_lt (b := 16384) hu (by decide)).mpr z)
          have f177 : ¬ u < 2097152 := fun z => hc177 ((ofNat_lt (b := 2097152) hu (by decide)).mpr z)
          have f190 : ¬ u < 268435456 := fun z => hc190 ((ofNat_lt (b := 268435456) hu (by decide)).mpr z)
          refine w_aload X25 D0_202 rfl rfl ?_
          refine w_iload X25 D0_204 rfl ?_
          refine w_iload X25 D0_206 rfl ?_
          refine w_bipush X25 D0_208 (v := (127 : Int32)) rfl ?_
          refine w_iand X25 D0_210 ?_
          rw [show Int32.ofNat u &&& 127 = Int32.ofNat (dg u 0) from (n_low u 7).trans (by rw [dg]; congr 1; omega)]
          refine w_iload X25 D0_211 rfl ?_
          refine w_iconst X25 D0_213 (v := (1 : Int32)) rfl ?_
          refine w_icmple X25 D0_214 (fun hc214 => by exact absurd (by decide) hc214) (fun hc214 => ?_)
          refine w_sipush X25 D0_217 (v := (128 : Int32)) rfl ?_
          refine w_goto X25 D0_220 ?_
          refine w_ior X25 D0_224 ?_
          refine w_i2b X25 D0_225 ?_
          refine w_bastore X25 D0_226 Bg (A + 0) rfl (by omega) (fun T26 h26 X26 K26 B26 => ?_)
          refine w_iload X26 D0_227 rfl ?_
          refine w_iconst X26 D0_229 (v := (1 : Int32)) rfl ?_
          refine w_icmple X26 D0_230 (fun hc230 => by exact absurd (by decide) hc230) (fun hc230 => ?_)
          refine w_aload X26 D0_233 rfl rfl ?_
          refine w_iload X26 D0_235 rfl ?_
          refine w_iconst X26 D0_237 (v := (1 : Int32)) rfl ?_
          refine w_iadd X26 D0_238 ?_
          refine w_iload X26 D0_239 rfl ?_
          refine w_bipush X26 D0_241 (v := (7 : Int32)) rfl ?_
          refine w_iushr X26 D0_243 ?_
          refine w_bipush X26 D0_244 (v := (127 : Int32)) rfl ?_
          refine w_iand X26 D0_246 ?_
          rw [show jushr (Int32.ofNat u) 7 = Int32.ofNat (u / 2 ^ (7 * 1)) from n_ushr hu (k := 7) (by decide), show Int32.ofNat (u / 2 ^ (7 * 1)) &&& 127 = Int32.ofNat (dg u 1) from n_low _ 7]
          refine w_iload X26 D0_247 rfl ?_
          refine w_iconst X26 D0_249 (v := (2 : Int32)) rfl ?_
          refine w_icmple X26 D0_250 (fun hc250 => by exact absurd (by decide) hc250) (fun hc250 => ?_)
          refine w_sipush X26 D0_253 (v := (128 : Int32)) rfl ?_
          refine w_goto X26 D0_256 ?_
          refine w_ior X26 D0_260 ?_
          refine w_i2b X26 D0_261 ?_
          refine w_bastore X26 D0_262 B26 (A + 1) (n_add A 1) (by omega) (fun T27 h27 X27 K27 B27 => ?_)
          refine w_iload X27 D0_263 rfl ?_
          refine w_iconst X27 D0_265 (v := (2 : Int32)) rfl ?_
          refine w_icmple X27 D0_266 (fun hc266 => by exact absurd (by decide) hc266) (fun hc266 => ?_)
          refine w_aload X27 D0_269 rfl rfl ?_
          refine w_iload X27 D0_271 rfl ?_
          refine w_iconst X27 D0_273 (v := (2 : Int32)) rfl ?_
          refine w_iadd X27 D0_274 ?_
          refine w_iload X27 D0_275 rfl ?_
          refine w_bipush X27 D0_277 (v := (14 : Int32)) rfl ?_
          refine w_iushr X27 D0_279 ?_
          refine w_bipush X27 D0_280 (v := (127 : Int32)) rfl ?_
          refine w_iand X27 D0_282 ?_
          rw [show jushr (Int32.ofNat u) 14 = Int32.ofNat (u / 2 ^ (7 * 2)) from n_ushr hu (k := 14) (by decide), show Int32.ofNat (u / 2 ^ (7 * 2)) &&& 127 = Int32.ofNat (dg u 2) from n_low _ 7]
          refine w_iload X27 D0_283 rfl ?_
          refine w_iconst X27 D0_285 (v := (3 : Int32)) rfl ?_
          refine w_icmple X27 D0_286 (fun hc286 => by exact absurd (by decide) hc286) (fun hc286 => ?_)
          refine w_sipush X27 D0_289 (v := (128 : Int32)) rfl ?_
          refine w_goto X27 D0_292 ?_
          refine w_ior X27 D0_296 ?_
          refine w_i2b X27 D0_297 ?_
          refine w_bastore X27 D0_298 B27 (A + 2) (n_add A 2) (by omega) (fun T28 h28 X28 K28 B28 => ?_)
          refine w_iload X28 D0_299 rfl ?_
          refine w_iconst X28 D0_301 (v := (3 : Int32)) rfl ?_
          refine w_icmple X28 D0_302 (fun hc302 => by exact absurd (by decide) hc302) (fun hc302 => ?_)
          refine w_aload X28 D0_305 rfl rfl ?_
          refine w_iload X28 D0_307 rfl ?_
          refine w_iconst X28 D0_309 (v := (3 : Int32)) rfl ?_
          refine w_iadd X28 D0_310 ?_
          refine w_iload X28 D0_311 rfl ?_
          refine w_bipush X28 D0_313 (v := (21 : Int32)) rfl ?_
          refine w_iushr X28 D0_315 ?_
          refine w_bipush X28 D0_316 (v := (127 : Int32)) rfl ?_
          refine w_iand X28 D0_318 ?_
          rw [show jushr (Int32.ofNat u) 21 = Int32.ofNat (u / 2 ^ (7 * 3)) from n_ushr hu (k := 21) (by decide), show Int32.ofNat (u / 2 ^ (7 * 3)) &&& 127 = Int32.ofNat (dg u 3) from n_low _ 7]
          refine w_iload X28 D0_319 rfl ?_
          refine w_iconst X28 D0_321 (v := (4 : Int32)) rfl ?_
          refine w_icmple X28 D0_322 (fun hc322 => by exact absurd (by decide) hc322) (fun hc322 => ?_)
          refine w_sipush X28 D0_325 (v := (128 : Int32)) rfl ?_
          refine w_goto X28 D0_328 ?_
          refine w_ior X28 D0_332 ?_
          refine w_i2b X28 D0_333 ?_
          refine w_bastore X28 D0_334 B28 (A + 3) (n_add A 3) (by omega) (fun T29 h29 X29 K29 B29 => ?_)
          refine w_iload X29 D0_335 rfl ?_
          refine w_iconst X29 D0_337 (v := (4 : Int32)) rfl ?_
          refine w_icmple X29 D0_338 (fun hc338 => by exact absurd (by decide) hc338) (fun hc338 => ?_)
          refine w_aload X29 D0_341 rfl rfl ?_
          refine w_iload X29 D0_343 rfl ?_
          refine w_iconst X29 D0_345 (v := (4 : Int32)) rfl ?_
          refine w_iadd X29 D0_346 ?_
          refine w_iload X29 D0_347 rfl ?_
          refine w_bipush X29 D0_349 (v := (28 : Int32)) rfl ?_
          refine w_iushr X29 D0_351 ?_
          rw [show jushr (Int32.ofNat u) 28 = Int32.ofNat (dg u 4) from (n_ushr hu (k := 28) (by decide)).trans (by rw [dg]; congr 1; omega)]
          refine w_i2b X29 D0_352 ?_
          refine w_bastore X29 D0_353 B29 (A + 4) (n_add A 4) (by omega) (fun T30 h30 X30 K30 B30 => ?_)
          refine w_aload X30 D0_354 rfl rfl ?_
          refine w_iload X30 D0_356 rfl ?_
          obtain ⟨g', eg⟩ : ∃ g' : Nat → Int32, g' = (upd (upd (upd (upd (upd g (A + 0) (jbyte (jbyte ((Int32.ofNat (dg u 0)) ||| (128 : Int32))))) (A + 1) (jbyte (jbyte ((Int32.ofNat (dg u 1)) ||| (128 : Int32))))) (A + 2) (jbyte (jbyte ((Int32.ofNat (dg u 2)) ||| (128 : Int32))))) (A + 3) (jbyte (jbyte ((Int32.ofNat (dg u 3)) ||| (128 : Int32))))) (A + 4) (jbyte (jbyte (Int32.ofNat (dg u 4))))) := ⟨_, rfl⟩
          have Bh : Ba Z n0 h30 a1 .byte 12 (bI g') := by rw [eg]; exact B30
          have v0 : g' (A + 0) = jbyte (jbyte (Int32.ofNat (dg u 0) ||| 128)) := by rw [eg, upd_ne _ _ (by omega), upd_ne _ _ (by omega), upd_ne _ _ (by omega), upd_ne _ _ (by omega), upd_at]
          have v1 : g' (A + 1) = jbyte (jbyte (Int32.ofNat (dg u 1) ||| 128)) := by rw [eg, upd_ne _ _ (by omega), upd_ne _ _ (by omega), upd_ne _ _ (by omega), upd_at]
          have v2 : g' (A + 2) = jbyte (jbyte (Int32.ofNat (dg u 2) ||| 128)) := by rw [eg, upd_ne _ _ (by omega), upd_ne _ _ (by omega), upd_at]
          have v3 : g' (A + 3) = jbyte (jbyte (Int32.ofNat (dg u 3) ||| 128)) := by rw [eg, upd_ne _ _ (by omega), upd_at]
          have v4 : g' (A + 4) = jbyte (jbyte (Int32.ofNat (dg u 4))) := by rw [eg, upd_at]
          have hg : ∀ i, i < 5 → g' (A + i) &&& 127 = Int32.ofNat (dg u i) := fun i hi => by
            have hc : i = 0 ∨ i = 1 ∨ i = 2 ∨ i = 3 ∨ i = 4 := by omega
            rcases hc with rfl | rfl | rfl | rfl | rfl
            · rw [v0]; exact (own_more (dg_lt u 0)).1
            · rw [v1]; exact (own_more (dg_lt u 1)).1
            · rw [v2]; exact (own_more (dg_lt u 2)).1
            · rw [v3]; exact (own_more (dg_lt u 3)).1
            · rw [v4]; exact (own_last (dg_lt u 4)).1
          have hm : ∀ i, i + 1 < 5 → g' (A + i) < 0 := fun i hi => by
            have hc : i = 0 ∨ i = 1 ∨ i = 2 ∨ i = 3 := by omega
            rcases hc with rfl | rfl | rfl | rfl
            · rw [v0]; exact (own_more (dg_lt u 0)).2
            · rw [v1]; exact (own_more (dg_lt u 1)).2
            · rw [v2]; exact (own_more (dg_lt u 2)).2
            · rw [v3]; exact (own_more (dg_lt u 3)).2
          have hl : ∀ i, i + 1 = 5 → ¬ g' (A + i) < 0 := fun i hi => by
            obtain rfl : i = 4 := by omega
            rw [v4]; exact (own_last (dg_lt u 4)).2
          refine w_static X30 D0_358 (rm2 hw X30.sz a1 _ A 4 g' (dg u) rfl (dg_lt u) (by omega) (by decide) Bh hg hm hl) (hw _ (List.mem_of_getElem? (i := 7) rfl)) (hw _ (List.mem_of_getElem? (i := 8) rfl)) (hw _ (List.mem_of_getElem? (i := 9) rfl)) (hw _ (List.mem_of_getElem? (i := 10) rfl)) (by decide) pd_1 rfl (S := []) rfl rfl (Nat.le_of_ble_eq_true rfl) (Nat.le_of_ble_eq_true rfl) (Nat.le_of_ble_eq_true rfl) (Nat.le_of_ble_eq_true rfl) (fun v31 T31 h31 X31 q31 => ?_)
          obtain ⟨rfl, rfl⟩ := q31
          show Wp _ _ _ _ _ _ _ _ (mkF m 361 #[.val (.int a), .val (.int b), .val (.int c0), .val (.int e0), .val (.int (Int32.ofNat u)), .val (.int (Int32.ofNat A)), .val (.ref a1), .val (.int ((c0 ^^^ (jushr e0 (3 : Int32))) ^^^ (1515870810 : Int32))), .val (.int (5 : Int32))] [(.int (Int32.ofNat (sm (dg u) (4 + 1))))])
          refine w_iload X31 D0_361 rfl ?_
          refine w_icmpne X31 D0_363 (fun hc363 => by exact absurd (congrArg Int32.ofNat ((own_sum u).2.2.2.2 hu)) hc363) (fun hc363 => ?_)
          refine w_iconst X31 D0_366 (v := (1 : Int32)) rfl ?_
          refine w_goto X31 D0_367 ?_
          exact w_zreturn X31 D0_371 (by decide) (by decide) (rfl)
        · refine w_iconst X25 D0_193 (v := (4 : Int32)) rfl ?_
          refine w_istore X25 D0_194 (l' := #[.val (.int a), .val (.int b), .val (.int c0), .val (.int e0), .val (.int (Int32.ofNat u)), .val (.int (Int32.ofNat A)), .val (.ref a1), .val (.int ((c0 ^^^ (jushr e0 (3 : Int32))) ^^^ (1515870810 : Int32))), .val (.int (4 : Int32))]) rfl ?_
          refine w_goto X25 D0_196 ?_
          have f150 : ¬ u < 128 := fun z => hc150 ((ofNat_lt (b := 128) hu (by decide)).mpr z)
          have f164 : ¬ u < 16384 := fun z => hc164 ((ofNat_lt (b := 16384) hu (by decide)).mpr z)
          have f177 : ¬ u < 2097152 := fun z => hc177 ((ofNat_lt (b := 2097152) hu (by decide)).mpr z)
          have f190 : u < 268435456 := (ofNat_lt (b := 268435456) hu (by decide)).mp hc190
          refine w_aload X25 D0_202 rfl rfl ?_
          refine w_iload X25 D0_204 rfl ?_
          refine w_iload X25 D0_206 rfl ?_
          refine w_bipush X25 D0_208 (v := (127 : Int32)) rfl ?_
          refine w_iand X25 D0_210 ?_
          rw [show Int32.ofNat u &&& 127 = Int32.ofNat (dg u 0) from (n_low u 7).trans (by rw [dg]; congr 1; omega)]
          refine w_iload X25 D0_211 rfl ?_
          refine w_iconst X25 D0_213 (v := (1 : Int32)) rfl ?_
          refine w_icmple X25 D0_214 (fun hc214 => by exact absurd (by decide) hc214) (fun hc214 => ?_)
          refine w_sipush X25 D0_217 (v := (128 : Int32)) rfl ?_
          refine w_goto X25 D0_220 ?_
          refine w_ior X25 D0_224 ?_
          refine w_i2b X25 D0_225 ?_
          refine w_bastore X25 D0_226 Bg (A + 0) rfl (by omega) (fun T32 h32 X32 K32 B32 => ?_)
          refine w_iload X32 D0_227 rfl ?_
          refine w_iconst X32 D0_229 (v := (1 : Int32)) rfl ?_
          refine w_icmple X32 D0_230 (fun hc230 => by exact absurd (by decide) hc230) (fun hc230 => ?_)
          refine w_aload X32 D0_233 rfl rfl ?_
          refine w_iload X32 D0_235 rfl ?_
          refine w_iconst X32 D0_237 (v := (1 : Int32)) rfl ?_
          refine w_iadd X32 D0_238 ?_
          refine w_iload X32 D0_239 rfl ?_
          refine w_bipush X32 D0_241 (v := (7 : Int32)) rfl ?_
          refine w_iushr X32 D0_243 ?_
          refine w_bipush X32 D0_244 (v := (127 : Int32)) rfl ?_
          refine w_iand X32 D0_246 ?_
          rw [show jushr (Int32.ofNat u) 7 = Int32.ofNat (u / 2 ^ (7 * 1)) from n_ushr hu (k := 7) (by decide), show Int32.ofNat (u / 2 ^ (7 * 1)) &&& 127 = Int32.ofNat (dg u 1) from n_low _ 7]
          refine w_iload X32 D0_247 rfl ?_
          refine w_iconst X32 D0_249 (v := (2 : Int32)) rfl ?_
          refine w_icmple X32 D0_250 (fun hc250 => by exact absurd (by decide) hc250) (fun hc250 => ?_)
          refine w_sipush X32 D0_253 (v := (128 : Int32)) rfl ?_
          refine w_goto X32 D0_256 ?_
          refine w_ior X32 D0_260 ?_
          refine w_i2b X32 D0_261 ?_
          refine w_bastore X32 D0_262 B32 (A + 1) (n_add A 1) (by omega) (fun T33 h33 X33 K33 B33 => ?_)
          refine w_iload X33 D0_263 rfl ?_
          refine w_iconst X33 D0_265 (v := (2 : Int32)) rfl ?_
          refine w_icmple X33 D0_266 (fun hc266 => by exact absurd (by decide) hc266) (fun hc266 => ?_)
          refine w_aload X33 D0_269 rfl rfl ?_
          refine w_iload X33 D0_271 rfl ?_
          refine w_iconst X33 D0_273 (v := (2 : Int32)) rfl ?_
          refine w_iadd X33 D0_274 ?_
          refine w_iload X33 D0_275 rfl ?_
          refine w_bipush X33 D0_277 (v := (14 : Int32)) rfl ?_
          refine w_iushr X33 D0_279 ?_
          refine w_bipush X33 D0_280 (v := (127 : Int32)) rfl ?_
          refine w_iand X33 D0_282 ?_
          rw [show jushr (Int32.ofNat u) 14 = Int32.ofNat (u / 2 ^ (7 * 2)) from n_ushr hu (k := 14) (by decide), show Int32.ofNat (u / 2 ^ (7 * 2)) &&& 127 = Int32.ofNat (dg u 2) from n_low _ 7]
          refine w_iload X33 D0_283 rfl ?_
          refine w_iconst X33 D0_285 (v := (3 : Int32)) rfl ?_
          refine w_icmple X33 D0_286 (fun hc286 => by exact absurd (by decide) hc286) (fun hc286 => ?_)
          refine w_sipush X33 D0_289 (v := (128 : Int32)) rfl ?_
          refine w_goto X33 D0_292 ?_
          refine w_ior X33 D0_296 ?_
          refine w_i2b X33 D0_297 ?_
          refine w_bastore X33 D0_298 B33 (A + 2) (n_add A 2) (by omega) (fun T34 h34 X34 K34 B34 => ?_)
          refine w_iload X34 D0_299 rfl ?_
          refine w_iconst X34 D0_301 (v := (3 : Int32)) rfl ?_
          refine w_icmple X34 D0_302 (fun hc302 => by exact absurd (by decide) hc302) (fun hc302 => ?_)
          refine w_aload X34 D0_305 rfl rfl ?_
          refine w_iload X34 D0_307 rfl ?_
          refine w_iconst X34 D0_309 (v := (3 : Int32)) rfl ?_
          refine w_iadd X34 D0_310 ?_
          refine w_iload X34 D0_311 rfl ?_
          refine w_bipush X34 D0_313 (v := (21 : Int32)) rfl ?_
          refine w_iushr X34 D0_315 ?_
          refine w_bipush X34 D0_316 (v := (127 : Int32)) rfl ?_
          refine w_iand X34 D0_318 ?_
          rw [show jushr (Int32.ofNat u) 21 = Int32.ofNat (u / 2 ^ (7 * 3)) from n_ushr hu (k := 21) (by decide), show Int32.ofNat (u / 2 ^ (7 * 3)) &&& 127 = Int32.ofNat (dg u 3) from n_low _ 7]
          refine w_iload X34 D0_319 rfl ?_
          refine w_iconst X34 D0_321 (v := (4 : Int32)) rfl ?_
          refine w_icmple X34 D0_322 (fun hc322 => ?_) (fun hc322 => by exact absurd hc322 (by decide))
          refine w_iconst X34 D0_331 (v := (0 : Int32)) rfl ?_
          refine w_ior X34 D0_332 ?_
          refine w_i2b X34 D0_333 ?_
          refine w_bastore X34 D0_334 B34 (A + 3) (n_add A 3) (by omega) (fun T35 h35 X35 K35 B35 => ?_)
          refine w_iload X35 D0_335 rfl ?_
          refine w_iconst X35 D0_337 (v := (4 : Int32)) rfl ?_
          refine w_icmple X35 D0_338 (fun hc338 => ?_) (fun hc338 => by exact absurd hc338 (by decide))
          refine w_aload X35 D0_354 rfl rfl ?_
          refine w_iload X35 D0_356 rfl ?_
          obtain ⟨g', eg⟩ : ∃ g' : Nat → Int32, g' = (upd (upd (upd (upd g (A + 0) (jbyte (jbyte ((Int32.ofNat (dg u 0)) ||| (128 : Int32))))) (A + 1) (jbyte (jbyte ((Int32.ofNat (dg u 1)) ||| (128 : Int32))))) (A + 2) (jbyte (jbyte ((Int32.ofNat (dg u 2)) ||| (128 : Int32))))) (A + 3) (jbyte (jbyte ((Int32.ofNat (dg u 3)) ||| (0 : Int32))))) := ⟨_, rfl⟩
          have Bh : Ba Z n0 h35 a1 .byte 12 (bI g') := by rw [eg]; exact B35
          have v0 : g' (A + 0) = jbyte (jbyte (Int32.ofNat (dg u 0) ||| 128)) := by rw [eg, upd_ne _ _ (by omega), upd_ne _ _ (by omega), upd_ne _ _ (by omega), upd_at]
          have v1 : g' (A + 1) = jbyte (jbyte (Int32.ofNat (dg u 1) ||| 128)) := by rw [eg, upd_ne _ _ (by omega), upd_ne _ _ (by omega), upd_at]
          have v2 : g' (A + 2) = jbyte (jbyte (Int32.ofNat (dg u 2) ||| 128)) := by rw [eg, upd_ne _ _ (by omega), upd_at]
          have v3 : g' (A + 3) = jbyte (jbyte (Int32.ofNat (dg u 3) ||| 0)) := by rw [eg, upd_at]
          have hg : ∀ i, i < 4 → g' (A + i) &&& 127 = Int32.ofNat (dg u i) := fun i hi => by
            have hc : i = 0 ∨ i = 1 ∨ i = 2 ∨ i = 3 := by omega
            rcases hc with rfl | rfl | rfl | rfl
            · rw [v0]; exact (own_more (dg_lt u 0)).1
            · rw [v1]; exact (own_more (dg_lt u 1)).1
            · rw [v2]; exact (own_more (dg_lt u 2)).1
            · rw [v3]; exact (own_last0 (dg_lt u 3)).1
          have hm : ∀ i, i + 1 < 4 → g' (A + i) < 0 := fun i hi => by
            have hc : i = 0 ∨ i = 1 ∨ i = 2 := by omega
            rcases hc with rfl | rfl | rfl
            · rw [v0]; exact (own_more (dg_lt u 0)).2
            · rw [v1]; exact (own_more (dg_lt u 1)).2
            · rw [v2]; exact (own_more (dg_lt u 2)).2
          have hl : ∀ i, i + 1 = 4 → ¬ g' (A + i) < 0 := fun i hi => by
            obtain rfl : i = 3 := by omega
            rw [v3]; exact (own_last0 (dg_lt u 3)).2
          refine w_static X35 D0_358 (rm2 hw X35.sz a1 _ A 3 g' (dg u) rfl (dg_lt u) (by omega) (by decide) Bh hg hm hl) (hw _ (List.mem_of_getElem? (i := 7) rfl)) (hw _ (List.mem_of_getElem? (i := 8) rfl)) (hw _ (List.mem_of_getElem? (i := 9) rfl)) (hw _ (List.mem_of_getElem? (i := 10) rfl)) (by decide) pd_1 rfl (S := []) rfl rfl (Nat.le_of_ble_eq_true rfl) (Nat.le_of_ble_eq_true rfl) (Nat.le_of_ble_eq_true rfl) (Nat.le_of_ble_eq_true rfl) (fun v36 T36 h36 X36 q36 => ?_)
          obtain ⟨rfl, rfl⟩ := q36
          show Wp _ _ _ _ _ _ _ _ (mkF m 361 #[.val (.int a), .val (.int b), .val (.int c0), .val (.int e0), .val (.int (Int32.ofNat u)), .val (.int (Int32.ofNat A)), .val (.ref a1), .val (.int ((c0 ^^^ (jushr e0 (3 : Int32))) ^^^ (1515870810 : Int32))), .val (.int (4 : Int32))] [(.int (Int32.ofNat (sm (dg u) (3 + 1))))])
          refine w_iload X36 D0_361 rfl ?_
          refine w_icmpne X36 D0_363 (fun hc363 => by exact absurd (congrArg Int32.ofNat ((own_sum u).2.2.2.1 f190)) hc363) (fun hc363 => ?_)
          refine w_iconst X36 D0_366 (v := (1 : Int32)) rfl ?_
          refine w_goto X36 D0_367 ?_
          exact w_zreturn X36 D0_371 (by decide) (by decide) (rfl)
      · refine w_iconst X25 D0_180 (v := (3 : Int32)) rfl ?_
        refine w_istore X25 D0_181 (l' := #[.val (.int a), .val (.int b), .val (.int c0), .val (.int e0), .val (.int (Int32.ofNat u)), .val (.int (Int32.ofNat A)), .val (.ref a1), .val (.int ((c0 ^^^ (jushr e0 (3 : Int32))) ^^^ (1515870810 : Int32))), .val (.int (3 : Int32))]) rfl ?_
        refine w_goto X25 D0_183 ?_
        have f150 : ¬ u < 128 := fun z => hc150 ((ofNat_lt (b := 128) hu (by decide)).mpr z)
        have f164 : ¬ u < 16384 := fun z => hc164 ((ofNat_lt (b := 16384) hu (by decide)).mpr z)
        have f177 : u < 2097152 := (ofNat_lt (b := 2097152) hu (by decide)).mp hc177
        refine w_aload X25 D0_202 rfl rfl ?_
        refine w_iload X25 D0_204 rfl ?_
        refine w_iload X25 D0_206 rfl ?_
        refine w_bipush X25 D0_208 (v := (127 : Int32)) rfl ?_
        refine w_iand X25 D0_210 ?_
        rw [show Int32.ofNat u &&& 127 = Int32.ofNat (dg u 0) from (n_low u 7).trans (by rw [dg]; congr 1; omega)]
        refine w_iload X25 D0_211 rfl ?_
        refine w_iconst X25 D0_213 (v := (1 : Int32)) rfl ?_
        refine w_icmple X25 D0_214 (fun hc214 => by exact absurd (by decide) hc214) (fun hc214 => ?_)
        refine w_sipush X25 D0_217 (v := (128 : Int32)) rfl ?_
        refine w_goto X25 D0_220 ?_
        refine w_ior X25 D0_224 ?_
        refine w_i2b X25 D0_225 ?_
        refine w_bastore X25 D0_226 Bg (A + 0) rfl (by omega) (fun T37 h37 X37 K37 B37 => ?_)
        refine w_iload X37 D0_227 rfl ?_
        refine w_iconst X37 D0_229 (v := (1 : Int32)) rfl ?_
        refine w_icmple X37 D0_230 (fun hc230 => by exact absurd (by decide) hc230) (fun hc230 => ?_)
        refine w_aload X37 D0_233 rfl rfl ?_
        refine w_iload X37 D0_235 rfl ?_
        refine w_iconst X37 D0_237 (v := (1 : Int32)) rfl ?_
        refine w_iadd X37 D0_238 ?_
        refine w_iload X37 D0_239 rfl ?_
        refine w_bipush X37 D0_241 (v := (7 : Int32)) rfl ?_
        refine w_iushr X37 D0_243 ?_
        refine w_bipush X37 D0_244 (v := (127 : Int32)) rfl ?_
        refine w_iand X37 D0_246 ?_
        rw [show jushr (Int32.ofNat u) 7 = Int32.ofNat (u / 2 ^ (7 * 1)) from n_ushr hu (k := 7) (by decide), show Int32.ofNat (u / 2 ^ (7 * 1)) &&& 127 = Int32.ofNat (dg u 1) from n_low _ 7]
        refine w_iload X37 D0_247 rfl ?_
        refine w_iconst X37 D0_249 (v := (2 : Int32)) rfl ?_
        refine w_icmple X37 D0_250 (fun hc250 => by exact absurd (by decide) hc250) (fun hc250 => ?_)
        refine w_sipush X37 D0_253 (v := (128 : Int32)) rfl ?_
        refine w_goto X37 D0_256 ?_
        refine w_ior X37 D0_260 ?_
        refine w_i2b X37 D0_261 ?_
        refine w_bastore X37 D0_262 B37 (A + 1) (n_add A 1) (by omega) (fun T38 h38 X38 K38 B38 => ?_)
        refine w_iload X38 D0_263 rfl ?_
        refine w_iconst X38 D0_265 (v := (2 : Int32)) rfl ?_
        refine w_icmple X38 D0_266 (fun hc266 => by exact absurd (by decide) hc266) (fun hc266 => ?_)
        refine w_aload X38 D0_269 rfl rfl ?_
        refine w_iload X38 D0_271 rfl ?_
        refine w_iconst X38 D0_273 (v := (2 : Int32)) rfl ?_
        refine w_iadd X38 D0_274 ?_
        refine w_iload X38 D0_275 rfl ?_
        refine w_bipush X38 D0_277 (v := (14 : Int32)) rfl ?_
        refine w_iushr X38 D0_279 ?_
        refine w_bipush X38 D0_280 (v := (127 : Int32)) rfl ?_
        refine w_iand X38 D0_282 ?_
        rw [show jushr (Int32.ofNat u) 14 = Int32.ofNat (u / 2 ^ (7 * 2)) from n_ushr hu (k := 14) (by decide), show Int32.ofNat (u / 2 ^ (7 * 2)) &&& 127 = Int32.ofNat (dg u 2) from n_low _ 7]
        refine w_iload X38 D0_283 rfl ?_
        refine w_iconst X38 D0_285 (v := (3 : Int32)) rfl ?_
        refine w_icmple X38 D0_286 (fun hc286 => ?_) (fun hc286 => by exact absurd hc286 (by decide))
        refine w_iconst X38 D0_295 (v := (0 : Int32)) rfl ?_
        refine w_ior X38 D0_296 ?_
        refine w_i2b X38 D0_297 ?_
        refine w_bastore X38 D0_298 B38 (A + 2) (n_add A 2) (by omega) (fun T39 h39 X39 K39 B39 => ?_)
        refine w_iload X39 D0_299 rfl ?_
        refine w_iconst X39 D0_301 (v := (3 : Int32)) rfl ?_
        refine w_icmple X39 D0_302 (fun hc302 => ?_) (fun hc302 => by exact absurd hc302 (by decide))
        refine w_iload X39 D0_335 rfl ?_
        refine w_iconst X39 D0_337 (v := (4 : Int32)) rfl ?_
        refine w_icmple X39 D0_338 (fun hc338 => ?_) (fun hc338 => by exact absurd hc338 (by decide))
        refine w_aload X39 D0_354 rfl rfl ?_
        refine w_iload X39 D0_356 rfl ?_
        obtain ⟨g', eg⟩ : ∃ g' : Nat → Int32, g' = (upd (upd (upd g (A + 0) (jbyte (jbyte ((Int32.ofNat (dg u 0)) ||| (128 : Int32))))) (A + 1) (jbyte (jbyte ((Int32.ofNat (dg u 1)) ||| (128 : Int32))))) (A + 2) (jbyte (jbyte ((Int32.ofNat (dg u 2)) ||| (0 : Int32))))) := ⟨_, rfl⟩
        have Bh : Ba Z n0 h39 a1 .byte 12 (bI g') := by rw [eg]; exact B39
        have v0 : g' (A + 0) = jbyte (jbyte (Int32.ofNat (dg u 0) ||| 128)) := by rw [eg, upd_ne _ _ (by omega), upd_ne _ _ (by omega), upd_at]
        have v1 : g' (A + 1) = jbyte (jbyte (Int32.ofNat (dg u 1) ||| 128)) := by rw [eg, upd_ne _ _ (by omega), upd_at]
        have v2 : g' (A + 2) = jbyte (jbyte (Int32.ofNat (dg u 2) ||| 0)) := by rw [eg, upd_at]
        have hg : ∀ i, i < 3 → g' (A + i) &&& 127 = Int32.ofNat (dg u i) := fun i hi => by
          have hc : i = 0 ∨ i = 1 ∨ i = 2 := by omega
          rcases hc with rfl | rfl | rfl
          · rw [v0]; exact (own_more (dg_lt u 0)).1
          · rw [v1]; exact (own_more (dg_lt u 1)).1
          · rw [v2]; exact (own_last0 (dg_lt u 2)).1
        have hm : ∀ i, i + 1 < 3 → g' (A + i) < 0 := fun i hi => by
          have hc : i = 0 ∨ i = 1 := by omega
          rcases hc with rfl | rfl
          · rw [v0]; exact (own_more (dg_lt u 0)).2
          · rw [v1]; exact (own_more (dg_lt u 1)).2
        have hl : ∀ i, i + 1 = 3 → ¬ g' (A + i) < 0 := fun i hi => by
          obtain rfl : i = 2 := by omega
          rw [v2]; exact (own_last0 (dg_lt u 2)).2
        refine w_static X39 D0_358 (rm2 hw X39.sz a1 _ A 2 g' (dg u) rfl (dg_lt u) (by omega) (by decide) Bh hg hm hl) (hw _ (List.mem_of_getElem? (i := 7) rfl)) (hw _ (List.mem_of_getElem? (i := 8) rfl)) (hw _ (List.mem_of_getElem? (i := 9) rfl)) (hw _ (List.mem_of_getElem? (i := 10) rfl)) (by decide) pd_1 rfl (S := []) rfl rfl (Nat.le_of_ble_eq_true rfl) (Nat.le_of_ble_eq_true rfl) (Nat.le_of_ble_eq_true rfl) (Nat.le_of_ble_eq_true rfl) (fun v40 T40 h40 X40 q40 => ?_)
        obtain ⟨rfl, rfl⟩ := q40
        show Wp _ _ _ _ _ _ _ _ (mkF m 361 #[.val (.int a), .val (.int b), .val (.int c0), .val (.int e0), .val (.int (Int32.ofNat u)), .val (.int (Int32.ofNat A)), .val (.ref a1), .val (.int ((c0 ^^^ (jushr e0 (3 : Int32))) ^^^ (1515870810 : Int32))), .val (.int (3 : Int32))] [(.int (Int32.ofNat (sm (dg u) (2 + 1))))])
        refine w_iload X40 D0_361 rfl ?_
        refine w_icmpne X40 D0_363 (fun hc363 => by exact absurd (congrArg Int32.ofNat ((own_sum u).2.2.1 f177)) hc363) (fun hc363 => ?_)
        refine w_iconst X40 D0_366 (v := (1 : Int32)) rfl ?_
        refine w_goto X40 D0_367 ?_
        exact w_zreturn X40 D0_371 (by decide) (by decide) (rfl)
    · refine w_iconst X25 D0_167 (v := (2 : Int32)) rfl ?_
      refine w_istore X25 D0_168 (l' := #[.val (.int a), .val (.int b), .val (.int c0), .val (.int e0), .val (.int (Int32.ofNat u)), .val (.int (Int32.ofNat A)), .val (.ref a1), .val (.int ((c0 ^^^ (jushr e0 (3 : Int32))) ^^^ (1515870810 : Int32))), .val (.int (2 : Int32))]) rfl ?_
      refine w_goto X25 D0_170 ?_
      have f150 : ¬ u < 128 := fun z => hc150 ((ofNat_lt (b := 128) hu (by decide)).mpr z)
      have f164 : u < 16384 := (ofNat_lt (b := 16384) hu (by decide)).mp hc164
      refine w_aload X25 D0_202 rfl rfl ?_
      refine w_iload X25 D0_204 rfl ?_
      refine w_iload X25 D0_206 rfl ?_
      refine w_bipush X25 D0_208 (v := (127 : Int32)) rfl ?_
      refine w_iand X25 D0_210 ?_
      rw [show Int32.ofNat u &&& 127 = Int32.ofNat (dg u 0) from (n_low u 7).trans (by rw [dg]; congr 1; omega)]
      refine w_iload X25 D0_211 rfl ?_
      refine w_iconst X25 D0_213 (v := (1 : Int32)) rfl ?_
      refine w_icmple X25 D0_214 (fun hc214 => by exact absurd (by decide) hc214) (fun hc214 => ?_)
      refine w_sipush X25 D0_217 (v := (128 : Int32)) rfl ?_
      refine w_goto X25 D0_220 ?_
      refine w_ior X25 D0_224 ?_
      refine w_i2b X25 D0_225 ?_
      refine w_bastore X25 D0_226 Bg (A + 0) rfl (by omega) (fun T41 h41 X41 K41 B41 => ?_)
      refine w_iload X41 D0_227 rfl ?_
      refine w_iconst X41 D0_229 (v := (1 : Int32)) rfl ?_
      refine w_icmple X41 D0_230 (fun hc230 => by exact absurd (by decide) hc230) (fun hc230 => ?_)
      refine w_aload X41 D0_233 rfl rfl ?_
      refine w_iload X41 D0_235 rfl ?_
      refine w_iconst X41 D0_237 (v := (1 : Int32)) rfl ?_
      refine w_iadd X41 D0_238 ?_
      refine w_iload X41 D0_239 rfl ?_
      refine w_bipush X41 D0_241 (v := (7 : Int32)) rfl ?_
      refine w_iushr X41 D0_243 ?_
      refine w_bipush X41 D0_244 (v := (127 : Int32)) rfl ?_
      refine w_iand X41 D0_246 ?_
      rw [show jushr (Int32.ofNat u) 7 = Int32.ofNat (u / 2 ^ (7 * 1)) from n_ushr hu (k := 7) (by decide), show Int32.ofNat (u / 2 ^ (7 * 1)) &&& 127 = Int32.ofNat (dg u 1) from n_low _ 7]
      refine w_iload X41 D0_247 rfl ?_
      refine w_iconst X41 D0_249 (v := (2 : Int32)) rfl ?_
      refine w_icmple X41 D0_250 (fun hc250 => ?_) (fun hc250 => by exact absurd hc250 (by decide))
      refine w_iconst X41 D0_259 (v := (0 : Int32)) rfl ?_
      refine w_ior X41 D0_260 ?_
      refine w_i2b X41 D0_261 ?_
      refine w_bastore X41 D0_262 B41 (A + 1) (n_add A 1) (by omega) (fun T42 h42 X42 K42 B42 => ?_)
      refine w_iload X42 D0_263 rfl ?_
      refine w_iconst X42 D0_265 (v := (2 : Int32)) rfl ?_
      refine w_icmple X42 D0_266 (fun hc266 => ?_) (fun hc266 => by exact absurd hc266 (by decide))
      refine w_iload X42 D0_299 rfl ?_
      refine w_iconst X42 D0_301 (v := (3 : Int32)) rfl ?_
      refine w_icmple X42 D0_302 (fun hc302 => ?_) (fun hc302 => by exact absurd hc302 (by decide))
      refine w_iload X42 D0_335 rfl ?_
      refine w_iconst X42 D0_337 (v := (4 : Int32)) rfl ?_
      refine w_icmple X42 D0_338 (fun hc338 => ?_) (fun hc338 => by exact absurd hc338 (by decide))
      refine w_aload X42 D0_354 rfl rfl ?_
      refine w_iload X42 D0_356 rfl ?_
      obtain ⟨g', eg⟩ : ∃ g' : Nat → Int32, g' = (upd (upd g (A + 0) (jbyte (jbyte ((Int32.ofNat (dg u 0)) ||| (128 : Int32))))) (A + 1) (jbyte (jbyte ((Int32.ofNat (dg u 1)) ||| (0 : Int32))))) := ⟨_, rfl⟩
      have Bh : Ba Z n0 h42 a1 .byte 12 (bI g') := by rw [eg]; exact B42
      have v0 : g' (A + 0) = jbyte (jbyte (Int32.ofNat (dg u 0) ||| 128)) := by rw [eg, upd_ne _ _ (by omega), upd_at]
      have v1 : g' (A + 1) = jbyte (jbyte (Int32.ofNat (dg u 1) ||| 0)) := by rw [eg, upd_at]
      have hg : ∀ i, i < 2 → g' (A + i) &&& 127 = Int32.ofNat (dg u i) := fun i hi => by
        have hc : i = 0 ∨ i = 1 := by omega
        rcases hc with rfl | rfl
        · rw [v0]; exact (own_more (dg_lt u 0)).1
        · rw [v1]; exact (own_last0 (dg_lt u 1)).1
      have hm : ∀ i, i + 1 < 2 → g' (A + i) < 0 := fun i hi => by
        have hc : i = 0 := by omega
        rcases hc with rfl
        · rw [v0]; exact (own_more (dg_lt u 0)).2
      have hl : ∀ i, i + 1 = 2 → ¬ g' (A + i) < 0 := fun i hi => by
        obtain rfl : i = 1 := by omega
        rw [v1]; exact (own_last0 (dg_lt u 1)).2
      refine w_static X42 D0_358 (rm2 hw X42.sz a1 _ A 1 g' (dg u) rfl (dg_lt u) (by omega) (by decide) Bh hg hm hl) (hw _ (List.mem_of_getElem? (i := 7) rfl)) (hw _ (List.mem_of_getElem? (i := 8) rfl)) (hw _ (List.mem_of_getElem? (i := 9) rfl)) (hw _ (List.mem_of_getElem? (i := 10) rfl)) (by decide) pd_1 rfl (S := []) rfl rfl (Nat.le_of_ble_eq_true rfl) (Nat.le_of_ble_eq_true rfl) (Nat.le_of_ble_eq_true rfl) (Nat.le_of_ble_eq_true rfl) (fun v43 T43 h43 X43 q43 => ?_)
      obtain ⟨rfl, rfl⟩ := q43
      show Wp _ _ _ _ _ _ _ _ (mkF m 361 #[.val (.int a), .val (.int b), .val (.int c0), .val (.int e0), .val (.int (Int32.ofNat u)), .val (.int (Int32.ofNat A)), .val (.ref a1), .val (.int ((c0 ^^^ (jushr e0 (3 : Int32))) ^^^ (1515870810 : Int32))), .val (.int (2 : Int32))] [(.int (Int32.ofNat (sm (dg u) (1 + 1))))])
      refine w_iload X43 D0_361 rfl ?_
      refine w_icmpne X43 D0_363 (fun hc363 => by exact absurd (congrArg Int32.ofNat ((own_sum u).2.1 f164)) hc363) (fun hc363 => ?_)
      refine w_iconst X43 D0_366 (v := (1 : Int32)) rfl ?_
      refine w_goto X43 D0_367 ?_
      exact w_zreturn X43 D0_371 (by decide) (by decide) (rfl)
  · refine w_iconst X25 D0_153 (v := (1 : Int32)) rfl ?_
    refine w_istore X25 D0_154 (l' := #[.val (.int a), .val (.int b), .val (.int c0), .val (.int e0), .val (.int (Int32.ofNat u)), .val (.int (Int32.ofNat A)), .val (.ref a1), .val (.int ((c0 ^^^ (jushr e0 (3 : Int32))) ^^^ (1515870810 : Int32))), .val (.int (1 : Int32))]) rfl ?_
    refine w_goto X25 D0_156 ?_
    have f150 : u < 128 := (ofNat_lt (b := 128) hu (by decide)).mp hc150
    refine w_aload X25 D0_202 rfl rfl ?_
    refine w_iload X25 D0_204 rfl ?_
    refine w_iload X25 D0_206 rfl ?_
    refine w_bipush X25 D0_208 (v := (127 : Int32)) rfl ?_
    refine w_iand X25 D0_210 ?_
    rw [show Int32.ofNat u &&& 127 = Int32.ofNat (dg u 0) from (n_low u 7).trans (by rw [dg]; congr 1; omega)]
    refine w_iload X25 D0_211 rfl ?_
    refine w_iconst X25 D0_213 (v := (1 : Int32)) rfl ?_
    refine w_icmple X25 D0_214 (fun hc214 => ?_) (fun hc214 => by exact absurd hc214 (by decide))
    refine w_iconst X25 D0_223 (v := (0 : Int32)) rfl ?_
    refine w_ior X25 D0_224 ?_
    refine w_i2b X25 D0_225 ?_
    refine w_bastore X25 D0_226 Bg (A + 0) rfl (by omega) (fun T44 h44 X44 K44 B44 => ?_)
    refine w_iload X44 D0_227 rfl ?_
    refine w_iconst X44 D0_229 (v := (1 : Int32)) rfl ?_
    refine w_icmple X44 D0_230 (fun hc230 => ?_) (fun hc230 => by exact absurd hc230 (by decide))
    refine w_iload X44 D0_263 rfl ?_
    refine w_iconst X44 D0_265 (v := (2 : Int32)) rfl ?_
    refine w_icmple X44 D0_266 (fun hc266 => ?_) (fun hc266 => by exact absurd hc266 (by decide))
    refine w_iload X44 D0_299 rfl ?_
    refine w_iconst X44 D0_301 (v := (3 : Int32)) rfl ?_
    refine w_icmple X44 D0_302 (fun hc302 => ?_) (fun hc302 => by exact absurd hc302 (by decide))
    refine w_iload X44 D0_335 rfl ?_
    refine w_iconst X44 D0_337 (v := (4 : Int32)) rfl ?_
    refine w_icmple X44 D0_338 (fun hc338 => ?_) (fun hc338 => by exact absurd hc338 (by decide))
    refine w_aload X44 D0_354 rfl rfl ?_
    refine w_iload X44 D0_356 rfl ?_
    obtain ⟨g', eg⟩ : ∃ g' : Nat → Int32, g' = (upd g (A + 0) (jbyte (jbyte ((Int32.ofNat (dg u 0)) ||| (0 : Int32))))) := ⟨_, rfl⟩
    have Bh : Ba Z n0 h44 a1 .byte 12 (bI g') := by rw [eg]; exact B44
    have v0 : g' (A + 0) = jbyte (jbyte (Int32.ofNat (dg u 0) ||| 0)) := by rw [eg, upd_at]
    have hg : ∀ i, i < 1 → g' (A + i) &&& 127 = Int32.ofNat (dg u i) := fun i hi => by
      have hc : i = 0 := by omega
      rcases hc with rfl
      · rw [v0]; exact (own_last0 (dg_lt u 0)).1
    have hm : ∀ i, i + 1 < 1 → g' (A + i) < 0 := fun i hi => by omega
    have hl : ∀ i, i + 1 = 1 → ¬ g' (A + i) < 0 := fun i hi => by
      obtain rfl : i = 0 := by omega
      rw [v0]; exact (own_last0 (dg_lt u 0)).2
    refine w_static X44 D0_358 (rm2 hw X44.sz a1 _ A 0 g' (dg u) rfl (dg_lt u) (by omega) (by decide) Bh hg hm hl) (hw _ (List.mem_of_getElem? (i := 7) rfl)) (hw _ (List.mem_of_getElem? (i := 8) rfl)) (hw _ (List.mem_of_getElem? (i := 9) rfl)) (hw _ (List.mem_of_getElem? (i := 10) rfl)) (by decide) pd_1 rfl (S := []) rfl rfl (Nat.le_of_ble_eq_true rfl) (Nat.le_of_ble_eq_true rfl) (Nat.le_of_ble_eq_true rfl) (Nat.le_of_ble_eq_true rfl) (fun v45 T45 h45 X45 q45 => ?_)
    obtain ⟨rfl, rfl⟩ := q45
    show Wp _ _ _ _ _ _ _ _ (mkF m 361 #[.val (.int a), .val (.int b), .val (.int c0), .val (.int e0), .val (.int (Int32.ofNat u)), .val (.int (Int32.ofNat A)), .val (.ref a1), .val (.int ((c0 ^^^ (jushr e0 (3 : Int32))) ^^^ (1515870810 : Int32))), .val (.int (1 : Int32))] [(.int (Int32.ofNat (sm (dg u) (0 + 1))))])
    refine w_iload X45 D0_361 rfl ?_
    refine w_icmpne X45 D0_363 (fun hc363 => by exact absurd (congrArg Int32.ofNat ((own_sum u).1 f150)) hc363) (fun hc363 => ?_)
    refine w_iconst X45 D0_366 (v := (1 : Int32)) rfl ?_
    refine w_goto X45 D0_367 ?_
    exact w_zreturn X45 D0_371 (by decide) (by decide) (rfl)
set_option maxRecDepth 65536 in
set_option maxHeartbeats 40000000 in
theorem comes_1 {Post : Tables → Env → Array Value → State → Outcome → State → Prop} (hpost : ∀ tb e args s v u, (limb_1_1.after args s (.returned v) u = true ∧ limb_1_2.after args s (.returned v) u = true ∧ True) → FrameEnd s (.returned v) u (Jvm.fieldLocs frame_1_writes args s ++ Jvm.arrayLocs frame_1_arrays args s ++ Jvm.staticLocs frame_1_statics s) 16 128 → Post tb e args s (.returned v) u) :
    ArmFor flags0 classFile x code maxLocals ret World_1 tables_1 room_1 Calls_1 rest_1 Pre_1 Post := by
  intro l hfl _ _ p e ha hc hk s m args below hf hA hF happ hP
  obtain ⟨hcalls, hrest, hpre⟩ := hP
  obtain ⟨-, -, -, hnamed, -, -, -, hat⟩ := (Spec.applies_iff hf).mp happ
  obtain ⟨hg, hn⟩ := and_e (Cond.before_iff.mp (show (Jvm.Cond.and given_1 narrow_1).before args s = true from hpre))
  obtain ⟨hcount, g0⟩ := and_e hg
  obtain ⟨ga0, g1⟩ := and_e g0
  obtain ⟨ga1, g2⟩ := and_e g1
  obtain ⟨ga2, g3⟩ := and_e g2
  obtain ⟨w0, w1, w2, w3, rfl⟩ : ∃ w0 w1 w2 w3 : Value, args = #[w0, w1, w2, w3] := by
    have hs : args.size = 4 := by simpa [Cond.value, given_1] using hcount
    obtain ⟨L⟩ := args
    match L, hs with
    | [w0, w1, w2, w3], _ => exact ⟨w0, w1, w2, w3, rfl⟩
  have hw := fun d (hd : d ∈ tables_1) => atoms_spec (ws := Jvm.Cond.code x code maxLocals ret :: tables_1) hat d (List.mem_cons_of_mem _ hd)
  obtain ⟨i0, ei0⟩ := is_v ga0
  obtain rfl : w0 = (.int i0) := Option.some.inj ei0
  obtain ⟨i1, ei1⟩ := is_v ga1
  obtain rfl : w1 = (.int i1) := Option.some.inj ei1
  obtain ⟨i2, ei2⟩ := is_v ga2
  obtain rfl : w2 = (.int i2) := Option.some.inj ei2
  obtain ⟨i3, ei3⟩ := is_v g3
  obtain rfl : w3 = (.int i3) := Option.some.inj ei3
  obtain ⟨n, o, h1, h2, h3, _, L, rfl, ⟨N, -, rfl⟩, hq⟩ := rm0 (l := l) (Z := s) (n0 := s.heap.size) (h := s.heap) hw (Nat.le_refl _) i0 i1 i2 i3 p e ha hc hk s m _ below hf ((Spec.applies_iff_loose hf).mp happ).1 ⟨rfl, State.Warmed39.refl s, rfl⟩ trivial
  refine ⟨n, _, h1, h2, h3, hpost _ _ _ _ _ _ ⟨Cond.after_iff.mpr rfl, Cond.after_iff.mpr (eq_i res_at (Term.int_eval (1)) rfl), trivial⟩ ⟨hq.1, hq.2.1, (hq.2.2.sift fun y hy => Or.inr (N y hy)).mono (by decide) (by decide)⟩⟩
theorem main_1_1 : Claimed_1_1 := comes_1 fun _ _ _ _ _ _ h hF => ⟨h.1, hF⟩
theorem main_1_2 : Claimed_1_2 := comes_1 fun _ _ _ _ _ _ h hF => ⟨h.2.1, hF⟩
end Jvm.Pilot.@@N@@
namespace Jvm.Pilot.@@N@@
open Jvm Jvm.ClassFile Sem Op Lib Jvm.Free Jvm.Stand Jvm.Pilot.@@N@@.Jvm.D
/-! MADE BY PROGRAM (witnessworld.py) out of the Statement's table words and the real class files: 9 classes; the members and pool entries that the words name. The judged class is class 1, her method 2. -/
namespace start1
open Jvm.ClassFile
def u (s : String) : CpInfo := .utf8 (stringToUtf16 s)
/-- a pool by its gaps: so many unusable entries, then the entry; so many at the end -/
def gap : Nat → List CpInfo → List CpInfo
  | 0, r => r
  | n + 1, r => .unusable :: gap n r
def poolList (es : List (Nat × CpInfo)) (last : Nat) : List CpInfo := es.foldr (fun e r => gap e.1 (e.2 :: r)) (gap last [])
def pool (es : List (Nat × CpInfo)) (last : Nat) : Array CpInfo := ⟨poolList es last⟩
def fileOf (pool : Array CpInfo) (this : Nat) (attrs : Array Attribute := #[]) (ms : Array MethodInfo := #[]) (fl : Nat := 33) (sup : Nat := 0) (ifs : Array Nat := #[]) (fds : Array FieldInfo := #[]) : ClassFile where
  minorVersion := 0
  majorVersion := 65
  constantPool := pool
  accessFlags := fl
  thisClass := this
  superClass := sup
  interfaces := ifs
  fields := fds
  methods := ms
  attributes := attrs
def plain (name : String) (sup : Option ClassId) : Class where
  name := name
  kind := .ordinary
  loader := none
  accessFlags := 33
  super := sup
  interfaces := #[]
  cf := none
  fields := #[]
  methods := #[]
  instanceTypes := #[]
  staticTypes := #[]
  resolved := #[]
  callSites := []
  init := .initialized
  statics := none
  mirror := none

def pool0 : Array CpInfo := pool [(5, u "<init>"), (0, u "()V"), (1, .class_ 10), (1, u "java/lang/Object")] 113

def k0m0 : Method := { name := "<init>", desc := "()V", sig := { parameters := [], returnType := none }, accessFlags := 1, code := none }
/-- java/lang/Object -/
def k0 : Class := { plain "java/lang/Object" none with
  accessFlags := 33
  interfaces := #[]
  cf := some (fileOf pool0 8 #[] #[{ accessFlags := 1, nameIndex := 5, descriptorIndex := 6, attributes := #[] }] 33 0 #[] #[])
  fields := #[]
  methods := #[k0m0]
  instanceTypes := #[]
  staticTypes := #[]
  resolved := Array.replicate 124 none
  statics := none }

def pool1 : Array CpInfo := pool [(2, .class_ 4), (1, u "java/lang/Object"), (0, u "<init>"), (0, u "()V"), (0, .integer 2147483647), (0, .integer 1515870810), (0, .methodref 10 11), (0, .class_ 12), (0, .nameAndType 13 14), (0, u "foldmill/MapOutputLengthAtPinLaw"), (0, u "jb"), (0, u "(II)B"), (0, .integer 2097152), (0, .integer 268435456), (0, .methodref 18 19), (0, .class_ 20), (0, .nameAndType 21 22), (0, u "foldmill/MapOutput"), (0, u "lengthAt"), (0, u "([BI)I"), (2, u "law"), (0, u "(IIII)Z")] 5

def k1m0 : Method := { name := "<init>", desc := "()V", sig := { parameters := [], returnType := none }, accessFlags := 1, code := none }
def k1c1 : Code := { maxStack := 3, maxLocals := 2, code := method_2_code, exceptionTable := #[], attributes := #[] }
def k1m1 : Method := { name := "jb", desc := "(II)B", sig := { parameters := [.int, .int], returnType := some .byte }, accessFlags := 10, code := some k1c1 }
def k1c2 : Code := { maxStack := 5, maxLocals := 9, code := code, exceptionTable := #[], attributes := #[] }
def k1m2 : Method := { name := "law", desc := "(IIII)Z", sig := { parameters := [.int, .int, .int, .int], returnType := some .boolean }, accessFlags := 9, code := some k1c2 }
/-- foldmill/MapOutputLengthAtPinLaw -/
def k1 : Class := { plain "foldmill/MapOutputLengthAtPinLaw" (some 0) with
  accessFlags := 49
  interfaces := #[]
  cf := some (fileOf pool1 10 #[] #[{ accessFlags := 1, nameIndex := 5, descriptorIndex := 6, attributes := #[] }, { accessFlags := 10, nameIndex := 13, descriptorIndex := 14, attributes := #[] }, { accessFlags := 9, nameIndex := 25, descriptorIndex := 26, attributes := #[] }] 49 2 #[] #[])
  fields := #[]
  methods := #[k1m0, k1m1, k1m2]
  instanceTypes := #[]
  staticTypes := #[]
  resolved := Array.replicate 32 none
  statics := none }

def pool2 : Array CpInfo := pool [(2, .class_ 4), (1, u "java/lang/Object"), (3, .class_ 10), (1, u "foldmill/MapOutput"), (0, u "file"), (0, u "Ljava/nio/file/Path;"), (2, u "segmentStarts"), (0, u "[J"), (2, u "records"), (0, u "J"), (2, u "checksum"), (5, u "BUFFER_SIZE"), (0, u "I"), (2, u "MAX_LENGTH_SIZE"), (18, u "lengthAt"), (0, u "([BI)I"), (4, .class_ 59), (0, u "foldmill/MapOutput$Reader"), (0, .class_ 61), (0, u "foldmill/MapOutput$Writer")] 3

def k2c0 : Code := { maxStack := 3, maxLocals := 6, code := prog_8_method_11_code, exceptionTable := #[], attributes := #[] }
def k2m0 : Method := { name := "lengthAt", desc := "([BI)I", sig := { parameters := [(.array .byte), .int], returnType := some .int }, accessFlags := 8, code := some k2c0 }
/-- foldmill/MapOutput -/
def k2 : Class := { plain "foldmill/MapOutput" (some 0) with
  accessFlags := 48
  interfaces := #[]
  cf := some (fileOf pool2 8 #[.nestMembers #[58, 60]] #[{ accessFlags := 8, nameIndex := 52, descriptorIndex := 53, attributes := #[] }] 48 2 #[] #[{ accessFlags := 26, nameIndex := 29, descriptorIndex := 30, attributes := #[] }, { accessFlags := 26, nameIndex := 33, descriptorIndex := 30, attributes := #[] }, { accessFlags := 18, nameIndex := 11, descriptorIndex := 12, attributes := #[] }, { accessFlags := 18, nameIndex := 15, descriptorIndex := 16, attributes := #[] }, { accessFlags := 18, nameIndex := 19, descriptorIndex := 20, attributes := #[] }, { accessFlags := 18, nameIndex := 23, descriptorIndex := 20, attributes := #[] }])
  fields := #[{ name := "BUFFER_SIZE", type := .int, accessFlags := 26, slot := 0, constantValue := 0 }, { name := "MAX_LENGTH_SIZE", type := .int, accessFlags := 26, slot := 1, constantValue := 0 }, { name := "file", type := (.object "java/nio/file/Path"), accessFlags := 18, slot := 0, constantValue := 0 }, { name := "segmentStarts", type := (.array .long), accessFlags := 18, slot := 1, constantValue := 0 }, { name := "records", type := .long, accessFlags := 18, slot := 2, constantValue := 0 }, { name := "checksum", type := .long, accessFlags := 18, slot := 3, constantValue := 0 }]
  methods := #[k2m0]
  instanceTypes := #[(.object "java/nio/file/Path"), (.array .long), .long, .long]
  staticTypes := #[.int, .int]
  resolved := Array.replicate 65 none
  statics := none }

def pool3 : Array CpInfo := pool [(1, u "java/lang/Cloneable"), (0, .class_ 1), (0, u "java/lang/Object"), (0, .class_ 3)] 3

/-- java/lang/Cloneable -/
def k3 : Class := { plain "java/lang/Cloneable" (some 0) with
  accessFlags := 1537
  interfaces := #[]
  cf := some (fileOf pool3 2 #[] #[] 1537 4 #[] #[])
  fields := #[]
  methods := #[]
  instanceTypes := #[]
  staticTypes := #[]
  resolved := Array.replicate 8 none
  statics := none }

def pool4 : Array CpInfo := pool [(1, u "java/io/Serializable"), (0, .class_ 1), (0, u "java/lang/Object"), (0, .class_ 3)] 3

/-- java/io/Serializable -/
def k4 : Class := { plain "java/io/Serializable" (some 0) with
  accessFlags := 1537
  interfaces := #[]
  cf := some (fileOf pool4 2 #[] #[] 1537 4 #[] #[])
  fields := #[]
  methods := #[]
  instanceTypes := #[]
  staticTypes := #[]
  resolved := Array.replicate 8 none
  statics := none }

/-- the primitive byte -/
def k5 : Class := { plain "byte" none with kind := .primitive 'B', accessFlags := 0x411 }
/-- [B -/
def k6 : Class := { plain "[B" (some 0) with kind := .array 5 .byte, interfaces := #[3, 4], accessFlags := 1041 }

/-- the primitive int -/
def k7 : Class := { plain "int" none with kind := .primitive 'I', accessFlags := 0x411 }
/-- [I -/
def k8 : Class := { plain "[I" (some 0) with kind := .array 7 .int, interfaces := #[3, 4], accessFlags := 1041 }

def heap : Heap := #[]
def classes : Array Class := #[k0, k1, k2, k3, k4, k5, k6, k7, k8]
def interned : List (Array UInt16 × Addr) := []
def slotsUsed : Nat := 0
def theMethod : MethodId := ⟨1, 2⟩
def args0 : Array Value := #[.int 300, .int 2, .int 7, .int 9]
def aboutOver (below : List Frame) : State where
  vm := { classes := classes, interned := interned.toArray }
  heap := heap
  slotsUsed := slotsUsed
  threads := #[{ frames := .invoking theMethod args0 :: below }]
def below0 : List Frame := [.native { method := ⟨0, 0⟩, args := #[] }]
def about1 : State := aboutOver below0
def p0 : Program := .bare "" "" ""
def e0 : Env := launch0.env 0 0 0
theorem w_frames : about1.frames = Frame.invoking theMethod args0 :: below0 := rfl
set_option maxRecDepth 65536 in
theorem w_args : argsFit about1.vm theMethod args0 = true := by decide +kernel
set_option maxRecDepth 65536 in
theorem w_heap : heapFits about1 = true := by decide +kernel
set_option maxRecDepth 65536 in
theorem w_runnable : about1.curStatus? = some .runnable := by decide +kernel
set_option maxRecDepth 65536 in
theorem w_alone : about1.alone = true := by decide +kernel
set_option maxRecDepth 65536 in
theorem w_named : about1.methodNamed? x = some theMethod := by decide +kernel
set_option maxRecDepth 65536 in
theorem w_hears : about1.hears theMethod below0 = true := by decide +kernel
set_option maxRecDepth 65536 in
theorem w_ripe : about1.ripe theMethod args0 below0 = true := by decide +kernel
theorem w_running : about1.status = .running := rfl
set_option maxRecDepth 65536 in
theorem w_room : about1.hasRoom e0.platform room_1 = true :=
  launch0.hasRoom_least _ room_1 (by decide +kernel) (by decide +kernel) (by decide +kernel) (by decide +kernel) (by decide +kernel) (by decide +kernel)
theorem allAtoms_all (ts : List Jvm.Cond) (a : Array Jvm.Value) (st : Jvm.State) : (allAtoms ts).before a st = ts.all (fun c => c.before a st) := by
  induction ts with
  | nil => rfl
  | cons c t ih =>
    show (Jvm.Cond.and c (allAtoms t)).before a st = _
    rw [Jvm.Cond.before_and, ih, List.all_cons]
def words1 : List Jvm.Cond := Jvm.Cond.code x code maxLocals ret :: tables_1
/-- a 'code' word, met by the world's own term for the bytes: nothing is compared byte by byte -/
theorem code_word {y : MethodName} {bytes : ByteArray} {mx : Nat} {rt : Option FieldType} {a : Array Value} {s : State} {m : MethodId} {meth : Method} {c : Code} (h1 : s.methodNamed? y = some m) (h2 : s.vm.method? m = some meth) (h3 : meth.code = some c) (h4 : c.code = bytes)
    (h5 : (c.maxLocals == mx && c.exceptionTable.isEmpty && decide (c.maxStack ≤ mostOperands) && decide (meth.sig.returnType = rt) && !meth.locks && decide (parseMethodDescriptor y.desc = some meth.sig)) = true) : (Jvm.Cond.code y bytes mx rt).before a s = true := by
  simp only [Bool.and_eq_true, beq_iff_eq, Bool.not_eq_true', decide_eq_true_eq] at h5
  obtain ⟨⟨⟨⟨⟨g1, g2⟩, g3⟩, g4⟩, g5⟩, g6⟩ := h5
  simp [Cond.before, Cond.holds, Cond.value, h1, h2, h3, h4, g1, g2, g3, g4, g5, g6]
def isCode : Jvm.Cond → Bool
  | .code _ _ _ _ => true
  | _ => false
theorem all_split {L : List Jvm.Cond} {P : Jvm.Cond → Bool} (h1 : L.all (fun c => isCode c || P c) = true) (h2 : ∀ c ∈ L.filter isCode, P c = true) : L.all P = true := by
  refine List.all_eq_true.mpr fun c hc => ?_
  have h := List.all_eq_true.mp h1 c hc
  rcases Bool.eq_false_or_eq_true (isCode c) with hi | hi
  · exact h2 c (List.mem_filter.mpr ⟨hc, hi⟩)
  · simpa [hi] using h
set_option maxRecDepth 65536 in
theorem w_c0 : (Jvm.Cond.code x code maxLocals ret).before args0 about1 = true := code_word (m := ⟨1, 2⟩) (meth := k1m2) (c := k1c2) (by decide +kernel) rfl rfl rfl (by decide +kernel)
set_option maxRecDepth 65536 in
theorem w_c1 : (Jvm.Cond.code ({ cls := "foldmill/MapOutputLengthAtPinLaw", name := "jb", desc := "(II)B" } : Jvm.MethodName) method_2_code (2 : Nat) (Option.some Jvm.ClassFile.FieldType.byte)).before args0 about1 = true := code_word (m := ⟨1, 1⟩) (meth := k1m1) (c := k1c1) (by decide +kernel) rfl rfl rfl (by decide +kernel)
set_option maxRecDepth 65536 in
theorem w_c2 : (Jvm.Cond.code ({ cls := "foldmill/MapOutput", name := "lengthAt", desc := "([BI)I" } : Jvm.MethodName) prog_8_method_11_code (6 : Nat) (Option.some Jvm.ClassFile.FieldType.int)).before args0 about1 = true := code_word (m := ⟨2, 0⟩) (meth := k2m0) (c := k2c0) (by decide +kernel) rfl rfl rfl (by decide +kernel)
def codes1 : List Jvm.Cond := [Jvm.Cond.code x code maxLocals ret, Jvm.Cond.code ({ cls := "foldmill/MapOutputLengthAtPinLaw", name := "jb", desc := "(II)B" } : Jvm.MethodName) method_2_code (2 : Nat) (Option.some Jvm.ClassFile.FieldType.byte), Jvm.Cond.code ({ cls := "foldmill/MapOutput", name := "lengthAt", desc := "([BI)I" } : Jvm.MethodName) prog_8_method_11_code (6 : Nat) (Option.some Jvm.ClassFile.FieldType.int)]
set_option maxRecDepth 65536 in
theorem codes_eq : words1.filter isCode = codes1 := rfl
theorem w_codes : ∀ c ∈ words1.filter isCode, c.before args0 about1 = true := by
  rw [codes_eq]
  intro c hc
  simp only [codes1, List.mem_cons, List.not_mem_nil, or_false] at hc
  rcases hc with rfl | rfl | rfl
  · exact w_c0
  · exact w_c1
  · exact w_c2
set_option maxRecDepth 65536 in
theorem w_t1 : words1.all (fun c => isCode c || c.before args0 about1) = true := by decide +kernel
theorem w_tables : (allAtoms (Jvm.Cond.code x code maxLocals ret :: tables_1)).before args0 about1 = true := by
  rw [allAtoms_all]
  show words1.all (fun c => c.before args0 about1) = true
  refine all_split ?_ w_codes
  rw [w_t1]
set_option maxRecDepth 65536 in
theorem w_case : (Jvm.Cond.and given_1 narrow_1).before args0 about1 = true := by decide +kernel
theorem w_applies : (headSpec (Jvm.Cond.code x code maxLocals ret :: tables_1) room_1).applies x e0.platform about1 = true :=
  (Spec.applies_iff w_frames).mpr ⟨w_running, w_runnable, w_alone, w_named, w_hears, w_ripe, w_room, w_tables⟩
theorem atStart : AtStart classFile x code maxLocals ret World_1 tables_1 room_1 Calls_1 rest_1 Pre_1 launch0 p0 e0 about1 theMethod args0 below0 :=
  ⟨lists_1, trivial, launch0.admits_env _ _ _, launch0.least_env, fairChoices_fair.cas, fairChoices_fair.clock, w_frames, w_args, w_heap, w_applies, trivial, trivial, w_case⟩
end start1
theorem witness_1 : WitnessClaimed_1 := ⟨start1.p0, start1.e0, start1.about1, start1.theMethod, start1.args0, start1.below0, start1.atStart⟩
end Jvm.Pilot.@@N@@
